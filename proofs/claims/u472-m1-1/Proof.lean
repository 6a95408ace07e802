import JvmDerived
import JvmDerived.Pilot.@@N@@Statement
import JvmDerived.Pilot.@@N@@Code
set_option linter.unusedVariables false
set_option linter.unusedSimpArgs false
namespace Jvm.RoadKit
open Sem ClassFile Op Lib Jvm.Stand Jvm.Free Jvm.LawKit
section New
variable {p : Program} {l : Launch} {e : Env} {R : Room} {s : State} {m : MethodId} {args : Array Value} {below : List Frame} {meth : Method} {c : Code} {T : State} {locs : List Loc} {cells slots : Nat}
theorem retI (X : Stand p l e R s m args below meth c T locs cells slots) (hx : p.tables.exec = Jvm.exec) {pc : Nat} {Ls : Array Slot} {z : Int32} {rest : List Value} (hret : meth.sig.returnType = some .int) (hd : decode c.code pc = .ok (.ireturn, 1)) {fs : List Frame}
    (hl : ∀ (f : JFrame) (acts : List Action), f.method = m → f.locked = none → f.entered = [] → (doReturn e (T.setTop f) acts (some (.int z))).1 = T.setFrames fs) : Steps p.tables e below (T.setTop (mkF m pc Ls (.int z :: rest))) (T.setFrames fs) := by
  have hm' : T.vm.method? m = some meth := X.method'
  have hn : narrow .int (.int z) = .int z := rfl
  show Steps p.tables e below (T.setTop { method := m, pc := pc, locals := Ls, stack := _ :: rest, locked := none }) _
  jvm_step X.here [X.here.top, hx, hd, hm', hret, hn]
  first | (intro acts; rw [hl _ acts rfl rfl rfl]) | rw [hl _ _ rfl rfl rfl]
  exact Steps.refl _
/-- a run from A that ends in an outcome with P -/
def Gl (tb : Tables) (e : Env) (below : List Frame) (P : Outcome → State → Prop) (A : State) : Prop := ∃ s₂ o, Steps tb e below A s₂ ∧ s₂.status = .running ∧ Ended s₂ below o ∧ P o s₂
theorem Gl.pre {tb : Tables} {e : Env} {below : List Frame} {P : Outcome → State → Prop} {A B : State} (h : ∀ t, Steps tb e below B t → Steps tb e below A t) (g : Gl tb e below P B) : Gl tb e below P A := by
  obtain ⟨s2, o, h1, r⟩ := g; exact ⟨s2, o, h _ h1, r⟩
theorem own_finI (X : Stand p l e R s m args below meth c T locs cells slots) (hx : p.tables.exec = Jvm.exec) (hlk : meth.locks = false) {pc : Nat} {Ls : Array Slot} {z : Int32} {rest : List Value} (hret : meth.sig.returnType = some .int) (hd : decode c.code pc = .ok (.ireturn, 1)) {Q : Option Value → Heap → List Loc → Prop} {C S : Nat}
    (hq : Q (some (.int z)) T.heap locs) (hc : cells ≤ C) (hs : slots ≤ S) : Gl p.tables e below (fun o U' => ∃ v L, o = .returned v ∧ Q v U'.heap L ∧ FrameEnd s o U' L C S) (T.setTop (mkF m pc Ls (.int z :: rest))) := by
  obtain ⟨fs, hr, hrun, hended, hW, hsame⟩ := X.leave (v := some (.int z)) (fun h => by rw [hret] at h; cases h) hlk
  exact ⟨_, _, retI X hx hret hd hr, hrun, hended, _, _, rfl, hq, ⟨_, rfl⟩, hW, hsame.mono hc hs⟩
theorem own_finN (X : Stand p l e R s m args below meth c T locs cells slots) (hx : p.tables.exec = Jvm.exec) (hlk : meth.locks = false) {pc : Nat} {Ls : Array Slot} {z z' : Int32} {rest : List Value} {t : FieldType} (hret : meth.sig.returnType = some t) (ht : t = .boolean ∨ t = .byte ∨ t = .char ∨ t = .short) (hz : nar t z = z') (hd : decode c.code pc = .ok (.ireturn, 1)) {Q : Option Value → Heap → List Loc → Prop} {C S : Nat}
    (hq : Q (some (.int z')) T.heap locs) (hc : cells ≤ C) (hs : slots ≤ S) : Gl p.tables e below (fun o U' => ∃ v L, o = .returned v ∧ Q v U'.heap L ∧ FrameEnd s o U' L C S) (T.setTop (mkF m pc Ls (.int z :: rest))) := by
  subst hz
  obtain ⟨fs, hr, hrun, hended, hW, hsame⟩ := X.leave (v := some (.int (nar t z))) (fun h => by rw [hret] at h; cases h) hlk
  exact ⟨_, _, retN X hx hret ht hd hr, hrun, hended, _, _, rfl, hq, ⟨_, rfl⟩, hW, hsame.mono hc hs⟩
theorem own_finV (X : Stand p l e R s m args below meth c T locs cells slots) (hx : p.tables.exec = Jvm.exec) (hlk : meth.locks = false) {pc : Nat} {Ls : Array Slot} (hret : meth.sig.returnType = none) (hd : decode c.code pc = .ok (.return_, 1)) {Q : Option Value → Heap → List Loc → Prop} {C S : Nat}
    (hq : Q none T.heap locs) (hc : cells ≤ C) (hs : slots ≤ S) : Gl p.tables e below (fun o U' => ∃ v L, o = .returned v ∧ Q v U'.heap L ∧ FrameEnd s o U' L C S) (T.setTop (mkF m pc Ls [])) := by
  obtain ⟨fs, hr, hrun, hended, hW, hsame⟩ := X.leave (v := none) (fun _ => rfl) hlk
  exact ⟨_, _, X.returnOut hx hret hd hr, hrun, hended, _, _, rfl, hq, ⟨_, rfl⟩, hW, hsame.mono hc hs⟩
theorem own_finA (X : Stand p l e R s m args below meth c T locs cells slots) (hx : p.tables.exec = Jvm.exec) (hlk : meth.locks = false) {pc : Nat} {Ls : Array Slot} {w : Value} {rest : List Value} {t : FieldType} (hret : meth.sig.returnType = some t) (hw : w.isRef = true) (ht : t.isReference = true) (hd : decode c.code pc = .ok (.areturn, 1)) {Q : Option Value → Heap → List Loc → Prop} {C S : Nat}
    (hq : Q (some w) T.heap locs) (hc : cells ≤ C) (hs : slots ≤ S) : Gl p.tables e below (fun o U' => ∃ v L, o = .returned v ∧ Q v U'.heap L ∧ FrameEnd s o U' L C S) (T.setTop (mkF m pc Ls (w :: rest))) := by
  obtain ⟨fs, hr, hrun, hended, hW, hsame⟩ := X.leave (v := some w) (fun h => by rw [hret] at h; cases h) hlk
  have hn : narrow t w = w := by rcases ref_cases hw with rfl | ⟨z, rfl⟩ <;> cases t <;> rfl
  exact ⟨_, _, retOut X hx hret hn (Or.inr (Or.inr (Or.inr (Or.inr ⟨rfl, ht, hw⟩)))) hd hr, hrun, hended, _, _, rfl, hq, ⟨_, rfl⟩, hW, hsame.mono hc hs⟩
/-- Java's >>> -/
def own_ushr (x y : Int32) : Int32 := (x.toUInt32 >>> (y &&& 31).toUInt32).toInt32
def own_ushrL (x : Int64) (y : Int32) : Int64 := (x.toUInt64 >>> (y &&& 0x3f).toInt64.toUInt64).toInt64
/-- 1 where P holds, else 0 -/
def own_pi (P : Prop) [Decidable P] : Int32 := if P then 1 else 0
theorem own_pi_t {P : Prop} [Decidable P] (h : P) : own_pi P = 1 := if_pos h
theorem own_pi_f {P : Prop} [Decidable P] (h : ¬ P) : own_pi P = 0 := if_neg h
theorem own_pi_nt {P : Prop} [Decidable P] (h : P) : own_pi (¬ P) = 0 := if_neg (fun q => q h)
theorem own_pi_nf {P : Prop} [Decidable P] (h : ¬ P) : own_pi (¬ P) = 1 := if_pos h
theorem own_pi0 {P : Prop} [Decidable P] : own_pi P = 0 ↔ ¬ P := by unfold own_pi; split <;> simp_all
theorem own_pi_eq {P Q : Prop} [Decidable P] [Decidable Q] (h : P ↔ Q) : own_pi P = own_pi Q := by unfold own_pi; simp [h]
theorem own_nar_pi {P : Prop} [i : Decidable P] : nar .boolean (@own_pi P i) = @own_pi P i := by unfold own_pi; split <;> decide
end New
/-- the array at a (of kind ty) holds the ints xs -/
def Bal (Z : State) (h : Heap) (a : Addr) (ty : FieldType) (xs : List Int32) : Prop := ∃ c : Cell, Arr Z h a c ty ∧ c.slots.size = xs.length ∧ ∀ i, i < xs.length → c.slots[i]? = some (.int (xs.getD i 0))
section Arrays
variable {Z : State} {h h' : Heap} {a b : Addr} {ty : FieldType} {xs : List Int32} {ws : List Addr}
theorem Bal.lt (F : Bal Z h a ty xs) : a < h.size := by obtain ⟨c, A, -⟩ := F; exact A.lt
theorem Bal.ext (F : Bal Z h a ty xs) (E : Ext h h') : Bal Z h' a ty xs := by obtain ⟨c, A, r⟩ := F; exact ⟨c, A.ext E, r⟩
theorem Bal.other {sl : Nat} {v : Value} (F : Bal Z h b ty xs) (W : Wr h h' a sl v) (q : b ≠ a) : Bal Z h' b ty xs := by obtain ⟨c, A, r⟩ := F; exact ⟨c, A.other W q, r⟩
theorem Bal.keep (F : Bal Z h a ty xs) (K : Keep h h' ws) (q : a ∉ ws) : Bal Z h' a ty xs := by obtain ⟨c, A, r⟩ := F; exact ⟨c, ⟨K.2.1 a c A.1 q, A.2⟩, r⟩
theorem Bal.new {k : ClassId} {z : Int32} {n : Nat} (A : Arr Z h a (newA k ty z) ty) (hz : z.toNatClampNeg = n) (hd : defaultValue ty = .int 0) : Bal Z h a ty (List.replicate n 0) := by
  subst hz
  refine ⟨_, A, by rw [sz_new, List.length_replicate], fun i hi => ?_⟩
  rw [List.length_replicate] at hi
  simp [newA, hd, hi, List.getD_eq_getElem?_getD]
theorem Bal.set {i : Nat} {v : Int32} (F : Bal Z h a ty xs) (W : Wr h h' a i (.int v)) (hi : i < xs.length) : Bal Z h' a ty (xs.set i v) := by
  obtain ⟨c, A, S, H⟩ := F
  refine ⟨_, A.same W, by rw [sz_set, S, List.length_set], fun k hk => ?_⟩
  rw [List.length_set] at hk
  show (c.slots.setIfInBounds i (.int v))[k]? = _
  rw [Array.getElem?_setIfInBounds, List.getD_eq_getElem?_getD, List.getElem?_set]
  by_cases q : i = k
  · subst q; simp [S, hk]
  · rw [if_neg q, if_neg q, ← List.getD_eq_getElem?_getD]; exact H k hk
theorem Bal.inb {c : Cell} {j : Int32} {i : Nat} (S : c.slots.size = xs.length) (h0 : ¬ j < 0) (hj : j.toNatClampNeg = i) (hi : i < xs.length) : ¬ (j < 0 ∨ c.slots.size ≤ j.toNatClampNeg) := by
  rintro (q | q)
  · exact h0 q
  · omega
variable {p : Program} {l : Launch} {e : Env} {R : Room} {s : State} {m : MethodId} {args : Array Value} {below : List Frame} {meth : Method} {c : Code} {T : State} {locs : List Loc} {cells slots : Nat}
theorem own_stB (X : Stand p l e R s m args below meth c T locs cells slots) (hx : p.tables.exec = Jvm.exec) (hZ : Z.Warmed39 s.vm) (eT : T.heap = h) (F : Bal Z h a .byte xs) {j x : Int32} {i : Nat} (h0 : ¬ j < 0) (hj : j.toNatClampNeg = i) (hi : i < xs.length) {g : JFrame} (hg : g.method = m) {rest : List Value} (hs : g.stack = .int x :: .int j :: .ref a :: rest) (hd : decode c.code g.pc = .ok (.bastore, 1)) :
    ∃ T' h', Stand p l e R s m args below meth c T' (locs ++ [⟨a, i⟩]) cells slots ∧ T'.heap = h' ∧ Wr h h' a i (.int (nar .byte x)) ∧ Bal Z h' a .byte (xs.set i (nar .byte x)) ∧ ∀ target, Steps p.tables e below (T'.setTop { g with pc := g.pc + 1, stack := rest }) target → Steps p.tables e below (T.setTop g) target := by
  have F' := F
  obtain ⟨cl, A, S, H⟩ := F
  obtain ⟨T', h', X', e', W, st⟩ := stB X hx hZ eT A (j := j) (Bal.inb S h0 hj hi) hg hs hd
  subst hj
  exact ⟨T', h', X', e', W, F'.set W hi, st⟩
theorem own_stC (X : Stand p l e R s m args below meth c T locs cells slots) (hx : p.tables.exec = Jvm.exec) (hZ : Z.Warmed39 s.vm) (eT : T.heap = h) (F : Bal Z h a .char xs) {j x : Int32} {i : Nat} (h0 : ¬ j < 0) (hj : j.toNatClampNeg = i) (hi : i < xs.length) {g : JFrame} (hg : g.method = m) {rest : List Value} (hs : g.stack = .int x :: .int j :: .ref a :: rest) (hd : decode c.code g.pc = .ok (.castore, 1)) :
    ∃ T' h', Stand p l e R s m args below meth c T' (locs ++ [⟨a, i⟩]) cells slots ∧ T'.heap = h' ∧ Wr h h' a i (.int (nar .char x)) ∧ Bal Z h' a .char (xs.set i (nar .char x)) ∧ ∀ target, Steps p.tables e below (T'.setTop { g with pc := g.pc + 1, stack := rest }) target → Steps p.tables e below (T.setTop g) target := by
  have F' := F
  obtain ⟨cl, A, S, H⟩ := F
  obtain ⟨T', h', X', e', W, st⟩ := stC X hx hZ eT A (j := j) (Bal.inb S h0 hj hi) hg hs hd
  subst hj
  exact ⟨T', h', X', e', W, F'.set W hi, st⟩
theorem own_ldB (X : Stand p l e R s m args below meth c T locs cells slots) (hx : p.tables.exec = Jvm.exec) (hZ : Z.Warmed39 s.vm) (eT : T.heap = h) (F : Bal Z h a .byte xs) {j : Int32} {i : Nat} (h0 : ¬ j < 0) (hj : j.toNatClampNeg = i) (hi : i < xs.length) {v : Int32} (hv : xs.getD i 0 = v) {g : JFrame} (hg : g.method = m) {rest : List Value} (hs : g.stack = .int j :: .ref a :: rest) (hd : decode c.code g.pc = .ok (.baload, 1)) (target : State)
    (k : Steps p.tables e below (T.setTop { g with pc := g.pc + 1, stack := .int v :: rest }) target) : Steps p.tables e below (T.setTop g) target := by
  obtain ⟨cl, A, S, H⟩ := F
  subst hv
  exact X.baloadBytes hx (j := j) (v := .int (xs.getD i 0)) (by rw [eT]; exact A.1) (State.isArrayOf_alike hZ.alike A.2.1) A.2.2 (Bal.inb S h0 hj hi) (by rw [hj]; exact H i hi) hg hs hd _ k
theorem own_ldC (X : Stand p l e R s m args below meth c T locs cells slots) (hx : p.tables.exec = Jvm.exec) (hZ : Z.Warmed39 s.vm) (eT : T.heap = h) (F : Bal Z h a .char xs) {j : Int32} {i : Nat} (h0 : ¬ j < 0) (hj : j.toNatClampNeg = i) (hi : i < xs.length) {v : Int32} (hv : xs.getD i 0 = v) {g : JFrame} (hg : g.method = m) {rest : List Value} (hs : g.stack = .int j :: .ref a :: rest) (hd : decode c.code g.pc = .ok (.caload, 1)) (target : State)
    (k : Steps p.tables e below (T.setTop { g with pc := g.pc + 1, stack := .int v :: rest }) target) : Steps p.tables e below (T.setTop g) target := by
  obtain ⟨cl, A, S, H⟩ := F
  subst hv
  exact X.caload hx (j := j) (v := .int (xs.getD i 0)) (by rw [eT]; exact A.1) (State.isArrayOf_alike hZ.alike A.2.1) A.2.2 (Bal.inb S h0 hj hi) (by rw [hj]; exact H i hi) hg hs hd _ k
theorem own_len (X : Stand p l e R s m args below meth c T locs cells slots) (hx : p.tables.exec = Jvm.exec) (hZ : Z.Warmed39 s.vm) (eT : T.heap = h) (F : Bal Z h a ty xs) {v : Int32} (hv : xs.length.toInt32 = v) {g : JFrame} (hg : g.method = m) {rest : List Value} (hs : g.stack = .ref a :: rest) (hd : decode c.code g.pc = .ok (.arraylength, 1)) (target : State)
    (k : Steps p.tables e below (T.setTop { g with pc := g.pc + 1, stack := .int v :: rest }) target) : Steps p.tables e below (T.setTop g) target := by
  obtain ⟨cl, A, S, H⟩ := F
  subst hv
  refine X.arraylength hx (by rw [eT]; exact A.1) (State.isArrayOf_alike hZ.alike A.2.1) hg hs hd _ ?_
  rw [S]; exact k
theorem own_balOf {k : ClassId} {z : Int32} (F : Arv Z h a k .byte z (xs.map Value.int) (.int 0)) (hz : z.toNatClampNeg = xs.length) : Bal Z h a .byte xs := by
  obtain ⟨c, A, -, S, -, H, -⟩ := F
  refine ⟨c, A, by rw [S, hz], fun i hi => ?_⟩
  have q := H i (by rw [S, hz]; exact hi)
  rw [q]
  simp [List.getD_eq_getElem?_getD, List.getElem?_map, List.getElem?_eq_getElem hi]
theorem own_arvC (F : Bal Z h a .char xs) (hf : ∀ x ∈ xs, fits .char (.int x) = true) (hl : xs.length < 2 ^ 31) : ∃ k, Arv Z h a k .char (Int32.ofNat xs.length) (xs.map Value.int) (.int 0) := by
  obtain ⟨c, A, S, H⟩ := F
  have hi : (Int32.ofNat xs.length).toInt = xs.length := Int32.toInt_ofNat_of_lt hl
  refine ⟨c.cls, c, A, rfl, ?_, ?_, ?_, ?_⟩
  · rw [S, Int32.toNatClampNeg, hi]; rfl
  · rw [Int32.lt_iff_toInt_lt, hi, show (0 : Int32).toInt = 0 from rfl]; omega
  · intro i hi'
    rw [S] at hi'
    rw [H i hi']
    simp [List.getD_eq_getElem?_getD, List.getElem?_map, List.getElem?_eq_getElem hi']
  · intro i hi'
    rw [S] at hi'
    have : (xs.map Value.int).getD i (.int 0) = .int xs[i] := by simp [List.getD_eq_getElem?_getD, List.getElem?_map, List.getElem?_eq_getElem hi']
    rw [this]; exact hf _ (List.getElem_mem hi')
theorem own_piN {P : Prop} [Decidable P] : (¬ own_pi P = 0) ↔ P := by unfold own_pi; split <;> simp_all
end Arrays
section Wide
variable {p : Program} {l : Launch} {e : Env} {R : Room} {s Z : State} {EL : List (String × Nat)} {vm0 : Vm} {k0 : Nat} {m : MethodId} {args : Array Value} {below : List Frame} {meth : Method} {c : Code} {T : State} {locs : List Loc} {cells slots : Nat}
theorem own_monoW {t : State} {o : Outcome} {L : List Loc} {k n k' n' : Nat} (h : ReturnedEndW s o t L k n) (hk : k ≤ k') (hn : n ≤ n') : ReturnedEndW s o t L k' n' := ⟨h.1, h.2.1, h.2.2.1, h.2.2.2.mono hk hn⟩
theorem own_finIW (X : Stand p l e R (s.setVm vm0) m args below meth c T locs cells slots) (hx : p.tables.exec = Jvm.exec) (hlk : meth.locks = false) (hS : s.Since vm0 k0) (hk : k0 ≤ T.heap.size) {pc : Nat} {Ls : Array Slot} {z : Int32} {rest : List Value} (hret : meth.sig.returnType = some .int) (hd : decode c.code pc = .ok (.ireturn, 1)) {Q : Option Value → Heap → List Loc → Prop} {C S : Nat}
    (hq : Q (some (.int z)) T.heap locs) (hC : CHr Z EL s.vm s.heap T.vm T.heap) (hc : cells ≤ C) (hs : slots ≤ S) : Gl p.tables e below (fun o U' => ∃ v L, o = .returned v ∧ Q v U'.heap L ∧ CHr Z EL s.vm s.heap U'.vm U'.heap ∧ ReturnedEndW s o U' L C S) (T.setTop (mkF m pc Ls (.int z :: rest))) := by
  obtain ⟨fs, hr, hrun, hended, hW⟩ := X.leaveW hS hk (v := some (.int z)) (fun h => by rw [hret] at h; cases h) hlk
  exact ⟨_, _, retI X hx hret hd hr, hrun, hended, _, _, rfl, hq, hC, own_monoW hW hc hs⟩
theorem own_finNW (X : Stand p l e R (s.setVm vm0) m args below meth c T locs cells slots) (hx : p.tables.exec = Jvm.exec) (hlk : meth.locks = false) (hS : s.Since vm0 k0) (hk : k0 ≤ T.heap.size) {pc : Nat} {Ls : Array Slot} {z z' : Int32} {rest : List Value} {t : FieldType} (hret : meth.sig.returnType = some t) (ht : t = .boolean ∨ t = .byte ∨ t = .char ∨ t = .short) (hz : nar t z = z') (hd : decode c.code pc = .ok (.ireturn, 1)) {Q : Option Value → Heap → List Loc → Prop} {C S : Nat}
    (hq : Q (some (.int z')) T.heap locs) (hC : CHr Z EL s.vm s.heap T.vm T.heap) (hc : cells ≤ C) (hs : slots ≤ S) : Gl p.tables e below (fun o U' => ∃ v L, o = .returned v ∧ Q v U'.heap L ∧ CHr Z EL s.vm s.heap U'.vm U'.heap ∧ ReturnedEndW s o U' L C S) (T.setTop (mkF m pc Ls (.int z :: rest))) := by
  subst hz
  obtain ⟨fs, hr, hrun, hended, hW⟩ := X.leaveW hS hk (v := some (.int (nar t z))) (fun h => by rw [hret] at h; cases h) hlk
  exact ⟨_, _, retN X hx hret ht hd hr, hrun, hended, _, _, rfl, hq, hC, own_monoW hW hc hs⟩
theorem own_finVW (X : Stand p l e R (s.setVm vm0) m args below meth c T locs cells slots) (hx : p.tables.exec = Jvm.exec) (hlk : meth.locks = false) (hS : s.Since vm0 k0) (hk : k0 ≤ T.heap.size) {pc : Nat} {Ls : Array Slot} (hret : meth.sig.returnType = none) (hd : decode c.code pc = .ok (.return_, 1)) {Q : Option Value → Heap → List Loc → Prop} {C S : Nat}
    (hq : Q none T.heap locs) (hC : CHr Z EL s.vm s.heap T.vm T.heap) (hc : cells ≤ C) (hs : slots ≤ S) : Gl p.tables e below (fun o U' => ∃ v L, o = .returned v ∧ Q v U'.heap L ∧ CHr Z EL s.vm s.heap U'.vm U'.heap ∧ ReturnedEndW s o U' L C S) (T.setTop (mkF m pc Ls [])) := by
  obtain ⟨fs, hr, hrun, hended, hW⟩ := X.leaveW hS hk (v := none) (fun _ => rfl) hlk
  exact ⟨_, _, X.returnOut hx hret hd hr, hrun, hended, _, _, rfl, hq, hC, own_monoW hW hc hs⟩
theorem own_finAW (X : Stand p l e R (s.setVm vm0) m args below meth c T locs cells slots) (hx : p.tables.exec = Jvm.exec) (hlk : meth.locks = false) (hS : s.Since vm0 k0) (hk : k0 ≤ T.heap.size) {pc : Nat} {Ls : Array Slot} {w : Value} {rest : List Value} {t : FieldType} (hret : meth.sig.returnType = some t) (hw : w.isRef = true) (ht : t.isReference = true) (hd : decode c.code pc = .ok (.areturn, 1)) {Q : Option Value → Heap → List Loc → Prop} {C S : Nat}
    (hq : Q (some w) T.heap locs) (hC : CHr Z EL s.vm s.heap T.vm T.heap) (hc : cells ≤ C) (hs : slots ≤ S) : Gl p.tables e below (fun o U' => ∃ v L, o = .returned v ∧ Q v U'.heap L ∧ CHr Z EL s.vm s.heap U'.vm U'.heap ∧ ReturnedEndW s o U' L C S) (T.setTop (mkF m pc Ls (w :: rest))) := by
  obtain ⟨fs, hr, hrun, hended, hW⟩ := X.leaveW hS hk (v := some w) (fun h => by rw [hret] at h; cases h) hlk
  have hn : narrow t w = w := by rcases ref_cases hw with rfl | ⟨z, rfl⟩ <;> cases t <;> rfl
  exact ⟨_, _, retOut X hx hret hn (Or.inr (Or.inr (Or.inr (Or.inr ⟨rfl, ht, hw⟩)))) hd hr, hrun, hended, _, _, rfl, hq, hC, own_monoW hW hc hs⟩
/-- a callee that keeps the constants' invariant; SL: objects that it may write, none of them a constant's -/
theorem own_backH {a0 : Array Value} {h : Heap} {y : MethodName} {bytes : ByteArray} {maxL : Nat} {ret : Option FieldType} {rm : Room} {len W : Nat} {as' : Array Value} {Q : Option Value → Heap → List Loc → Prop} {SL : List Addr}
    (hM : MetFree l y (head1 [Cond.code y bytes maxL ret] rm) (fun a U => a = as' ∧ Z.Warmed39 U.vm ∧ U.heap = h ∧ CHv Z EL U.vm h ∧ ∀ x ∈ SL, Safe Z EL U.vm h x) (fun _ _ _ _ _ => True) (fun _ U o U' => ∃ v L, o = .returned v ∧ Q v U'.heap L ∧ CHr Z EL U.vm U.heap U'.vm U'.heap ∧ ReturnedEndW U o U' L rm.cells rm.slots))
    (hZ : Z.Warmed39 vm0) (wc : (Cond.code y bytes maxL ret).before a0 Z = true) (wz : (Cond.initialized y.cls).before a0 Z = true) (hf : rm.frames + 1 ≤ R.frames) (hl : W + (maxL + 11) + rm.locals ≤ R.locals) (hEL : EW Z a0 EL) (H : CHv Z EL vm0 h) (hSL : ∀ x ∈ SL, x < h.size ∧ Safe Z EL vm0 h x) :
    BackS l R p e below (s.setVm vm0) args y len W (fun A a => a = as' ∧ A.U.heap = h ∧ A.cells + rm.cells ≤ R.cells ∧ A.slots + rm.slots ≤ R.slots)
      (fun A _ v B => ∃ L, Q v B.U.heap L ∧ B.locs = A.locs ++ L ∧ B.cells = A.cells + rm.cells ∧ B.slots = A.slots + rm.slots ∧ CHr Z EL vm0 h B.U.vm B.U.heap) := by
  refine BackS.of_freeW (bytes := bytes) (maxL := maxL) (ret := ret) (E := fun _ first o t L k n => k = rm.cells ∧ n = rm.slots ∧ (∃ v, o = .returned v ∧ Q v t.heap L) ∧ CHr Z EL first.vm first.heap t.vm t.heap) hM hf hl ?_ ?_ (fun _ _ _ _ _ _ _ _ _ => trivial) (fun _ _ _ _ ⟨v, L, h1, h2, h3, h4⟩ => ⟨L, _, _, h4, rfl, rfl, ⟨v, h1, h2⟩, h3⟩) ?_
  · intro m meth c A a Y hp
    have hU : Z.Warmed39 A.U.vm := wtrans (s := s.setVm vm0) hZ Y.warmed
    refine ⟨?_, mv hU wc, mv hU wz, hp.2.2.1, hp.2.2.2⟩
    show (Cond.and _ .tt).before a A.U = true
    rw [Cond.before_and, mv hU wc]; rfl
  · intro m meth c A a g mk Y hp
    have q := CHv.at Y hZ hEL H
    exact ⟨hp.1, wtrans (s := s.setVm vm0) hZ Y.warmed, hp.2.1, q.1, fun x hx => q.safe (hSL x hx).1 (hSL x hx).2⟩
  · rintro m meth c A a g mk v t L k n Y hp _ _ ⟨e1, e2, ⟨v', e3, e4⟩, e5⟩
    cases e3; subst e1 e2
    refine ⟨L, e4, rfl, rfl, rfl, (CHv.at Y hZ hEL H).trans ?_⟩
    rw [← hp.2.1]; exact e5
end Wide
theorem own_fits_pi {P : Prop} [i : Decidable P] : fits .boolean (.int (@own_pi P i)) = true := by unfold own_pi; split <;> rfl
/-- the array at a, of the class k over C, holds the values vs -/
def Ral (Z : State) (h : Heap) (a : Addr) (k : ClassId) (C : String) (vs : List Value) : Prop := ∃ c : Cell, Arr Z h a c (.object C) ∧ c.cls = k ∧ c.slots.size = vs.length ∧ ∀ i, i < vs.length → c.slots[i]? = some (vs.getD i .null)
section Refs
variable {Z : State} {h h' : Heap} {a b : Addr} {k : ClassId} {C : String} {vs : List Value} {ws : List Addr}
theorem Ral.lt (F : Ral Z h a k C vs) : a < h.size := by obtain ⟨c, A, -⟩ := F; exact A.lt
theorem Ral.ext (F : Ral Z h a k C vs) (E : Ext h h') : Ral Z h' a k C vs := by obtain ⟨c, A, r⟩ := F; exact ⟨c, A.ext E, r⟩
theorem Ral.other {sl : Nat} {v : Value} (F : Ral Z h b k C vs) (W : Wr h h' a sl v) (q : b ≠ a) : Ral Z h' b k C vs := by obtain ⟨c, A, r⟩ := F; exact ⟨c, A.other W q, r⟩
theorem Ral.keep (F : Ral Z h a k C vs) (K : Keep h h' ws) (q : a ∉ ws) : Ral Z h' a k C vs := by obtain ⟨c, A, r⟩ := F; exact ⟨c, ⟨K.2.1 a c A.1 q, A.2⟩, r⟩
theorem Ral.new {z : Int32} {n : Nat} (A : Arr Z h a (newA k (.object C) z) (.object C)) (hz : z.toNatClampNeg = n) : Ral Z h a k C (List.replicate n .null) := by
  subst hz
  refine ⟨_, A, rfl, by rw [sz_new, List.length_replicate], fun i hi => ?_⟩
  rw [List.length_replicate] at hi
  simp [newA, defaultValue, hi, List.getD_eq_getElem?_getD]
theorem Ral.set {i : Nat} {v : Value} (F : Ral Z h a k C vs) (W : Wr h h' a i v) (hi : i < vs.length) : Ral Z h' a k C (vs.set i v) := by
  obtain ⟨c, A, q0, S, H⟩ := F
  refine ⟨_, A.same W, q0, by rw [sz_set, S, List.length_set], fun k hk => ?_⟩
  rw [List.length_set] at hk
  show (c.slots.setIfInBounds i v)[k]? = _
  rw [Array.getElem?_setIfInBounds, List.getD_eq_getElem?_getD, List.getElem?_set]
  by_cases q : i = k
  · subst q; simp [S, hk]
  · rw [if_neg q, if_neg q, ← List.getD_eq_getElem?_getD]; exact H k hk
variable {p : Program} {l : Launch} {e : Env} {R : Room} {s : State} {m : MethodId} {args : Array Value} {below : List Frame} {meth : Method} {c : Code} {T : State} {locs : List Loc} {cells slots : Nat}
theorem own_stR (X : Stand p l e R s m args below meth c T locs cells slots) (hx : p.tables.exec = Jvm.exec) (hZ : Z.Warmed39 s.vm) (eT : T.heap = h) (F : Ral Z h a k C vs) (O : Ovr Z k C) {y : Addr} (I : Ins Z h y C true) {j : Int32} {i : Nat} (h0 : ¬ j < 0) (hj : j.toNatClampNeg = i) (hi : i < vs.length) {g : JFrame} (hg : g.method = m) {rest : List Value} (hs : g.stack = .ref y :: .int j :: .ref a :: rest) (hd : decode c.code g.pc = .ok (.aastore, 1)) :
    ∃ T' h', Stand p l e R s m args below meth c T' (locs ++ [⟨a, i⟩]) cells slots ∧ T'.heap = h' ∧ Wr h h' a i (.ref y) ∧ Ral Z h' a k C (vs.set i (.ref y)) ∧ ∀ target, Steps p.tables e below (T'.setTop { g with pc := g.pc + 1, stack := rest }) target → Steps p.tables e below (T.setTop g) target := by
  have F' := F
  obtain ⟨cl, A, q0, S, H⟩ := F
  have hin : ¬ (j < 0 ∨ cl.slots.size ≤ j.toNatClampNeg) := by
    rintro (q | q)
    · exact h0 q
    · omega
  subst q0
  obtain ⟨T', h', X', e', W, st⟩ := stR X hx hZ eT A (j := j) hin rfl (Sto.of A O I) hg hs hd
  subst hj
  exact ⟨T', h', X', e', W, F'.set W hi, st⟩
theorem own_ldR (X : Stand p l e R s m args below meth c T locs cells slots) (hx : p.tables.exec = Jvm.exec) (hZ : Z.Warmed39 s.vm) (eT : T.heap = h) (F : Ral Z h a k C vs) {j : Int32} {i : Nat} (h0 : ¬ j < 0) (hj : j.toNatClampNeg = i) (hi : i < vs.length) {v : Value} (hv : vs.getD i .null = v) {g : JFrame} (hg : g.method = m) {rest : List Value} (hs : g.stack = .int j :: .ref a :: rest) (hd : decode c.code g.pc = .ok (.aaload, 1)) (target : State)
    (kk : Steps p.tables e below (T.setTop { g with pc := g.pc + 1, stack := v :: rest }) target) : Steps p.tables e below (T.setTop g) target := by
  obtain ⟨cl, A, q0, S, H⟩ := F
  have hin : ¬ (j < 0 ∨ cl.slots.size ≤ j.toNatClampNeg) := by
    rintro (q | q)
    · exact h0 q
    · omega
  subst hv
  exact X.aaload hx (j := j) (v := vs.getD i .null) (by rw [eT]; exact A.1) (State.isArrayOf_alike hZ.alike A.2.1) rfl A.2.2 hin (by rw [hj]; exact H i hi) hg hs hd _ kk
end Refs
section Starts
variable {s : State} {args : Array Value} {t : Term} {a : Addr} {C n d : String}
theorem own_fldI {z : Int32} (ev : t.eval args s none [] s = some (.ref a)) (h : (Cond.eq (Term.field t C n d) (Term.int z)).value args s none s [] = some true) : Fld s s.heap a C n d (.int z) := by
  refine Fld.start ?_
  rw [← fld_at (args := args) (first := s) (o := none) (idx := []) ev]
  cases hf : (Term.field t C n d).eval args s none [] s with
  | none => simp [Cond.value, hf] at h
  | some x =>
    have hz : (Term.int z).eval args s none [] s = some (.int z) := rfl
    cases x <;> simp [Cond.value, hf, hz] at h
    rw [h]
theorem own_fldN (ev : t.eval args s none [] s = some (.ref a)) (h : (Cond.eq (Term.field t C n d) Term.null).value args s none s [] = some true) : Fld s s.heap a C n d .null := by
  refine Fld.start ?_
  rw [← fld_at (args := args) (first := s) (o := none) (idx := []) ev]
  exact null_v h
theorem own_fldE {K : String} (ev : t.eval args s none [] s = some (.ref a)) (h : (Cond.exactly (Term.field t C n d) K).value args s none s [] = some true) : ∃ y, Fld s s.heap a C n d (.ref y) := by
  obtain ⟨y, hy⟩ := exa_v h
  refine ⟨y, Fld.start ?_⟩
  rw [← fld_at (args := args) (first := s) (o := none) (idx := []) ev]
  exact hy
theorem own_fldS {u : Term} {b : Addr} (ev : t.eval args s none [] s = some (.ref a)) (eu : u.eval args s none [] s = some (.ref b)) (h : (Cond.eq (Term.field t C n d) u).value args s none s [] = some true) : Fld s s.heap a C n d (.ref b) := by
  refine Fld.start ?_
  rw [← fld_at (args := args) (first := s) (o := none) (idx := []) ev]
  cases hf : (Term.field t C n d).eval args s none [] s with
  | none => simp [Cond.value, hf] at h
  | some x =>
    cases x <;> simp [Cond.value, hf, eu] at h
    rw [h]
theorem own_statI {t : Term} {z : Int32} (h : (Cond.eq t (Term.int z)).value args s none s [] = some true) : t.eval args s none [] s = some (.int z) := by
  cases hf : t.eval args s none [] s with
  | none => simp [Cond.value, hf] at h
  | some x =>
    have hz : (Term.int z).eval args s none [] s = some (.int z) := rfl
    cases x <;> simp [Cond.value, hf, hz] at h
    rw [h]
theorem own_empty {cl : Cell} {ty : FieldType} (ev : t.eval args s none [] s = some (.ref a)) (A : Arr s s.heap a cl ty) (h : (Cond.eq (Term.length t) (Term.int 0)).value args s none s [] = some true) : Bal s s.heap a ty [] := by
  have ha : s.arrayAt? a = some cl := A.fin (Vm.Alike.refl _)
  have hsz : cl.slots.size = 0 := by
    by_cases hl : cl.slots.size < 2 ^ 31
    · have hv := len_f (args := args) (first := s) (o := none) (idx := []) ev ha hl
      have hz : (Term.int 0).eval args s none [] s = some (.int 0) := rfl
      simp only [Cond.value, hv, hz] at h
      have q := len_toInt hl
      have q2 : cl.slots.size.toInt32 = 0 := by simpa using h
      rw [q2] at q
      have : (0 : Int32).toInt = 0 := rfl
      omega
    · exfalso
      cases hf : (Term.length t).eval args s none [] s with
      | none => simp [Cond.value, hf] at h
      | some x => simp [Term.eval, ev, ha, hl] at hf
  exact ⟨cl, A, hsz, fun i hi => absurd hi (Nat.not_lt_zero i)⟩
end Starts
end Jvm.RoadKit
namespace Jvm.Pilot.@@N@@
open Jvm Jvm.ClassFile Sem Op Lib Jvm.Free Jvm.Stand Jvm.LawKit Jvm.RoadKit Bundle Jvm.Pilot.@@N@@.Jvm.D
theorem own_17 (p : Int32) : (p &&& (2147483647 : Int32)) % (17 : Int32) = 0 ∨ (p &&& (2147483647 : Int32)) % (17 : Int32) = 1 ∨ (p &&& (2147483647 : Int32)) % (17 : Int32) = 2 ∨ (p &&& (2147483647 : Int32)) % (17 : Int32) = 3 ∨ (p &&& (2147483647 : Int32)) % (17 : Int32) = 4 ∨ (p &&& (2147483647 : Int32)) % (17 : Int32) = 5 ∨ (p &&& (2147483647 : Int32)) % (17 : Int32) = 6 ∨ (p &&& (2147483647 : Int32)) % (17 : Int32) = 7 ∨ (p &&& (2147483647 : Int32)) % (17 : Int32) = 8 ∨ (p &&& (2147483647 : Int32)) % (17 : Int32) = 9 ∨ (p &&& (2147483647 : Int32)) % (17 : Int32) = 10 ∨ (p &&& (2147483647 : Int32)) % (17 : Int32) = 11 ∨ (p &&& (2147483647 : Int32)) % (17 : Int32) = 12 ∨ (p &&& (2147483647 : Int32)) % (17 : Int32) = 13 ∨ (p &&& (2147483647 : Int32)) % (17 : Int32) = 14 ∨ (p &&& (2147483647 : Int32)) % (17 : Int32) = 15 ∨ (p &&& (2147483647 : Int32)) % (17 : Int32) = 16 := by
  have e1 := c_mask p 2147483647 31 (by decide) (by decide)
  have e2 := (c_irem (p &&& (2147483647 : Int32)) 17 17 rfl).1 (by omega)
  have a0 : (0 : Int32).toInt = 0 := rfl
  have a1 : (1 : Int32).toInt = 1 := rfl
  have a2 : (2 : Int32).toInt = 2 := rfl
  have a3 : (3 : Int32).toInt = 3 := rfl
  have a4 : (4 : Int32).toInt = 4 := rfl
  have a5 : (5 : Int32).toInt = 5 := rfl
  have a6 : (6 : Int32).toInt = 6 := rfl
  have a7 : (7 : Int32).toInt = 7 := rfl
  have a8 : (8 : Int32).toInt = 8 := rfl
  have a9 : (9 : Int32).toInt = 9 := rfl
  have a10 : (10 : Int32).toInt = 10 := rfl
  have a11 : (11 : Int32).toInt = 11 := rfl
  have a12 : (12 : Int32).toInt = 12 := rfl
  have a13 : (13 : Int32).toInt = 13 := rfl
  have a14 : (14 : Int32).toInt = 14 := rfl
  have a15 : (15 : Int32).toInt = 15 := rfl
  have a16 : (16 : Int32).toInt = 16 := rfl
  simp only [← Int32.toInt_inj, a0, a1, a2, a3, a4, a5, a6, a7, a8, a9, a10, a11, a12, a13, a14, a15, a16]
  omega
def own_key (Z : State) (k : Addr) (o : Int32) (dv dk : Value) : Prop := Exa Z Z.heap k "com/example/anchorwatch/anchorwatch/config/ConfigKey" ∧ Fld Z Z.heap k "com/example/anchorwatch/anchorwatch/config/ConfigKey" "optional" "Z" (.int o) ∧ Fld Z Z.heap k "com/example/anchorwatch/anchorwatch/config/ConfigKey" "defaultValue" "Ljava/lang/String;" dv ∧ Fld Z Z.heap k "com/example/anchorwatch/anchorwatch/config/ConfigKey" "defaultKey" "Lcom/example/anchorwatch/anchorwatch/config/ConfigKey;" dk
theorem pd_0 : parseMethodDescriptor "()Z" = some ⟨[], some .boolean⟩ := by decide +kernel
theorem d1_0 : decode prog_5_method_9_code 0 = .ok (.aload_n 0, 1) := by decide +kernel
theorem d1_1 : decode prog_5_method_9_code 1 = .ok (.getfield 87, 3) := by decide +kernel
theorem d1_4 : decode prog_5_method_9_code 4 = .ok (.ifCond .ne 21, 3) := by decide +kernel
theorem d1_7 : decode prog_5_method_9_code 7 = .ok (.aload_n 0, 1) := by decide +kernel
theorem d1_8 : decode prog_5_method_9_code 8 = .ok (.getfield 81, 3) := by decide +kernel
theorem d1_11 : decode prog_5_method_9_code 11 = .ok (.ifnonnull 14, 3) := by decide +kernel
theorem d1_14 : decode prog_5_method_9_code 14 = .ok (.aload_n 0, 1) := by decide +kernel
theorem d1_15 : decode prog_5_method_9_code 15 = .ok (.getfield 84, 3) := by decide +kernel
theorem d1_18 : decode prog_5_method_9_code 18 = .ok (.ifnonnull 7, 3) := by decide +kernel
theorem d1_21 : decode prog_5_method_9_code 21 = .ok (.iconst 1, 1) := by decide +kernel
theorem d1_22 : decode prog_5_method_9_code 22 = .ok (.goto 4, 3) := by decide +kernel
theorem d1_25 : decode prog_5_method_9_code 25 = .ok (.iconst 0, 1) := by decide +kernel
theorem d1_26 : decode prog_5_method_9_code 26 = .ok (.ireturn, 1) := by decide +kernel
theorem pn_1 : plainName "com/example/anchorwatch/anchorwatch/config/ConfigKey" = true := by first | (simp [plainName, overriddenIn]; done) | decide +kernel
theorem ef_1a (m : MethodId) (a1 : Addr) : entryFrame m #[(.ref a1)] 1 = mkF m 0 #[.val (.ref a1)] [] := by first | (simp [entryFrame, mkF, argsToLocals, Value.category]; done) | rfl
def Q1a (Z : State) (a1 : Addr) (h0 : Heap) (n0 : Nat) (v : Option Value) (h : Heap) (L : List Loc) : Prop := v = some (.int (1 : Int32)) ∧ Fr n0 L ∧ h = h0
set_option maxRecDepth 65536 in
set_option maxHeartbeats 40000000 in
theorem rm1a (l : Launch) (Z : State) (a0 : Array Value) (hw : ∀ d ∈ tables_1, d.before a0 Z = true) (ws : List Jvm.Cond) (a1 : Addr) (h0 : Heap) (n0 : Nat) (Z0 : n0 ≤ h0.size) (F_o : Fld Z h0 a1 "com/example/anchorwatch/anchorwatch/config/ConfigKey" "optional" "Z" (.int (0 : Int32))) (F_v : Fld Z h0 a1 "com/example/anchorwatch/anchorwatch/config/ConfigKey" "defaultValue" "Ljava/lang/String;" .null) (F_k : Fld Z h0 a1 "com/example/anchorwatch/anchorwatch/config/ConfigKey" "defaultKey" "Lcom/example/anchorwatch/anchorwatch/config/ConfigKey;" .null) :
    MetFree l (⟨"com/example/anchorwatch/anchorwatch/config/ConfigKey", "required", "()Z"⟩ : MethodName) (head1 (Jvm.Cond.code (⟨"com/example/anchorwatch/anchorwatch/config/ConfigKey", "required", "()Z"⟩ : MethodName) prog_5_method_9_code 1 (some .boolean) :: ws) ({ frames := 0, cells := 0, slots := 0, locals := 0 } : Room)) (fun a U => a = #[(.ref a1)] ∧ Z.Warmed39 U.vm ∧ U.heap = h0) (fun _ _ _ _ _ => True) (fun _ U o U' => ∃ v L, o = .returned v ∧ Q1a Z a1 h0 n0 v U'.heap L ∧ FrameEnd U o U' L ({ frames := 0, cells := 0, slots := 0, locals := 0 } : Room).cells ({ frames := 0, cells := 0, slots := 0, locals := 0 } : Room).slots) := by
  refine MetFree.of_bodySF (plainFor_of_name pn_1) hisR ?_
  intro p e s m args below meth c s₁ Bd hml0 hP hK
  obtain ⟨rfl, hZ, hh⟩ := hP
  have hx := Bd.exec
  have hby := Bd.bytes
  have hlk : meth.locks = false := BodyLoose.notSynchronized Bd
  have hml : c.maxLocals = 1 := hml0
  have hown : s.vm.findClass "com/example/anchorwatch/anchorwatch/config/ConfigKey" = some m.cls := findClass_of_methodNamed Bd.named
  have hnm := (name_of_methodNamed Bd.named Bd.method).1
  have X0 : Stand p l e ({ frames := 0, cells := 0, slots := 0, locals := 0 } : Room) s m #[(.ref a1)] below meth c s₁ [] 0 0 := Stand.of_body Bd
  have e0 : s₁.heap = h0 := by rw [← hh, Bd.state]; rfl
  have N0 := Fr.nil n0
  show Gl p.tables e below (fun (o : Outcome) (U' : State) => ∃ v L, o = .returned v ∧ Q1a Z a1 h0 n0 v U'.heap L ∧ FrameEnd s o U' L ({ frames := 0, cells := 0, slots := 0, locals := 0 } : Room).cells ({ frames := 0, cells := 0, slots := 0, locals := 0 } : Room).slots) _
  refine Gl.pre (fun t k => castTop (ef_1a m a1) k) ?_
  obtain ⟨PP, hPP⟩ : ∃ P : Outcome → State → Prop, P = (fun (o : Outcome) (U' : State) => ∃ v L, o = .returned v ∧ Q1a Z a1 h0 n0 v U'.heap L ∧ FrameEnd s o U' L ({ frames := 0, cells := 0, slots := 0, locals := 0 } : Room).cells ({ frames := 0, cells := 0, slots := 0, locals := 0 } : Room).slots) := ⟨_, rfl⟩
  rw [← hPP]
  show Gl p.tables e below PP (s₁.setTop (mkF m 0 #[.val (.ref a1)] []))
  refine Gl.pre (fun _ k => XS.aloadN X0.here hx rfl (hb hby d1_0) rfl rfl k) ?_
  show Gl p.tables e below PP (s₁.setTop (mkF m 1 #[.val (.ref a1)] [(.ref a1)]))
  obtain ⟨T1, X1, e1, st1⟩ := getF X0 hx hZ hown (host := "") (Or.inl (hw _ (List.mem_of_getElem? (i := 44) rfl))) Via.refl e0 F_o (g := (mkF m 1 #[.val (.ref a1)] [(.ref a1)])) rfl rfl (hb hby d1_1)
  refine Gl.pre (fun _ k => st1 _ k) ?_
  show Gl p.tables e below PP (T1.setTop (mkF m 4 #[.val (.ref a1)] [(.int (0 : Int32))]))
  refine Gl.pre (fun _ k => XS.ifNo X1.here hx rfl (hb hby d1_4) rfl ((if0 _ _).trans (teq (show (0 : Int32) = (0 : Int32) from (by decide))).2) k) ?_
  show Gl p.tables e below PP (T1.setTop (mkF m 7 #[.val (.ref a1)] []))
  refine Gl.pre (fun _ k => XS.aloadN X1.here hx rfl (hb hby d1_7) rfl rfl k) ?_
  show Gl p.tables e below PP (T1.setTop (mkF m 8 #[.val (.ref a1)] [(.ref a1)]))
  obtain ⟨T2, X2, e2, st2⟩ := getF X1 hx hZ hown (host := "") (Or.inl (hw _ (List.mem_of_getElem? (i := 46) rfl))) Via.refl e1 F_v (g := (mkF m 8 #[.val (.ref a1)] [(.ref a1)])) rfl rfl (hb hby d1_8)
  refine Gl.pre (fun _ k => st2 _ k) ?_
  show Gl p.tables e below PP (T2.setTop (mkF m 11 #[.val (.ref a1)] [.null]))
  refine Gl.pre (fun _ k => XS.ifnonnullNo X2.here hx rfl (hb hby d1_11) rfl k) ?_
  show Gl p.tables e below PP (T2.setTop (mkF m 14 #[.val (.ref a1)] []))
  refine Gl.pre (fun _ k => XS.aloadN X2.here hx rfl (hb hby d1_14) rfl rfl k) ?_
  show Gl p.tables e below PP (T2.setTop (mkF m 15 #[.val (.ref a1)] [(.ref a1)]))
  obtain ⟨T3, X3, e3, st3⟩ := getF X2 hx hZ hown (host := "") (Or.inl (hw _ (List.mem_of_getElem? (i := 48) rfl))) Via.refl e2 F_k (g := (mkF m 15 #[.val (.ref a1)] [(.ref a1)])) rfl rfl (hb hby d1_15)
  refine Gl.pre (fun _ k => st3 _ k) ?_
  show Gl p.tables e below PP (T3.setTop (mkF m 18 #[.val (.ref a1)] [.null]))
  refine Gl.pre (fun _ k => XS.ifnonnullNo X3.here hx rfl (hb hby d1_18) rfl k) ?_
  show Gl p.tables e below PP (T3.setTop (mkF m 21 #[.val (.ref a1)] []))
  refine Gl.pre (fun _ k => XS.iconst X3.here hx rfl (hb hby d1_21) k) ?_
  show Gl p.tables e below PP (T3.setTop (mkF m 22 #[.val (.ref a1)] [(.int (1 : Int32))]))
  refine Gl.pre (fun _ k => XS.goto X3.here hx rfl (pc0 := 22) (pc' := 26) rfl (hb hby d1_22) (by decide) (by decide) k) ?_
  show Gl p.tables e below PP (T3.setTop (mkF m 26 #[.val (.ref a1)] [(.int (1 : Int32))]))
  rw [hPP]
  refine own_finN (Q := (Q1a Z a1 h0 n0)) X3 hx hlk Bd.returns (t := .boolean) (z' := (1 : Int32)) (by simp) (by decide) (hb hby d1_26) ?_ (by decide) (by decide)
  show Q1a Z a1 h0 n0 _ T3.heap _
  rw [e3]
  exact ⟨rfl, N0, rfl⟩
theorem ef_1b (m : MethodId) (a1 : Addr) (y : Addr) : entryFrame m #[(.ref a1)] 1 = mkF m 0 #[.val (.ref a1)] [] := by first | (simp [entryFrame, mkF, argsToLocals, Value.category]; done) | rfl
def Q1b (Z : State) (a1 : Addr) (y : Addr) (h0 : Heap) (n0 : Nat) (v : Option Value) (h : Heap) (L : List Loc) : Prop := v = some (.int (0 : Int32)) ∧ Fr n0 L ∧ h = h0
set_option maxRecDepth 65536 in
set_option maxHeartbeats 40000000 in
theorem rm1b (l : Launch) (Z : State) (a0 : Array Value) (hw : ∀ d ∈ tables_1, d.before a0 Z = true) (ws : List Jvm.Cond) (a1 : Addr) (y : Addr) (h0 : Heap) (n0 : Nat) (Z0 : n0 ≤ h0.size) (F_o : Fld Z h0 a1 "com/example/anchorwatch/anchorwatch/config/ConfigKey" "optional" "Z" (.int (0 : Int32))) (F_v : Fld Z h0 a1 "com/example/anchorwatch/anchorwatch/config/ConfigKey" "defaultValue" "Ljava/lang/String;" (.ref y)) :
    MetFree l (⟨"com/example/anchorwatch/anchorwatch/config/ConfigKey", "required", "()Z"⟩ : MethodName) (head1 (Jvm.Cond.code (⟨"com/example/anchorwatch/anchorwatch/config/ConfigKey", "required", "()Z"⟩ : MethodName) prog_5_method_9_code 1 (some .boolean) :: ws) ({ frames := 0, cells := 0, slots := 0, locals := 0 } : Room)) (fun a U => a = #[(.ref a1)] ∧ Z.Warmed39 U.vm ∧ U.heap = h0) (fun _ _ _ _ _ => True) (fun _ U o U' => ∃ v L, o = .returned v ∧ Q1b Z a1 y h0 n0 v U'.heap L ∧ FrameEnd U o U' L ({ frames := 0, cells := 0, slots := 0, locals := 0 } : Room).cells ({ frames := 0, cells := 0, slots := 0, locals := 0 } : Room).slots) := by
  refine MetFree.of_bodySF (plainFor_of_name pn_1) hisR ?_
  intro p e s m args below meth c s₁ Bd hml0 hP hK
  obtain ⟨rfl, hZ, hh⟩ := hP
  have hx := Bd.exec
  have hby := Bd.bytes
  have hlk : meth.locks = false := BodyLoose.notSynchronized Bd
  have hml : c.maxLocals = 1 := hml0
  have hown : s.vm.findClass "com/example/anchorwatch/anchorwatch/config/ConfigKey" = some m.cls := findClass_of_methodNamed Bd.named
  have hnm := (name_of_methodNamed Bd.named Bd.method).1
  have X0 : Stand p l e ({ frames := 0, cells := 0, slots := 0, locals := 0 } : Room) s m #[(.ref a1)] below meth c s₁ [] 0 0 := Stand.of_body Bd
  have e0 : s₁.heap = h0 := by rw [← hh, Bd.state]; rfl
  have N0 := Fr.nil n0
  show Gl p.tables e below (fun (o : Outcome) (U' : State) => ∃ v L, o = .returned v ∧ Q1b Z a1 y h0 n0 v U'.heap L ∧ FrameEnd s o U' L ({ frames := 0, cells := 0, slots := 0, locals := 0 } : Room).cells ({ frames := 0, cells := 0, slots := 0, locals := 0 } : Room).slots) _
  refine Gl.pre (fun t k => castTop (ef_1b m a1 y) k) ?_
  obtain ⟨PP, hPP⟩ : ∃ P : Outcome → State → Prop, P = (fun (o : Outcome) (U' : State) => ∃ v L, o = .returned v ∧ Q1b Z a1 y h0 n0 v U'.heap L ∧ FrameEnd s o U' L ({ frames := 0, cells := 0, slots := 0, locals := 0 } : Room).cells ({ frames := 0, cells := 0, slots := 0, locals := 0 } : Room).slots) := ⟨_, rfl⟩
  rw [← hPP]
  show Gl p.tables e below PP (s₁.setTop (mkF m 0 #[.val (.ref a1)] []))
  refine Gl.pre (fun _ k => XS.aloadN X0.here hx rfl (hb hby d1_0) rfl rfl k) ?_
  show Gl p.tables e below PP (s₁.setTop (mkF m 1 #[.val (.ref a1)] [(.ref a1)]))
  obtain ⟨T1, X1, e1, st1⟩ := getF X0 hx hZ hown (host := "") (Or.inl (hw _ (List.mem_of_getElem? (i := 44) rfl))) Via.refl e0 F_o (g := (mkF m 1 #[.val (.ref a1)] [(.ref a1)])) rfl rfl (hb hby d1_1)
  refine Gl.pre (fun _ k => st1 _ k) ?_
  show Gl p.tables e below PP (T1.setTop (mkF m 4 #[.val (.ref a1)] [(.int (0 : Int32))]))
  refine Gl.pre (fun _ k => XS.ifNo X1.here hx rfl (hb hby d1_4) rfl ((if0 _ _).trans (teq (show (0 : Int32) = (0 : Int32) from (by decide))).2) k) ?_
  show Gl p.tables e below PP (T1.setTop (mkF m 7 #[.val (.ref a1)] []))
  refine Gl.pre (fun _ k => XS.aloadN X1.here hx rfl (hb hby d1_7) rfl rfl k) ?_
  show Gl p.tables e below PP (T1.setTop (mkF m 8 #[.val (.ref a1)] [(.ref a1)]))
  obtain ⟨T2, X2, e2, st2⟩ := getF X1 hx hZ hown (host := "") (Or.inl (hw _ (List.mem_of_getElem? (i := 46) rfl))) Via.refl e1 F_v (g := (mkF m 8 #[.val (.ref a1)] [(.ref a1)])) rfl rfl (hb hby d1_8)
  refine Gl.pre (fun _ k => st2 _ k) ?_
  show Gl p.tables e below PP (T2.setTop (mkF m 11 #[.val (.ref a1)] [(.ref y)]))
  refine Gl.pre (fun _ k => XS.ifnonnullYes X2.here hx rfl (pc0 := 11) (pc' := 25) rfl (hb hby d1_11) rfl (by decide) (by decide) k) ?_
  show Gl p.tables e below PP (T2.setTop (mkF m 25 #[.val (.ref a1)] []))
  refine Gl.pre (fun _ k => XS.iconst X2.here hx rfl (hb hby d1_25) k) ?_
  show Gl p.tables e below PP (T2.setTop (mkF m 26 #[.val (.ref a1)] [(.int (0 : Int32))]))
  rw [hPP]
  refine own_finN (Q := (Q1b Z a1 y h0 n0)) X2 hx hlk Bd.returns (t := .boolean) (z' := (0 : Int32)) (by simp) (by decide) (hb hby d1_26) ?_ (by decide) (by decide)
  show Q1b Z a1 y h0 n0 _ T2.heap _
  rw [e2]
  exact ⟨rfl, N0, rfl⟩
theorem ef_1c (m : MethodId) (a1 : Addr) (y : Addr) : entryFrame m #[(.ref a1)] 1 = mkF m 0 #[.val (.ref a1)] [] := by first | (simp [entryFrame, mkF, argsToLocals, Value.category]; done) | rfl
def Q1c (Z : State) (a1 : Addr) (y : Addr) (h0 : Heap) (n0 : Nat) (v : Option Value) (h : Heap) (L : List Loc) : Prop := v = some (.int (0 : Int32)) ∧ Fr n0 L ∧ h = h0
set_option maxRecDepth 65536 in
set_option maxHeartbeats 40000000 in
theorem rm1c (l : Launch) (Z : State) (a0 : Array Value) (hw : ∀ d ∈ tables_1, d.before a0 Z = true) (ws : List Jvm.Cond) (a1 : Addr) (y : Addr) (h0 : Heap) (n0 : Nat) (Z0 : n0 ≤ h0.size) (F_o : Fld Z h0 a1 "com/example/anchorwatch/anchorwatch/config/ConfigKey" "optional" "Z" (.int (0 : Int32))) (F_v : Fld Z h0 a1 "com/example/anchorwatch/anchorwatch/config/ConfigKey" "defaultValue" "Ljava/lang/String;" .null) (F_k : Fld Z h0 a1 "com/example/anchorwatch/anchorwatch/config/ConfigKey" "defaultKey" "Lcom/example/anchorwatch/anchorwatch/config/ConfigKey;" (.ref y)) :
    MetFree l (⟨"com/example/anchorwatch/anchorwatch/config/ConfigKey", "required", "()Z"⟩ : MethodName) (head1 (Jvm.Cond.code (⟨"com/example/anchorwatch/anchorwatch/config/ConfigKey", "required", "()Z"⟩ : MethodName) prog_5_method_9_code 1 (some .boolean) :: ws) ({ frames := 0, cells := 0, slots := 0, locals := 0 } : Room)) (fun a U => a = #[(.ref a1)] ∧ Z.Warmed39 U.vm ∧ U.heap = h0) (fun _ _ _ _ _ => True) (fun _ U o U' => ∃ v L, o = .returned v ∧ Q1c Z a1 y h0 n0 v U'.heap L ∧ FrameEnd U o U' L ({ frames := 0, cells := 0, slots := 0, locals := 0 } : Room).cells ({ frames := 0, cells := 0, slots := 0, locals := 0 } : Room).slots) := by
  refine MetFree.of_bodySF (plainFor_of_name pn_1) hisR ?_
  intro p e s m args below meth c s₁ Bd hml0 hP hK
  obtain ⟨rfl, hZ, hh⟩ := hP
  have hx := Bd.exec
  have hby := Bd.bytes
  have hlk : meth.locks = false := BodyLoose.notSynchronized Bd
  have hml : c.maxLocals = 1 := hml0
  have hown : s.vm.findClass "com/example/anchorwatch/anchorwatch/config/ConfigKey" = some m.cls := findClass_of_methodNamed Bd.named
  have hnm := (name_of_methodNamed Bd.named Bd.method).1
  have X0 : Stand p l e ({ frames := 0, cells := 0, slots := 0, locals := 0 } : Room) s m #[(.ref a1)] below meth c s₁ [] 0 0 := Stand.of_body Bd
  have e0 : s₁.heap = h0 := by rw [← hh, Bd.state]; rfl
  have N0 := Fr.nil n0
  show Gl p.tables e below (fun (o : Outcome) (U' : State) => ∃ v L, o = .returned v ∧ Q1c Z a1 y h0 n0 v U'.heap L ∧ FrameEnd s o U' L ({ frames := 0, cells := 0, slots := 0, locals := 0 } : Room).cells ({ frames := 0, cells := 0, slots := 0, locals := 0 } : Room).slots) _
  refine Gl.pre (fun t k => castTop (ef_1c m a1 y) k) ?_
  obtain ⟨PP, hPP⟩ : ∃ P : Outcome → State → Prop, P = (fun (o : Outcome) (U' : State) => ∃ v L, o = .returned v ∧ Q1c Z a1 y h0 n0 v U'.heap L ∧ FrameEnd s o U' L ({ frames := 0, cells := 0, slots := 0, locals := 0 } : Room).cells ({ frames := 0, cells := 0, slots := 0, locals := 0 } : Room).slots) := ⟨_, rfl⟩
  rw [← hPP]
  show Gl p.tables e below PP (s₁.setTop (mkF m 0 #[.val (.ref a1)] []))
  refine Gl.pre (fun _ k => XS.aloadN X0.here hx rfl (hb hby d1_0) rfl rfl k) ?_
  show Gl p.tables e below PP (s₁.setTop (mkF m 1 #[.val (.ref a1)] [(.ref a1)]))
  obtain ⟨T1, X1, e1, st1⟩ := getF X0 hx hZ hown (host := "") (Or.inl (hw _ (List.mem_of_getElem? (i := 44) rfl))) Via.refl e0 F_o (g := (mkF m 1 #[.val (.ref a1)] [(.ref a1)])) rfl rfl (hb hby d1_1)
  refine Gl.pre (fun _ k => st1 _ k) ?_
  show Gl p.tables e below PP (T1.setTop (mkF m 4 #[.val (.ref a1)] [(.int (0 : Int32))]))
  refine Gl.pre (fun _ k => XS.ifNo X1.here hx rfl (hb hby d1_4) rfl ((if0 _ _).trans (teq (show (0 : Int32) = (0 : Int32) from (by decide))).2) k) ?_
  show Gl p.tables e below PP (T1.setTop (mkF m 7 #[.val (.ref a1)] []))
  refine Gl.pre (fun _ k => XS.aloadN X1.here hx rfl (hb hby d1_7) rfl rfl k) ?_
  show Gl p.tables e below PP (T1.setTop (mkF m 8 #[.val (.ref a1)] [(.ref a1)]))
  obtain ⟨T2, X2, e2, st2⟩ := getF X1 hx hZ hown (host := "") (Or.inl (hw _ (List.mem_of_getElem? (i := 46) rfl))) Via.refl e1 F_v (g := (mkF m 8 #[.val (.ref a1)] [(.ref a1)])) rfl rfl (hb hby d1_8)
  refine Gl.pre (fun _ k => st2 _ k) ?_
  show Gl p.tables e below PP (T2.setTop (mkF m 11 #[.val (.ref a1)] [.null]))
  refine Gl.pre (fun _ k => XS.ifnonnullNo X2.here hx rfl (hb hby d1_11) rfl k) ?_
  show Gl p.tables e below PP (T2.setTop (mkF m 14 #[.val (.ref a1)] []))
  refine Gl.pre (fun _ k => XS.aloadN X2.here hx rfl (hb hby d1_14) rfl rfl k) ?_
  show Gl p.tables e below PP (T2.setTop (mkF m 15 #[.val (.ref a1)] [(.ref a1)]))
  obtain ⟨T3, X3, e3, st3⟩ := getF X2 hx hZ hown (host := "") (Or.inl (hw _ (List.mem_of_getElem? (i := 48) rfl))) Via.refl e2 F_k (g := (mkF m 15 #[.val (.ref a1)] [(.ref a1)])) rfl rfl (hb hby d1_15)
  refine Gl.pre (fun _ k => st3 _ k) ?_
  show Gl p.tables e below PP (T3.setTop (mkF m 18 #[.val (.ref a1)] [(.ref y)]))
  refine Gl.pre (fun _ k => XS.ifnonnullYes X3.here hx rfl (pc0 := 18) (pc' := 25) rfl (hb hby d1_18) rfl (by decide) (by decide) k) ?_
  show Gl p.tables e below PP (T3.setTop (mkF m 25 #[.val (.ref a1)] []))
  refine Gl.pre (fun _ k => XS.iconst X3.here hx rfl (hb hby d1_25) k) ?_
  show Gl p.tables e below PP (T3.setTop (mkF m 26 #[.val (.ref a1)] [(.int (0 : Int32))]))
  rw [hPP]
  refine own_finN (Q := (Q1c Z a1 y h0 n0)) X3 hx hlk Bd.returns (t := .boolean) (z' := (0 : Int32)) (by simp) (by decide) (hb hby d1_26) ?_ (by decide) (by decide)
  show Q1c Z a1 y h0 n0 _ T3.heap _
  rw [e3]
  exact ⟨rfl, N0, rfl⟩
theorem ef_1d (m : MethodId) (a1 : Addr) : entryFrame m #[(.ref a1)] 1 = mkF m 0 #[.val (.ref a1)] [] := by first | (simp [entryFrame, mkF, argsToLocals, Value.category]; done) | rfl
def Q1d (Z : State) (a1 : Addr) (h0 : Heap) (n0 : Nat) (v : Option Value) (h : Heap) (L : List Loc) : Prop := v = some (.int (0 : Int32)) ∧ Fr n0 L ∧ h = h0
set_option maxRecDepth 65536 in
set_option maxHeartbeats 40000000 in
theorem rm1d (l : Launch) (Z : State) (a0 : Array Value) (hw : ∀ d ∈ tables_1, d.before a0 Z = true) (ws : List Jvm.Cond) (a1 : Addr) (h0 : Heap) (n0 : Nat) (Z0 : n0 ≤ h0.size) (F_o : Fld Z h0 a1 "com/example/anchorwatch/anchorwatch/config/ConfigKey" "optional" "Z" (.int (1 : Int32))) :
    MetFree l (⟨"com/example/anchorwatch/anchorwatch/config/ConfigKey", "required", "()Z"⟩ : MethodName) (head1 (Jvm.Cond.code (⟨"com/example/anchorwatch/anchorwatch/config/ConfigKey", "required", "()Z"⟩ : MethodName) prog_5_method_9_code 1 (some .boolean) :: ws) ({ frames := 0, cells := 0, slots := 0, locals := 0 } : Room)) (fun a U => a = #[(.ref a1)] ∧ Z.Warmed39 U.vm ∧ U.heap = h0) (fun _ _ _ _ _ => True) (fun _ U o U' => ∃ v L, o = .returned v ∧ Q1d Z a1 h0 n0 v U'.heap L ∧ FrameEnd U o U' L ({ frames := 0, cells := 0, slots := 0, locals := 0 } : Room).cells ({ frames := 0, cells := 0, slots := 0, locals := 0 } : Room).slots) := by
  refine MetFree.of_bodySF (plainFor_of_name pn_1) hisR ?_
  intro p e s m args below meth c s₁ Bd hml0 hP hK
  obtain ⟨rfl, hZ, hh⟩ := hP
  have hx := Bd.exec
  have hby := Bd.bytes
  have hlk : meth.locks = false := BodyLoose.notSynchronized Bd
  have hml : c.maxLocals = 1 := hml0
  have hown : s.vm.findClass "com/example/anchorwatch/anchorwatch/config/ConfigKey" = some m.cls := findClass_of_methodNamed Bd.named
  have hnm := (name_of_methodNamed Bd.named Bd.method).1
  have X0 : Stand p l e ({ frames := 0, cells := 0, slots := 0, locals := 0 } : Room) s m #[(.ref a1)] below meth c s₁ [] 0 0 := Stand.of_body Bd
  have e0 : s₁.heap = h0 := by rw [← hh, Bd.state]; rfl
  have N0 := Fr.nil n0
  show Gl p.tables e below (fun (o : Outcome) (U' : State) => ∃ v L, o = .returned v ∧ Q1d Z a1 h0 n0 v U'.heap L ∧ FrameEnd s o U' L ({ frames := 0, cells := 0, slots := 0, locals := 0 } : Room).cells ({ frames := 0, cells := 0, slots := 0, locals := 0 } : Room).slots) _
  refine Gl.pre (fun t k => castTop (ef_1d m a1) k) ?_
  obtain ⟨PP, hPP⟩ : ∃ P : Outcome → State → Prop, P = (fun (o : Outcome) (U' : State) => ∃ v L, o = .returned v ∧ Q1d Z a1 h0 n0 v U'.heap L ∧ FrameEnd s o U' L ({ frames := 0, cells := 0, slots := 0, locals := 0 } : Room).cells ({ frames := 0, cells := 0, slots := 0, locals := 0 } : Room).slots) := ⟨_, rfl⟩
  rw [← hPP]
  show Gl p.tables e below PP (s₁.setTop (mkF m 0 #[.val (.ref a1)] []))
  refine Gl.pre (fun _ k => XS.aloadN X0.here hx rfl (hb hby d1_0) rfl rfl k) ?_
  show Gl p.tables e below PP (s₁.setTop (mkF m 1 #[.val (.ref a1)] [(.ref a1)]))
  obtain ⟨T1, X1, e1, st1⟩ := getF X0 hx hZ hown (host := "") (Or.inl (hw _ (List.mem_of_getElem? (i := 44) rfl))) Via.refl e0 F_o (g := (mkF m 1 #[.val (.ref a1)] [(.ref a1)])) rfl rfl (hb hby d1_1)
  refine Gl.pre (fun _ k => st1 _ k) ?_
  show Gl p.tables e below PP (T1.setTop (mkF m 4 #[.val (.ref a1)] [(.int (1 : Int32))]))
  refine Gl.pre (fun _ k => XS.ifYes X1.here hx rfl (pc0 := 4) (pc' := 25) rfl (hb hby d1_4) rfl ((if0 _ _).trans (feq (show ¬ ((1 : Int32) = (0 : Int32)) from (by decide))).2) (by decide) (by decide) k) ?_
  show Gl p.tables e below PP (T1.setTop (mkF m 25 #[.val (.ref a1)] []))
  refine Gl.pre (fun _ k => XS.iconst X1.here hx rfl (hb hby d1_25) k) ?_
  show Gl p.tables e below PP (T1.setTop (mkF m 26 #[.val (.ref a1)] [(.int (0 : Int32))]))
  rw [hPP]
  refine own_finN (Q := (Q1d Z a1 h0 n0)) X1 hx hlk Bd.returns (t := .boolean) (z' := (0 : Int32)) (by simp) (by decide) (hb hby d1_26) ?_ (by decide) (by decide)
  show Q1d Z a1 h0 n0 _ T1.heap _
  rw [e1]
  exact ⟨rfl, N0, rfl⟩
theorem pn_0 : plainName "com/example/anchorwatch/anchorwatch/config/ConfigKeyRequiredPinLaw" = true := by first | (simp [plainName, overriddenIn]; done) | decide +kernel
theorem ef_0 (m : MethodId) (p1 : Int32) (ck0 : Addr) (ck1 : Addr) (ck2 : Addr) (ck3 : Addr) (ck4 : Addr) (ck5 : Addr) (ck6 : Addr) (ck7 : Addr) (ck8 : Addr) (ck9 : Addr) (ck10 : Addr) (ck11 : Addr) (ck12 : Addr) (ck13 : Addr) (ck14 : Addr) (ck15 : Addr) (ck16 : Addr) (dv4 : Addr) (dv5 : Addr) (dv6 : Addr) (dv7 : Addr) (dv8 : Addr) (dv9 : Addr) (dv14 : Addr) (dv15 : Addr) (dv16 : Addr) : entryFrame m #[(.int p1)] maxLocals = mkF m 0 #[.val (.int p1), .unset, .unset, .unset] [] := by first | (simp [entryFrame, mkF, argsToLocals, Value.category, maxLocals]; done) | rfl
def Q0 (Z : State) (p1 : Int32) (ck0 : Addr) (ck1 : Addr) (ck2 : Addr) (ck3 : Addr) (ck4 : Addr) (ck5 : Addr) (ck6 : Addr) (ck7 : Addr) (ck8 : Addr) (ck9 : Addr) (ck10 : Addr) (ck11 : Addr) (ck12 : Addr) (ck13 : Addr) (ck14 : Addr) (ck15 : Addr) (ck16 : Addr) (dv4 : Addr) (dv5 : Addr) (dv6 : Addr) (dv7 : Addr) (dv8 : Addr) (dv9 : Addr) (dv14 : Addr) (dv15 : Addr) (dv16 : Addr) (h0 : Heap) (n0 : Nat) (v : Option Value) (h : Heap) (L : List Loc) : Prop := v = some (.int (1 : Int32)) ∧ Fr n0 L
set_option maxRecDepth 65536 in
set_option maxHeartbeats 40000000 in
theorem rm0 (l : Launch) (Z : State) (a0 : Array Value) (hw : ∀ d ∈ tables_1, d.before a0 Z = true) (ws : List Jvm.Cond) (p1 : Int32) (ck0 : Addr) (ck1 : Addr) (ck2 : Addr) (ck3 : Addr) (ck4 : Addr) (ck5 : Addr) (ck6 : Addr) (ck7 : Addr) (ck8 : Addr) (ck9 : Addr) (ck10 : Addr) (ck11 : Addr) (ck12 : Addr) (ck13 : Addr) (ck14 : Addr) (ck15 : Addr) (ck16 : Addr) (dv4 : Addr) (dv5 : Addr) (dv6 : Addr) (dv7 : Addr) (dv8 : Addr) (dv9 : Addr) (dv14 : Addr) (dv15 : Addr) (dv16 : Addr) (h0 : Heap) (n0 : Nat) (Z0 : n0 ≤ h0.size) (O_ : Old Z n0 h0) (SB0 : Sta Z Z.heap "com/example/anchorwatch/anchorwatch/config/ConfigKey" "CLUSTER" "Lcom/example/anchorwatch/anchorwatch/config/ConfigKey;" (.ref ck0)) (KB0 : own_key Z ck0 (0 : Int32) .null .null) (SB1 : Sta Z Z.heap "com/example/anchorwatch/anchorwatch/config/ConfigKey" "NODES" "Lcom/example/anchorwatch/anchorwatch/config/ConfigKey;" (.ref ck1)) (KB1 : own_key Z ck1 (0 : Int32) .null .null) (SB2 : Sta Z Z.heap "com/example/anchorwatch/anchorwatch/config/ConfigKey" "USER" "Lcom/example/anchorwatch/anchorwatch/config/ConfigKey;" (.ref ck2)) (KB2 : own_key Z ck2 (0 : Int32) .null .null) (SB3 : Sta Z Z.heap "com/example/anchorwatch/anchorwatch/config/ConfigKey" "PASSWORD" "Lcom/example/anchorwatch/anchorwatch/config/ConfigKey;" (.ref ck3)) (KB3 : own_key Z ck3 (0 : Int32) .null .null) (SB4 : Sta Z Z.heap "com/example/anchorwatch/anchorwatch/config/ConfigKey" "CONNECT_TIMEOUT_MS" "Lcom/example/anchorwatch/anchorwatch/config/ConfigKey;" (.ref ck4)) (KB4 : own_key Z ck4 (0 : Int32) (.ref dv4) .null) (SB5 : Sta Z Z.heap "com/example/anchorwatch/anchorwatch/config/ConfigKey" "HEARTBEAT_INTERVAL_MS" "Lcom/example/anchorwatch/anchorwatch/config/ConfigKey;" (.ref ck5)) (KB5 : own_key Z ck5 (0 : Int32) (.ref dv5) .null) (SB6 : Sta Z Z.heap "com/example/anchorwatch/anchorwatch/config/ConfigKey" "HEARTBEAT_MISSES" "Lcom/example/anchorwatch/anchorwatch/config/ConfigKey;" (.ref ck6)) (KB6 : own_key Z ck6 (0 : Int32) (.ref dv6) .null) (SB7 : Sta Z Z.heap "com/example/anchorwatch/anchorwatch/config/ConfigKey" "PROMOTION_APPLY_TIMEOUT_MS" "Lcom/example/anchorwatch/anchorwatch/config/ConfigKey;" (.ref ck7)) (KB7 : own_key Z ck7 (0 : Int32) (.ref dv7) .null) (SB8 : Sta Z Z.heap "com/example/anchorwatch/anchorwatch/config/ConfigKey" "FAILOVER_MIN_REPLICAS" "Lcom/example/anchorwatch/anchorwatch/config/ConfigKey;" (.ref ck8)) (KB8 : own_key Z ck8 (0 : Int32) (.ref dv8) .null) (SB9 : Sta Z Z.heap "com/example/anchorwatch/anchorwatch/config/ConfigKey" "FAILOVER_MIN_INTERVAL_MS" "Lcom/example/anchorwatch/anchorwatch/config/ConfigKey;" (.ref ck9)) (KB9 : own_key Z ck9 (0 : Int32) (.ref dv9) .null) (SB10 : Sta Z Z.heap "com/example/anchorwatch/anchorwatch/config/ConfigKey" "REPLICATION_USER" "Lcom/example/anchorwatch/anchorwatch/config/ConfigKey;" (.ref ck10)) (KB10 : own_key Z ck10 (0 : Int32) .null (.ref ck2)) (SB11 : Sta Z Z.heap "com/example/anchorwatch/anchorwatch/config/ConfigKey" "REPLICATION_PASSWORD" "Lcom/example/anchorwatch/anchorwatch/config/ConfigKey;" (.ref ck11)) (KB11 : own_key Z ck11 (0 : Int32) .null (.ref ck3)) (SB12 : Sta Z Z.heap "com/example/anchorwatch/anchorwatch/config/ConfigKey" "ROUTER_WRITE" "Lcom/example/anchorwatch/anchorwatch/config/ConfigKey;" (.ref ck12)) (KB12 : own_key Z ck12 (1 : Int32) .null .null) (SB13 : Sta Z Z.heap "com/example/anchorwatch/anchorwatch/config/ConfigKey" "ROUTER_READ" "Lcom/example/anchorwatch/anchorwatch/config/ConfigKey;" (.ref ck13)) (KB13 : own_key Z ck13 (1 : Int32) .null .null) (SB14 : Sta Z Z.heap "com/example/anchorwatch/anchorwatch/config/ConfigKey" "ROUTER_HOLD_MS" "Lcom/example/anchorwatch/anchorwatch/config/ConfigKey;" (.ref ck14)) (KB14 : own_key Z ck14 (0 : Int32) (.ref dv14) .null) (SB15 : Sta Z Z.heap "com/example/anchorwatch/anchorwatch/config/ConfigKey" "ADMIN_ADDRESS" "Lcom/example/anchorwatch/anchorwatch/config/ConfigKey;" (.ref ck15)) (KB15 : own_key Z ck15 (0 : Int32) (.ref dv15) .null) (SB16 : Sta Z Z.heap "com/example/anchorwatch/anchorwatch/config/ConfigKey" "SWITCHOVER_DRAIN_MS" "Lcom/example/anchorwatch/anchorwatch/config/ConfigKey;" (.ref ck16)) (KB16 : own_key Z ck16 (0 : Int32) (.ref dv16) .null) :
    MetFree l x (head1 (Jvm.Cond.code x code maxLocals ret :: ws) room_1) (fun a U => a = #[(.int p1)] ∧ Z.Warmed39 U.vm ∧ U.heap = h0) (fun _ _ _ _ _ => True) (fun _ U o U' => ∃ v L, o = .returned v ∧ Q0 Z p1 ck0 ck1 ck2 ck3 ck4 ck5 ck6 ck7 ck8 ck9 ck10 ck11 ck12 ck13 ck14 ck15 ck16 dv4 dv5 dv6 dv7 dv8 dv9 dv14 dv15 dv16 h0 n0 v U'.heap L ∧ FrameEnd U o U' L room_1.cells room_1.slots) := by
  refine MetFree.of_bodySF (plainFor_of_name pn_0) hisR ?_
  intro p e s m args below meth c s₁ Bd hml0 hP hK
  obtain ⟨rfl, hZ, hh⟩ := hP
  have hx := Bd.exec
  have hby := Bd.bytes
  have hlk : meth.locks = false := BodyLoose.notSynchronized Bd
  have hml : c.maxLocals = 4 := hml0
  have hown : s.vm.findClass "com/example/anchorwatch/anchorwatch/config/ConfigKeyRequiredPinLaw" = some m.cls := findClass_of_methodNamed Bd.named
  have hnm := (name_of_methodNamed Bd.named Bd.method).1
  have X0 : Stand p l e room_1 s m #[(.int p1)] below meth c s₁ [] 0 0 := Stand.of_body Bd
  have e0 : s₁.heap = h0 := by rw [← hh, Bd.state]; rfl
  have N0 := Fr.nil n0
  show Gl p.tables e below (fun (o : Outcome) (U' : State) => ∃ v L, o = .returned v ∧ Q0 Z p1 ck0 ck1 ck2 ck3 ck4 ck5 ck6 ck7 ck8 ck9 ck10 ck11 ck12 ck13 ck14 ck15 ck16 dv4 dv5 dv6 dv7 dv8 dv9 dv14 dv15 dv16 h0 n0 v U'.heap L ∧ FrameEnd s o U' L room_1.cells room_1.slots) _
  refine Gl.pre (fun t k => castTop (ef_0 m p1 ck0 ck1 ck2 ck3 ck4 ck5 ck6 ck7 ck8 ck9 ck10 ck11 ck12 ck13 ck14 ck15 ck16 dv4 dv5 dv6 dv7 dv8 dv9 dv14 dv15 dv16) k) ?_
  obtain ⟨PP, hPP⟩ : ∃ P : Outcome → State → Prop, P = (fun (o : Outcome) (U' : State) => ∃ v L, o = .returned v ∧ Q0 Z p1 ck0 ck1 ck2 ck3 ck4 ck5 ck6 ck7 ck8 ck9 ck10 ck11 ck12 ck13 ck14 ck15 ck16 dv4 dv5 dv6 dv7 dv8 dv9 dv14 dv15 dv16 h0 n0 v U'.heap L ∧ FrameEnd s o U' L room_1.cells room_1.slots) := ⟨_, rfl⟩
  rw [← hPP]
  show Gl p.tables e below PP (s₁.setTop (mkF m 0 #[.val (.int p1), .unset, .unset, .unset] []))
  refine Gl.pre (fun _ k => XS.bipush X0.here hx rfl (hb hby at_0) k) ?_
  show Gl p.tables e below PP (s₁.setTop (mkF m 2 #[.val (.int p1), .unset, .unset, .unset] [(.int (17 : Int32))]))
  obtain ⟨T1, h1, k1, X1, e1, E1, A1, O1, st1⟩ := newR X0 hx hZ hown (hw _ (List.mem_of_getElem? (i := 0) rfl)) (hw _ (List.mem_of_getElem? (i := 1) rfl)) e0 (g := (mkF m 2 #[.val (.int p1), .unset, .unset, .unset] [(.int (17 : Int32))])) rfl (hb hby at_2) rfl (by decide) (cap := 17) (by decide) (by decide) (by decide) (by decide)
  obtain ⟨b1, g1⟩ : ∃ z, z = h0.size := ⟨_, rfl⟩
  rw [← g1] at A1 st1
  refine Gl.pre (fun _ k => st1 _ k) ?_
  have g_b1 : n0 ≤ b1 := Nat.le_trans Z0 (Nat.le_of_eq g1.symm)
  have O_ := O_.ext E1
  have Z1 : n0 ≤ h1.size := Nat.le_trans Z0 E1.1
  have V_b1 : Ral Z h1 b1 k1 "com/example/anchorwatch/anchorwatch/config/ConfigKey" [.null, .null, .null, .null, .null, .null, .null, .null, .null, .null, .null, .null, .null, .null, .null, .null, .null] := Ral.new A1 (n := 17) (by decide)
  show Gl p.tables e below PP (T1.setTop (mkF m 5 #[.val (.int p1), .unset, .unset, .unset] [(.ref b1)]))
  refine Gl.pre (fun _ k => XS.dup X1.here hx rfl (hb hby at_5) rfl rfl k) ?_
  show Gl p.tables e below PP (T1.setTop (mkF m 6 #[.val (.int p1), .unset, .unset, .unset] [(.ref b1), (.ref b1)]))
  refine Gl.pre (fun _ k => XS.iconst X1.here hx rfl (hb hby at_6) k) ?_
  show Gl p.tables e below PP (T1.setTop (mkF m 7 #[.val (.int p1), .unset, .unset, .unset] [(.int (0 : Int32)), (.ref b1), (.ref b1)]))
  obtain ⟨T2, X2, e2, st2⟩ := getS2 X1 hx hZ hown (host := "") (Or.inl (hw _ (List.mem_of_getElem? (i := 2) rfl))) Via.refl e1 (SB0.ext O_.2) (g := (mkF m 7 #[.val (.int p1), .unset, .unset, .unset] [(.int (0 : Int32)), (.ref b1), (.ref b1)])) rfl (hb hby at_7)
  refine Gl.pre (fun _ k => st2 _ k) ?_
  show Gl p.tables e below PP (T2.setTop (mkF m 10 #[.val (.int p1), .unset, .unset, .unset] [(.ref ck0), (.int (0 : Int32)), (.ref b1), (.ref b1)]))
  obtain ⟨T3, h3, X3, e3, W3, V3, st3⟩ := own_stR X2 hx hZ e2 V_b1 O1 (Ins.self (KB0.1.ext O_.2)) (j := (0 : Int32)) (i := 0) (by decide) (by decide) (Nat.lt_of_lt_of_eq (by decide : 0 < 17) rfl) (g := (mkF m 10 #[.val (.int p1), .unset, .unset, .unset] [(.ref ck0), (.int (0 : Int32)), (.ref b1), (.ref b1)])) rfl rfl (hb hby at_10)
  refine Gl.pre (fun _ k => st3 _ k) ?_
  have O_ := O_.wr W3 g_b1
  have Z3 : n0 ≤ h3.size := by rw [W3.size]; exact Z1
  have N3 := Fr.snoc X3 N0 g_b1
  have V_b1 : Ral Z h3 b1 k1 "com/example/anchorwatch/anchorwatch/config/ConfigKey" [(.ref ck0), .null, .null, .null, .null, .null, .null, .null, .null, .null, .null, .null, .null, .null, .null, .null, .null] := V3
  show Gl p.tables e below PP (T3.setTop (mkF m 11 #[.val (.int p1), .unset, .unset, .unset] [(.ref b1)]))
  refine Gl.pre (fun _ k => XS.dup X3.here hx rfl (hb hby at_11) rfl rfl k) ?_
  show Gl p.tables e below PP (T3.setTop (mkF m 12 #[.val (.int p1), .unset, .unset, .unset] [(.ref b1), (.ref b1)]))
  refine Gl.pre (fun _ k => XS.iconst X3.here hx rfl (hb hby at_12) k) ?_
  show Gl p.tables e below PP (T3.setTop (mkF m 13 #[.val (.int p1), .unset, .unset, .unset] [(.int (1 : Int32)), (.ref b1), (.ref b1)]))
  obtain ⟨T4, X4, e4, st4⟩ := getS2 X3 hx hZ hown (host := "") (Or.inl (hw _ (List.mem_of_getElem? (i := 6) rfl))) Via.refl e3 (SB1.ext O_.2) (g := (mkF m 13 #[.val (.int p1), .unset, .unset, .unset] [(.int (1 : Int32)), (.ref b1), (.ref b1)])) rfl (hb hby at_13)
  refine Gl.pre (fun _ k => st4 _ k) ?_
  show Gl p.tables e below PP (T4.setTop (mkF m 16 #[.val (.int p1), .unset, .unset, .unset] [(.ref ck1), (.int (1 : Int32)), (.ref b1), (.ref b1)]))
  obtain ⟨T5, h5, X5, e5, W5, V5, st5⟩ := own_stR X4 hx hZ e4 V_b1 O1 (Ins.self (KB1.1.ext O_.2)) (j := (1 : Int32)) (i := 1) (by decide) (by decide) (Nat.lt_of_lt_of_eq (by decide : 1 < 17) rfl) (g := (mkF m 16 #[.val (.int p1), .unset, .unset, .unset] [(.ref ck1), (.int (1 : Int32)), (.ref b1), (.ref b1)])) rfl rfl (hb hby at_16)
  refine Gl.pre (fun _ k => st5 _ k) ?_
  have O_ := O_.wr W5 g_b1
  have Z5 : n0 ≤ h5.size := by rw [W5.size]; exact Z3
  have N5 := Fr.snoc X5 N3 g_b1
  have V_b1 : Ral Z h5 b1 k1 "com/example/anchorwatch/anchorwatch/config/ConfigKey" [(.ref ck0), (.ref ck1), .null, .null, .null, .null, .null, .null, .null, .null, .null, .null, .null, .null, .null, .null, .null] := V5
  show Gl p.tables e below PP (T5.setTop (mkF m 17 #[.val (.int p1), .unset, .unset, .unset] [(.ref b1)]))
  refine Gl.pre (fun _ k => XS.dup X5.here hx rfl (hb hby at_17) rfl rfl k) ?_
  show Gl p.tables e below PP (T5.setTop (mkF m 18 #[.val (.int p1), .unset, .unset, .unset] [(.ref b1), (.ref b1)]))
  refine Gl.pre (fun _ k => XS.iconst X5.here hx rfl (hb hby at_18) k) ?_
  show Gl p.tables e below PP (T5.setTop (mkF m 19 #[.val (.int p1), .unset, .unset, .unset] [(.int (2 : Int32)), (.ref b1), (.ref b1)]))
  obtain ⟨T6, X6, e6, st6⟩ := getS2 X5 hx hZ hown (host := "") (Or.inl (hw _ (List.mem_of_getElem? (i := 8) rfl))) Via.refl e5 (SB2.ext O_.2) (g := (mkF m 19 #[.val (.int p1), .unset, .unset, .unset] [(.int (2 : Int32)), (.ref b1), (.ref b1)])) rfl (hb hby at_19)
  refine Gl.pre (fun _ k => st6 _ k) ?_
  show Gl p.tables e below PP (T6.setTop (mkF m 22 #[.val (.int p1), .unset, .unset, .unset] [(.ref ck2), (.int (2 : Int32)), (.ref b1), (.ref b1)]))
  obtain ⟨T7, h7, X7, e7, W7, V7, st7⟩ := own_stR X6 hx hZ e6 V_b1 O1 (Ins.self (KB2.1.ext O_.2)) (j := (2 : Int32)) (i := 2) (by decide) (by decide) (Nat.lt_of_lt_of_eq (by decide : 2 < 17) rfl) (g := (mkF m 22 #[.val (.int p1), .unset, .unset, .unset] [(.ref ck2), (.int (2 : Int32)), (.ref b1), (.ref b1)])) rfl rfl (hb hby at_22)
  refine Gl.pre (fun _ k => st7 _ k) ?_
  have O_ := O_.wr W7 g_b1
  have Z7 : n0 ≤ h7.size := by rw [W7.size]; exact Z5
  have N7 := Fr.snoc X7 N5 g_b1
  have V_b1 : Ral Z h7 b1 k1 "com/example/anchorwatch/anchorwatch/config/ConfigKey" [(.ref ck0), (.ref ck1), (.ref ck2), .null, .null, .null, .null, .null, .null, .null, .null, .null, .null, .null, .null, .null, .null] := V7
  show Gl p.tables e below PP (T7.setTop (mkF m 23 #[.val (.int p1), .unset, .unset, .unset] [(.ref b1)]))
  refine Gl.pre (fun _ k => XS.dup X7.here hx rfl (hb hby at_23) rfl rfl k) ?_
  show Gl p.tables e below PP (T7.setTop (mkF m 24 #[.val (.int p1), .unset, .unset, .unset] [(.ref b1), (.ref b1)]))
  refine Gl.pre (fun _ k => XS.iconst X7.here hx rfl (hb hby at_24) k) ?_
  show Gl p.tables e below PP (T7.setTop (mkF m 25 #[.val (.int p1), .unset, .unset, .unset] [(.int (3 : Int32)), (.ref b1), (.ref b1)]))
  obtain ⟨T8, X8, e8, st8⟩ := getS2 X7 hx hZ hown (host := "") (Or.inl (hw _ (List.mem_of_getElem? (i := 10) rfl))) Via.refl e7 (SB3.ext O_.2) (g := (mkF m 25 #[.val (.int p1), .unset, .unset, .unset] [(.int (3 : Int32)), (.ref b1), (.ref b1)])) rfl (hb hby at_25)
  refine Gl.pre (fun _ k => st8 _ k) ?_
  show Gl p.tables e below PP (T8.setTop (mkF m 28 #[.val (.int p1), .unset, .unset, .unset] [(.ref ck3), (.int (3 : Int32)), (.ref b1), (.ref b1)]))
  obtain ⟨T9, h9, X9, e9, W9, V9, st9⟩ := own_stR X8 hx hZ e8 V_b1 O1 (Ins.self (KB3.1.ext O_.2)) (j := (3 : Int32)) (i := 3) (by decide) (by decide) (Nat.lt_of_lt_of_eq (by decide : 3 < 17) rfl) (g := (mkF m 28 #[.val (.int p1), .unset, .unset, .unset] [(.ref ck3), (.int (3 : Int32)), (.ref b1), (.ref b1)])) rfl rfl (hb hby at_28)
  refine Gl.pre (fun _ k => st9 _ k) ?_
  have O_ := O_.wr W9 g_b1
  have Z9 : n0 ≤ h9.size := by rw [W9.size]; exact Z7
  have N9 := Fr.snoc X9 N7 g_b1
  have V_b1 : Ral Z h9 b1 k1 "com/example/anchorwatch/anchorwatch/config/ConfigKey" [(.ref ck0), (.ref ck1), (.ref ck2), (.ref ck3), .null, .null, .null, .null, .null, .null, .null, .null, .null, .null, .null, .null, .null] := V9
  show Gl p.tables e below PP (T9.setTop (mkF m 29 #[.val (.int p1), .unset, .unset, .unset] [(.ref b1)]))
  refine Gl.pre (fun _ k => XS.dup X9.here hx rfl (hb hby at_29) rfl rfl k) ?_
  show Gl p.tables e below PP (T9.setTop (mkF m 30 #[.val (.int p1), .unset, .unset, .unset] [(.ref b1), (.ref b1)]))
  refine Gl.pre (fun _ k => XS.iconst X9.here hx rfl (hb hby at_30) k) ?_
  show Gl p.tables e below PP (T9.setTop (mkF m 31 #[.val (.int p1), .unset, .unset, .unset] [(.int (4 : Int32)), (.ref b1), (.ref b1)]))
  obtain ⟨T10, X10, e10, st10⟩ := getS2 X9 hx hZ hown (host := "") (Or.inl (hw _ (List.mem_of_getElem? (i := 12) rfl))) Via.refl e9 (SB4.ext O_.2) (g := (mkF m 31 #[.val (.int p1), .unset, .unset, .unset] [(.int (4 : Int32)), (.ref b1), (.ref b1)])) rfl (hb hby at_31)
  refine Gl.pre (fun _ k => st10 _ k) ?_
  show Gl p.tables e below PP (T10.setTop (mkF m 34 #[.val (.int p1), .unset, .unset, .unset] [(.ref ck4), (.int (4 : Int32)), (.ref b1), (.ref b1)]))
  obtain ⟨T11, h11, X11, e11, W11, V11, st11⟩ := own_stR X10 hx hZ e10 V_b1 O1 (Ins.self (KB4.1.ext O_.2)) (j := (4 : Int32)) (i := 4) (by decide) (by decide) (Nat.lt_of_lt_of_eq (by decide : 4 < 17) rfl) (g := (mkF m 34 #[.val (.int p1), .unset, .unset, .unset] [(.ref ck4), (.int (4 : Int32)), (.ref b1), (.ref b1)])) rfl rfl (hb hby at_34)
  refine Gl.pre (fun _ k => st11 _ k) ?_
  have O_ := O_.wr W11 g_b1
  have Z11 : n0 ≤ h11.size := by rw [W11.size]; exact Z9
  have N11 := Fr.snoc X11 N9 g_b1
  have V_b1 : Ral Z h11 b1 k1 "com/example/anchorwatch/anchorwatch/config/ConfigKey" [(.ref ck0), (.ref ck1), (.ref ck2), (.ref ck3), (.ref ck4), .null, .null, .null, .null, .null, .null, .null, .null, .null, .null, .null, .null] := V11
  show Gl p.tables e below PP (T11.setTop (mkF m 35 #[.val (.int p1), .unset, .unset, .unset] [(.ref b1)]))
  refine Gl.pre (fun _ k => XS.dup X11.here hx rfl (hb hby at_35) rfl rfl k) ?_
  show Gl p.tables e below PP (T11.setTop (mkF m 36 #[.val (.int p1), .unset, .unset, .unset] [(.ref b1), (.ref b1)]))
  refine Gl.pre (fun _ k => XS.iconst X11.here hx rfl (hb hby at_36) k) ?_
  show Gl p.tables e below PP (T11.setTop (mkF m 37 #[.val (.int p1), .unset, .unset, .unset] [(.int (5 : Int32)), (.ref b1), (.ref b1)]))
  obtain ⟨T12, X12, e12, st12⟩ := getS2 X11 hx hZ hown (host := "") (Or.inl (hw _ (List.mem_of_getElem? (i := 14) rfl))) Via.refl e11 (SB5.ext O_.2) (g := (mkF m 37 #[.val (.int p1), .unset, .unset, .unset] [(.int (5 : Int32)), (.ref b1), (.ref b1)])) rfl (hb hby at_37)
  refine Gl.pre (fun _ k => st12 _ k) ?_
  show Gl p.tables e below PP (T12.setTop (mkF m 40 #[.val (.int p1), .unset, .unset, .unset] [(.ref ck5), (.int (5 : Int32)), (.ref b1), (.ref b1)]))
  obtain ⟨T13, h13, X13, e13, W13, V13, st13⟩ := own_stR X12 hx hZ e12 V_b1 O1 (Ins.self (KB5.1.ext O_.2)) (j := (5 : Int32)) (i := 5) (by decide) (by decide) (Nat.lt_of_lt_of_eq (by decide : 5 < 17) rfl) (g := (mkF m 40 #[.val (.int p1), .unset, .unset, .unset] [(.ref ck5), (.int (5 : Int32)), (.ref b1), (.ref b1)])) rfl rfl (hb hby at_40)
  refine Gl.pre (fun _ k => st13 _ k) ?_
  have O_ := O_.wr W13 g_b1
  have Z13 : n0 ≤ h13.size := by rw [W13.size]; exact Z11
  have N13 := Fr.snoc X13 N11 g_b1
  have V_b1 : Ral Z h13 b1 k1 "com/example/anchorwatch/anchorwatch/config/ConfigKey" [(.ref ck0), (.ref ck1), (.ref ck2), (.ref ck3), (.ref ck4), (.ref ck5), .null, .null, .null, .null, .null, .null, .null, .null, .null, .null, .null] := V13
  show Gl p.tables e below PP (T13.setTop (mkF m 41 #[.val (.int p1), .unset, .unset, .unset] [(.ref b1)]))
  refine Gl.pre (fun _ k => XS.dup X13.here hx rfl (hb hby at_41) rfl rfl k) ?_
  show Gl p.tables e below PP (T13.setTop (mkF m 42 #[.val (.int p1), .unset, .unset, .unset] [(.ref b1), (.ref b1)]))
  refine Gl.pre (fun _ k => XS.bipush X13.here hx rfl (hb hby at_42) k) ?_
  show Gl p.tables e below PP (T13.setTop (mkF m 44 #[.val (.int p1), .unset, .unset, .unset] [(.int (6 : Int32)), (.ref b1), (.ref b1)]))
  obtain ⟨T14, X14, e14, st14⟩ := getS2 X13 hx hZ hown (host := "") (Or.inl (hw _ (List.mem_of_getElem? (i := 16) rfl))) Via.refl e13 (SB6.ext O_.2) (g := (mkF m 44 #[.val (.int p1), .unset, .unset, .unset] [(.int (6 : Int32)), (.ref b1), (.ref b1)])) rfl (hb hby at_44)
  refine Gl.pre (fun _ k => st14 _ k) ?_
  show Gl p.tables e below PP (T14.setTop (mkF m 47 #[.val (.int p1), .unset, .unset, .unset] [(.ref ck6), (.int (6 : Int32)), (.ref b1), (.ref b1)]))
  obtain ⟨T15, h15, X15, e15, W15, V15, st15⟩ := own_stR X14 hx hZ e14 V_b1 O1 (Ins.self (KB6.1.ext O_.2)) (j := (6 : Int32)) (i := 6) (by decide) (by decide) (Nat.lt_of_lt_of_eq (by decide : 6 < 17) rfl) (g := (mkF m 47 #[.val (.int p1), .unset, .unset, .unset] [(.ref ck6), (.int (6 : Int32)), (.ref b1), (.ref b1)])) rfl rfl (hb hby at_47)
  refine Gl.pre (fun _ k => st15 _ k) ?_
  have O_ := O_.wr W15 g_b1
  have Z15 : n0 ≤ h15.size := by rw [W15.size]; exact Z13
  have N15 := Fr.snoc X15 N13 g_b1
  have V_b1 : Ral Z h15 b1 k1 "com/example/anchorwatch/anchorwatch/config/ConfigKey" [(.ref ck0), (.ref ck1), (.ref ck2), (.ref ck3), (.ref ck4), (.ref ck5), (.ref ck6), .null, .null, .null, .null, .null, .null, .null, .null, .null, .null] := V15
  show Gl p.tables e below PP (T15.setTop (mkF m 48 #[.val (.int p1), .unset, .unset, .unset] [(.ref b1)]))
  refine Gl.pre (fun _ k => XS.dup X15.here hx rfl (hb hby at_48) rfl rfl k) ?_
  show Gl p.tables e below PP (T15.setTop (mkF m 49 #[.val (.int p1), .unset, .unset, .unset] [(.ref b1), (.ref b1)]))
  refine Gl.pre (fun _ k => XS.bipush X15.here hx rfl (hb hby at_49) k) ?_
  show Gl p.tables e below PP (T15.setTop (mkF m 51 #[.val (.int p1), .unset, .unset, .unset] [(.int (7 : Int32)), (.ref b1), (.ref b1)]))
  obtain ⟨T16, X16, e16, st16⟩ := getS2 X15 hx hZ hown (host := "") (Or.inl (hw _ (List.mem_of_getElem? (i := 18) rfl))) Via.refl e15 (SB7.ext O_.2) (g := (mkF m 51 #[.val (.int p1), .unset, .unset, .unset] [(.int (7 : Int32)), (.ref b1), (.ref b1)])) rfl (hb hby at_51)
  refine Gl.pre (fun _ k => st16 _ k) ?_
  show Gl p.tables e below PP (T16.setTop (mkF m 54 #[.val (.int p1), .unset, .unset, .unset] [(.ref ck7), (.int (7 : Int32)), (.ref b1), (.ref b1)]))
  obtain ⟨T17, h17, X17, e17, W17, V17, st17⟩ := own_stR X16 hx hZ e16 V_b1 O1 (Ins.self (KB7.1.ext O_.2)) (j := (7 : Int32)) (i := 7) (by decide) (by decide) (Nat.lt_of_lt_of_eq (by decide : 7 < 17) rfl) (g := (mkF m 54 #[.val (.int p1), .unset, .unset, .unset] [(.ref ck7), (.int (7 : Int32)), (.ref b1), (.ref b1)])) rfl rfl (hb hby at_54)
  refine Gl.pre (fun _ k => st17 _ k) ?_
  have O_ := O_.wr W17 g_b1
  have Z17 : n0 ≤ h17.size := by rw [W17.size]; exact Z15
  have N17 := Fr.snoc X17 N15 g_b1
  have V_b1 : Ral Z h17 b1 k1 "com/example/anchorwatch/anchorwatch/config/ConfigKey" [(.ref ck0), (.ref ck1), (.ref ck2), (.ref ck3), (.ref ck4), (.ref ck5), (.ref ck6), (.ref ck7), .null, .null, .null, .null, .null, .null, .null, .null, .null] := V17
  show Gl p.tables e below PP (T17.setTop (mkF m 55 #[.val (.int p1), .unset, .unset, .unset] [(.ref b1)]))
  refine Gl.pre (fun _ k => XS.dup X17.here hx rfl (hb hby at_55) rfl rfl k) ?_
  show Gl p.tables e below PP (T17.setTop (mkF m 56 #[.val (.int p1), .unset, .unset, .unset] [(.ref b1), (.ref b1)]))
  refine Gl.pre (fun _ k => XS.bipush X17.here hx rfl (hb hby at_56) k) ?_
  show Gl p.tables e below PP (T17.setTop (mkF m 58 #[.val (.int p1), .unset, .unset, .unset] [(.int (8 : Int32)), (.ref b1), (.ref b1)]))
  obtain ⟨T18, X18, e18, st18⟩ := getS2 X17 hx hZ hown (host := "") (Or.inl (hw _ (List.mem_of_getElem? (i := 20) rfl))) Via.refl e17 (SB8.ext O_.2) (g := (mkF m 58 #[.val (.int p1), .unset, .unset, .unset] [(.int (8 : Int32)), (.ref b1), (.ref b1)])) rfl (hb hby at_58)
  refine Gl.pre (fun _ k => st18 _ k) ?_
  show Gl p.tables e below PP (T18.setTop (mkF m 61 #[.val (.int p1), .unset, .unset, .unset] [(.ref ck8), (.int (8 : Int32)), (.ref b1), (.ref b1)]))
  obtain ⟨T19, h19, X19, e19, W19, V19, st19⟩ := own_stR X18 hx hZ e18 V_b1 O1 (Ins.self (KB8.1.ext O_.2)) (j := (8 : Int32)) (i := 8) (by decide) (by decide) (Nat.lt_of_lt_of_eq (by decide : 8 < 17) rfl) (g := (mkF m 61 #[.val (.int p1), .unset, .unset, .unset] [(.ref ck8), (.int (8 : Int32)), (.ref b1), (.ref b1)])) rfl rfl (hb hby at_61)
  refine Gl.pre (fun _ k => st19 _ k) ?_
  have O_ := O_.wr W19 g_b1
  have Z19 : n0 ≤ h19.size := by rw [W19.size]; exact Z17
  have N19 := Fr.snoc X19 N17 g_b1
  have V_b1 : Ral Z h19 b1 k1 "com/example/anchorwatch/anchorwatch/config/ConfigKey" [(.ref ck0), (.ref ck1), (.ref ck2), (.ref ck3), (.ref ck4), (.ref ck5), (.ref ck6), (.ref ck7), (.ref ck8), .null, .null, .null, .null, .null, .null, .null, .null] := V19
  show Gl p.tables e below PP (T19.setTop (mkF m 62 #[.val (.int p1), .unset, .unset, .unset] [(.ref b1)]))
  refine Gl.pre (fun _ k => XS.dup X19.here hx rfl (hb hby at_62) rfl rfl k) ?_
  show Gl p.tables e below PP (T19.setTop (mkF m 63 #[.val (.int p1), .unset, .unset, .unset] [(.ref b1), (.ref b1)]))
  refine Gl.pre (fun _ k => XS.bipush X19.here hx rfl (hb hby at_63) k) ?_
  show Gl p.tables e below PP (T19.setTop (mkF m 65 #[.val (.int p1), .unset, .unset, .unset] [(.int (9 : Int32)), (.ref b1), (.ref b1)]))
  obtain ⟨T20, X20, e20, st20⟩ := getS2 X19 hx hZ hown (host := "") (Or.inl (hw _ (List.mem_of_getElem? (i := 22) rfl))) Via.refl e19 (SB9.ext O_.2) (g := (mkF m 65 #[.val (.int p1), .unset, .unset, .unset] [(.int (9 : Int32)), (.ref b1), (.ref b1)])) rfl (hb hby at_65)
  refine Gl.pre (fun _ k => st20 _ k) ?_
  show Gl p.tables e below PP (T20.setTop (mkF m 68 #[.val (.int p1), .unset, .unset, .unset] [(.ref ck9), (.int (9 : Int32)), (.ref b1), (.ref b1)]))
  obtain ⟨T21, h21, X21, e21, W21, V21, st21⟩ := own_stR X20 hx hZ e20 V_b1 O1 (Ins.self (KB9.1.ext O_.2)) (j := (9 : Int32)) (i := 9) (by decide) (by decide) (Nat.lt_of_lt_of_eq (by decide : 9 < 17) rfl) (g := (mkF m 68 #[.val (.int p1), .unset, .unset, .unset] [(.ref ck9), (.int (9 : Int32)), (.ref b1), (.ref b1)])) rfl rfl (hb hby at_68)
  refine Gl.pre (fun _ k => st21 _ k) ?_
  have O_ := O_.wr W21 g_b1
  have Z21 : n0 ≤ h21.size := by rw [W21.size]; exact Z19
  have N21 := Fr.snoc X21 N19 g_b1
  have V_b1 : Ral Z h21 b1 k1 "com/example/anchorwatch/anchorwatch/config/ConfigKey" [(.ref ck0), (.ref ck1), (.ref ck2), (.ref ck3), (.ref ck4), (.ref ck5), (.ref ck6), (.ref ck7), (.ref ck8), (.ref ck9), .null, .null, .null, .null, .null, .null, .null] := V21
  show Gl p.tables e below PP (T21.setTop (mkF m 69 #[.val (.int p1), .unset, .unset, .unset] [(.ref b1)]))
  refine Gl.pre (fun _ k => XS.dup X21.here hx rfl (hb hby at_69) rfl rfl k) ?_
  show Gl p.tables e below PP (T21.setTop (mkF m 70 #[.val (.int p1), .unset, .unset, .unset] [(.ref b1), (.ref b1)]))
  refine Gl.pre (fun _ k => XS.bipush X21.here hx rfl (hb hby at_70) k) ?_
  show Gl p.tables e below PP (T21.setTop (mkF m 72 #[.val (.int p1), .unset, .unset, .unset] [(.int (10 : Int32)), (.ref b1), (.ref b1)]))
  obtain ⟨T22, X22, e22, st22⟩ := getS2 X21 hx hZ hown (host := "") (Or.inl (hw _ (List.mem_of_getElem? (i := 24) rfl))) Via.refl e21 (SB10.ext O_.2) (g := (mkF m 72 #[.val (.int p1), .unset, .unset, .unset] [(.int (10 : Int32)), (.ref b1), (.ref b1)])) rfl (hb hby at_72)
  refine Gl.pre (fun _ k => st22 _ k) ?_
  show Gl p.tables e below PP (T22.setTop (mkF m 75 #[.val (.int p1), .unset, .unset, .unset] [(.ref ck10), (.int (10 : Int32)), (.ref b1), (.ref b1)]))
  obtain ⟨T23, h23, X23, e23, W23, V23, st23⟩ := own_stR X22 hx hZ e22 V_b1 O1 (Ins.self (KB10.1.ext O_.2)) (j := (10 : Int32)) (i := 10) (by decide) (by decide) (Nat.lt_of_lt_of_eq (by decide : 10 < 17) rfl) (g := (mkF m 75 #[.val (.int p1), .unset, .unset, .unset] [(.ref ck10), (.int (10 : Int32)), (.ref b1), (.ref b1)])) rfl rfl (hb hby at_75)
  refine Gl.pre (fun _ k => st23 _ k) ?_
  have O_ := O_.wr W23 g_b1
  have Z23 : n0 ≤ h23.size := by rw [W23.size]; exact Z21
  have N23 := Fr.snoc X23 N21 g_b1
  have V_b1 : Ral Z h23 b1 k1 "com/example/anchorwatch/anchorwatch/config/ConfigKey" [(.ref ck0), (.ref ck1), (.ref ck2), (.ref ck3), (.ref ck4), (.ref ck5), (.ref ck6), (.ref ck7), (.ref ck8), (.ref ck9), (.ref ck10), .null, .null, .null, .null, .null, .null] := V23
  show Gl p.tables e below PP (T23.setTop (mkF m 76 #[.val (.int p1), .unset, .unset, .unset] [(.ref b1)]))
  refine Gl.pre (fun _ k => XS.dup X23.here hx rfl (hb hby at_76) rfl rfl k) ?_
  show Gl p.tables e below PP (T23.setTop (mkF m 77 #[.val (.int p1), .unset, .unset, .unset] [(.ref b1), (.ref b1)]))
  refine Gl.pre (fun _ k => XS.bipush X23.here hx rfl (hb hby at_77) k) ?_
  show Gl p.tables e below PP (T23.setTop (mkF m 79 #[.val (.int p1), .unset, .unset, .unset] [(.int (11 : Int32)), (.ref b1), (.ref b1)]))
  obtain ⟨T24, X24, e24, st24⟩ := getS2 X23 hx hZ hown (host := "") (Or.inl (hw _ (List.mem_of_getElem? (i := 26) rfl))) Via.refl e23 (SB11.ext O_.2) (g := (mkF m 79 #[.val (.int p1), .unset, .unset, .unset] [(.int (11 : Int32)), (.ref b1), (.ref b1)])) rfl (hb hby at_79)
  refine Gl.pre (fun _ k => st24 _ k) ?_
  show Gl p.tables e below PP (T24.setTop (mkF m 82 #[.val (.int p1), .unset, .unset, .unset] [(.ref ck11), (.int (11 : Int32)), (.ref b1), (.ref b1)]))
  obtain ⟨T25, h25, X25, e25, W25, V25, st25⟩ := own_stR X24 hx hZ e24 V_b1 O1 (Ins.self (KB11.1.ext O_.2)) (j := (11 : Int32)) (i := 11) (by decide) (by decide) (Nat.lt_of_lt_of_eq (by decide : 11 < 17) rfl) (g := (mkF m 82 #[.val (.int p1), .unset, .unset, .unset] [(.ref ck11), (.int (11 : Int32)), (.ref b1), (.ref b1)])) rfl rfl (hb hby at_82)
  refine Gl.pre (fun _ k => st25 _ k) ?_
  have O_ := O_.wr W25 g_b1
  have Z25 : n0 ≤ h25.size := by rw [W25.size]; exact Z23
  have N25 := Fr.snoc X25 N23 g_b1
  have V_b1 : Ral Z h25 b1 k1 "com/example/anchorwatch/anchorwatch/config/ConfigKey" [(.ref ck0), (.ref ck1), (.ref ck2), (.ref ck3), (.ref ck4), (.ref ck5), (.ref ck6), (.ref ck7), (.ref ck8), (.ref ck9), (.ref ck10), (.ref ck11), .null, .null, .null, .null, .null] := V25
  show Gl p.tables e below PP (T25.setTop (mkF m 83 #[.val (.int p1), .unset, .unset, .unset] [(.ref b1)]))
  refine Gl.pre (fun _ k => XS.dup X25.here hx rfl (hb hby at_83) rfl rfl k) ?_
  show Gl p.tables e below PP (T25.setTop (mkF m 84 #[.val (.int p1), .unset, .unset, .unset] [(.ref b1), (.ref b1)]))
  refine Gl.pre (fun _ k => XS.bipush X25.here hx rfl (hb hby at_84) k) ?_
  show Gl p.tables e below PP (T25.setTop (mkF m 86 #[.val (.int p1), .unset, .unset, .unset] [(.int (12 : Int32)), (.ref b1), (.ref b1)]))
  obtain ⟨T26, X26, e26, st26⟩ := getS2 X25 hx hZ hown (host := "") (Or.inl (hw _ (List.mem_of_getElem? (i := 28) rfl))) Via.refl e25 (SB12.ext O_.2) (g := (mkF m 86 #[.val (.int p1), .unset, .unset, .unset] [(.int (12 : Int32)), (.ref b1), (.ref b1)])) rfl (hb hby at_86)
  refine Gl.pre (fun _ k => st26 _ k) ?_
  show Gl p.tables e below PP (T26.setTop (mkF m 89 #[.val (.int p1), .unset, .unset, .unset] [(.ref ck12), (.int (12 : Int32)), (.ref b1), (.ref b1)]))
  obtain ⟨T27, h27, X27, e27, W27, V27, st27⟩ := own_stR X26 hx hZ e26 V_b1 O1 (Ins.self (KB12.1.ext O_.2)) (j := (12 : Int32)) (i := 12) (by decide) (by decide) (Nat.lt_of_lt_of_eq (by decide : 12 < 17) rfl) (g := (mkF m 89 #[.val (.int p1), .unset, .unset, .unset] [(.ref ck12), (.int (12 : Int32)), (.ref b1), (.ref b1)])) rfl rfl (hb hby at_89)
  refine Gl.pre (fun _ k => st27 _ k) ?_
  have O_ := O_.wr W27 g_b1
  have Z27 : n0 ≤ h27.size := by rw [W27.size]; exact Z25
  have N27 := Fr.snoc X27 N25 g_b1
  have V_b1 : Ral Z h27 b1 k1 "com/example/anchorwatch/anchorwatch/config/ConfigKey" [(.ref ck0), (.ref ck1), (.ref ck2), (.ref ck3), (.ref ck4), (.ref ck5), (.ref ck6), (.ref ck7), (.ref ck8), (.ref ck9), (.ref ck10), (.ref ck11), (.ref ck12), .null, .null, .null, .null] := V27
  show Gl p.tables e below PP (T27.setTop (mkF m 90 #[.val (.int p1), .unset, .unset, .unset] [(.ref b1)]))
  refine Gl.pre (fun _ k => XS.dup X27.here hx rfl (hb hby at_90) rfl rfl k) ?_
  show Gl p.tables e below PP (T27.setTop (mkF m 91 #[.val (.int p1), .unset, .unset, .unset] [(.ref b1), (.ref b1)]))
  refine Gl.pre (fun _ k => XS.bipush X27.here hx rfl (hb hby at_91) k) ?_
  show Gl p.tables e below PP (T27.setTop (mkF m 93 #[.val (.int p1), .unset, .unset, .unset] [(.int (13 : Int32)), (.ref b1), (.ref b1)]))
  obtain ⟨T28, X28, e28, st28⟩ := getS2 X27 hx hZ hown (host := "") (Or.inl (hw _ (List.mem_of_getElem? (i := 30) rfl))) Via.refl e27 (SB13.ext O_.2) (g := (mkF m 93 #[.val (.int p1), .unset, .unset, .unset] [(.int (13 : Int32)), (.ref b1), (.ref b1)])) rfl (hb hby at_93)
  refine Gl.pre (fun _ k => st28 _ k) ?_
  show Gl p.tables e below PP (T28.setTop (mkF m 96 #[.val (.int p1), .unset, .unset, .unset] [(.ref ck13), (.int (13 : Int32)), (.ref b1), (.ref b1)]))
  obtain ⟨T29, h29, X29, e29, W29, V29, st29⟩ := own_stR X28 hx hZ e28 V_b1 O1 (Ins.self (KB13.1.ext O_.2)) (j := (13 : Int32)) (i := 13) (by decide) (by decide) (Nat.lt_of_lt_of_eq (by decide : 13 < 17) rfl) (g := (mkF m 96 #[.val (.int p1), .unset, .unset, .unset] [(.ref ck13), (.int (13 : Int32)), (.ref b1), (.ref b1)])) rfl rfl (hb hby at_96)
  refine Gl.pre (fun _ k => st29 _ k) ?_
  have O_ := O_.wr W29 g_b1
  have Z29 : n0 ≤ h29.size := by rw [W29.size]; exact Z27
  have N29 := Fr.snoc X29 N27 g_b1
  have V_b1 : Ral Z h29 b1 k1 "com/example/anchorwatch/anchorwatch/config/ConfigKey" [(.ref ck0), (.ref ck1), (.ref ck2), (.ref ck3), (.ref ck4), (.ref ck5), (.ref ck6), (.ref ck7), (.ref ck8), (.ref ck9), (.ref ck10), (.ref ck11), (.ref ck12), (.ref ck13), .null, .null, .null] := V29
  show Gl p.tables e below PP (T29.setTop (mkF m 97 #[.val (.int p1), .unset, .unset, .unset] [(.ref b1)]))
  refine Gl.pre (fun _ k => XS.dup X29.here hx rfl (hb hby at_97) rfl rfl k) ?_
  show Gl p.tables e below PP (T29.setTop (mkF m 98 #[.val (.int p1), .unset, .unset, .unset] [(.ref b1), (.ref b1)]))
  refine Gl.pre (fun _ k => XS.bipush X29.here hx rfl (hb hby at_98) k) ?_
  show Gl p.tables e below PP (T29.setTop (mkF m 100 #[.val (.int p1), .unset, .unset, .unset] [(.int (14 : Int32)), (.ref b1), (.ref b1)]))
  obtain ⟨T30, X30, e30, st30⟩ := getS2 X29 hx hZ hown (host := "") (Or.inl (hw _ (List.mem_of_getElem? (i := 32) rfl))) Via.refl e29 (SB14.ext O_.2) (g := (mkF m 100 #[.val (.int p1), .unset, .unset, .unset] [(.int (14 : Int32)), (.ref b1), (.ref b1)])) rfl (hb hby at_100)
  refine Gl.pre (fun _ k => st30 _ k) ?_
  show Gl p.tables e below PP (T30.setTop (mkF m 103 #[.val (.int p1), .unset, .unset, .unset] [(.ref ck14), (.int (14 : Int32)), (.ref b1), (.ref b1)]))
  obtain ⟨T31, h31, X31, e31, W31, V31, st31⟩ := own_stR X30 hx hZ e30 V_b1 O1 (Ins.self (KB14.1.ext O_.2)) (j := (14 : Int32)) (i := 14) (by decide) (by decide) (Nat.lt_of_lt_of_eq (by decide : 14 < 17) rfl) (g := (mkF m 103 #[.val (.int p1), .unset, .unset, .unset] [(.ref ck14), (.int (14 : Int32)), (.ref b1), (.ref b1)])) rfl rfl (hb hby at_103)
  refine Gl.pre (fun _ k => st31 _ k) ?_
  have O_ := O_.wr W31 g_b1
  have Z31 : n0 ≤ h31.size := by rw [W31.size]; exact Z29
  have N31 := Fr.snoc X31 N29 g_b1
  have V_b1 : Ral Z h31 b1 k1 "com/example/anchorwatch/anchorwatch/config/ConfigKey" [(.ref ck0), (.ref ck1), (.ref ck2), (.ref ck3), (.ref ck4), (.ref ck5), (.ref ck6), (.ref ck7), (.ref ck8), (.ref ck9), (.ref ck10), (.ref ck11), (.ref ck12), (.ref ck13), (.ref ck14), .null, .null] := V31
  show Gl p.tables e below PP (T31.setTop (mkF m 104 #[.val (.int p1), .unset, .unset, .unset] [(.ref b1)]))
  refine Gl.pre (fun _ k => XS.dup X31.here hx rfl (hb hby at_104) rfl rfl k) ?_
  show Gl p.tables e below PP (T31.setTop (mkF m 105 #[.val (.int p1), .unset, .unset, .unset] [(.ref b1), (.ref b1)]))
  refine Gl.pre (fun _ k => XS.bipush X31.here hx rfl (hb hby at_105) k) ?_
  show Gl p.tables e below PP (T31.setTop (mkF m 107 #[.val (.int p1), .unset, .unset, .unset] [(.int (15 : Int32)), (.ref b1), (.ref b1)]))
  obtain ⟨T32, X32, e32, st32⟩ := getS2 X31 hx hZ hown (host := "") (Or.inl (hw _ (List.mem_of_getElem? (i := 34) rfl))) Via.refl e31 (SB15.ext O_.2) (g := (mkF m 107 #[.val (.int p1), .unset, .unset, .unset] [(.int (15 : Int32)), (.ref b1), (.ref b1)])) rfl (hb hby at_107)
  refine Gl.pre (fun _ k => st32 _ k) ?_
  show Gl p.tables e below PP (T32.setTop (mkF m 110 #[.val (.int p1), .unset, .unset, .unset] [(.ref ck15), (.int (15 : Int32)), (.ref b1), (.ref b1)]))
  obtain ⟨T33, h33, X33, e33, W33, V33, st33⟩ := own_stR X32 hx hZ e32 V_b1 O1 (Ins.self (KB15.1.ext O_.2)) (j := (15 : Int32)) (i := 15) (by decide) (by decide) (Nat.lt_of_lt_of_eq (by decide : 15 < 17) rfl) (g := (mkF m 110 #[.val (.int p1), .unset, .unset, .unset] [(.ref ck15), (.int (15 : Int32)), (.ref b1), (.ref b1)])) rfl rfl (hb hby at_110)
  refine Gl.pre (fun _ k => st33 _ k) ?_
  have O_ := O_.wr W33 g_b1
  have Z33 : n0 ≤ h33.size := by rw [W33.size]; exact Z31
  have N33 := Fr.snoc X33 N31 g_b1
  have V_b1 : Ral Z h33 b1 k1 "com/example/anchorwatch/anchorwatch/config/ConfigKey" [(.ref ck0), (.ref ck1), (.ref ck2), (.ref ck3), (.ref ck4), (.ref ck5), (.ref ck6), (.ref ck7), (.ref ck8), (.ref ck9), (.ref ck10), (.ref ck11), (.ref ck12), (.ref ck13), (.ref ck14), (.ref ck15), .null] := V33
  show Gl p.tables e below PP (T33.setTop (mkF m 111 #[.val (.int p1), .unset, .unset, .unset] [(.ref b1)]))
  refine Gl.pre (fun _ k => XS.dup X33.here hx rfl (hb hby at_111) rfl rfl k) ?_
  show Gl p.tables e below PP (T33.setTop (mkF m 112 #[.val (.int p1), .unset, .unset, .unset] [(.ref b1), (.ref b1)]))
  refine Gl.pre (fun _ k => XS.bipush X33.here hx rfl (hb hby at_112) k) ?_
  show Gl p.tables e below PP (T33.setTop (mkF m 114 #[.val (.int p1), .unset, .unset, .unset] [(.int (16 : Int32)), (.ref b1), (.ref b1)]))
  obtain ⟨T34, X34, e34, st34⟩ := getS2 X33 hx hZ hown (host := "") (Or.inl (hw _ (List.mem_of_getElem? (i := 36) rfl))) Via.refl e33 (SB16.ext O_.2) (g := (mkF m 114 #[.val (.int p1), .unset, .unset, .unset] [(.int (16 : Int32)), (.ref b1), (.ref b1)])) rfl (hb hby at_114)
  refine Gl.pre (fun _ k => st34 _ k) ?_
  show Gl p.tables e below PP (T34.setTop (mkF m 117 #[.val (.int p1), .unset, .unset, .unset] [(.ref ck16), (.int (16 : Int32)), (.ref b1), (.ref b1)]))
  obtain ⟨T35, h35, X35, e35, W35, V35, st35⟩ := own_stR X34 hx hZ e34 V_b1 O1 (Ins.self (KB16.1.ext O_.2)) (j := (16 : Int32)) (i := 16) (by decide) (by decide) (Nat.lt_of_lt_of_eq (by decide : 16 < 17) rfl) (g := (mkF m 117 #[.val (.int p1), .unset, .unset, .unset] [(.ref ck16), (.int (16 : Int32)), (.ref b1), (.ref b1)])) rfl rfl (hb hby at_117)
  refine Gl.pre (fun _ k => st35 _ k) ?_
  have O_ := O_.wr W35 g_b1
  have Z35 : n0 ≤ h35.size := by rw [W35.size]; exact Z33
  have N35 := Fr.snoc X35 N33 g_b1
  have V_b1 : Ral Z h35 b1 k1 "com/example/anchorwatch/anchorwatch/config/ConfigKey" [(.ref ck0), (.ref ck1), (.ref ck2), (.ref ck3), (.ref ck4), (.ref ck5), (.ref ck6), (.ref ck7), (.ref ck8), (.ref ck9), (.ref ck10), (.ref ck11), (.ref ck12), (.ref ck13), (.ref ck14), (.ref ck15), (.ref ck16)] := V35
  show Gl p.tables e below PP (T35.setTop (mkF m 118 #[.val (.int p1), .unset, .unset, .unset] [(.ref b1)]))
  refine Gl.pre (fun _ k => XS.astoreN X35.here hx rfl (hb hby at_118) rfl rfl (l' := #[.val (.int p1), .val (.ref b1), .unset, .unset]) rfl k) ?_
  show Gl p.tables e below PP (T35.setTop (mkF m 119 #[.val (.int p1), .val (.ref b1), .unset, .unset] []))
  refine Gl.pre (fun _ k => XS.iloadN X35.here hx rfl (hb hby at_119) rfl k) ?_
  show Gl p.tables e below PP (T35.setTop (mkF m 120 #[.val (.int p1), .val (.ref b1), .unset, .unset] [(.int p1)]))
  refine Gl.pre (fun _ k => X35.ldcInt hx hown (mvT hZ (hw _ (List.mem_of_getElem? (i := 38) rfl))) (g := (mkF m 120 #[.val (.int p1), .val (.ref b1), .unset, .unset] [(.int p1)])) rfl (hb hby at_120) _ k) ?_
  show Gl p.tables e below PP (T35.setTop (mkF m 122 #[.val (.int p1), .val (.ref b1), .unset, .unset] [(.int (2147483647 : Int32)), (.int p1)]))
  refine Gl.pre (fun _ k => XS.iand X35.here hx rfl (hb hby at_122) rfl k) ?_
  show Gl p.tables e below PP (T35.setTop (mkF m 123 #[.val (.int p1), .val (.ref b1), .unset, .unset] [(.int (p1 &&& (2147483647 : Int32)))]))
  refine Gl.pre (fun _ k => XS.bipush X35.here hx rfl (hb hby at_123) k) ?_
  show Gl p.tables e below PP (T35.setTop (mkF m 125 #[.val (.int p1), .val (.ref b1), .unset, .unset] [(.int (17 : Int32)), (.int (p1 &&& (2147483647 : Int32)))]))
  refine Gl.pre (fun _ k => iremM X35 hx rfl (hb hby at_125) rfl (by decide) k) ?_
  show Gl p.tables e below PP (T35.setTop (mkF m 126 #[.val (.int p1), .val (.ref b1), .unset, .unset] [(.int ((p1 &&& (2147483647 : Int32)) % (17 : Int32)))]))
  rcases own_17 p1 with hr | hr | hr | hr | hr | hr | hr | hr | hr | hr | hr | hr | hr | hr | hr | hr | hr
  · rw [hr]
    show Gl p.tables e below PP (T35.setTop (mkF m 126 #[.val (.int p1), .val (.ref b1), .unset, .unset] [(.int (0 : Int32))]))
    refine Gl.pre (fun _ k => XS.istoreN X35.here hx rfl (hb hby at_126) rfl (l' := #[.val (.int p1), .val (.ref b1), .val (.int (0 : Int32)), .unset]) rfl k) ?_
    show Gl p.tables e below PP (T35.setTop (mkF m 127 #[.val (.int p1), .val (.ref b1), .val (.int (0 : Int32)), .unset] []))
    refine Gl.pre (fun _ k => XS.iloadN X35.here hx rfl (hb hby at_127) rfl k) ?_
    show Gl p.tables e below PP (T35.setTop (mkF m 128 #[.val (.int p1), .val (.ref b1), .val (.int (0 : Int32)), .unset] [(.int (0 : Int32))]))
    refine Gl.pre (fun _ k => XS.iconst X35.here hx rfl (hb hby at_128) k) ?_
    show Gl p.tables e below PP (T35.setTop (mkF m 129 #[.val (.int p1), .val (.ref b1), .val (.int (0 : Int32)), .unset] [(.int (4 : Int32)), (.int (0 : Int32))]))
    suffices J36 : Gl p.tables e below PP (T35.setTop (mkF m 137 #[.val (.int p1), .val (.ref b1), .val (.int (0 : Int32)), .unset] [(.int (own_pi ((0 : Int32) < (4 : Int32))))])) by
      by_cases hd36 : (0 : Int32) < (4 : Int32)
      · rw [own_pi_t hd36] at J36
        refine Gl.pre (fun _ k => XS.icmpNo X35.here hx rfl (hb hby at_129) rfl (tlt hd36).2.1 k) ?_
        show Gl p.tables e below PP (T35.setTop (mkF m 132 #[.val (.int p1), .val (.ref b1), .val (.int (0 : Int32)), .unset] []))
        refine Gl.pre (fun _ k => XS.iconst X35.here hx rfl (hb hby at_132) k) ?_
        show Gl p.tables e below PP (T35.setTop (mkF m 133 #[.val (.int p1), .val (.ref b1), .val (.int (0 : Int32)), .unset] [(.int (1 : Int32))]))
        refine Gl.pre (fun _ k => XS.goto X35.here hx rfl (pc0 := 133) (pc' := 137) rfl (hb hby at_133) (by decide) (by decide) k) ?_
        show Gl p.tables e below PP (T35.setTop (mkF m 137 #[.val (.int p1), .val (.ref b1), .val (.int (0 : Int32)), .unset] [(.int (1 : Int32))]))
        exact J36
      · rw [own_pi_f hd36] at J36
        refine Gl.pre (fun _ k => XS.icmpYes X35.here hx rfl (pc0 := 129) (pc' := 136) rfl (hb hby at_129) rfl (flt hd36).2.1 (by decide) (by decide) k) ?_
        show Gl p.tables e below PP (T35.setTop (mkF m 136 #[.val (.int p1), .val (.ref b1), .val (.int (0 : Int32)), .unset] []))
        refine Gl.pre (fun _ k => XS.iconst X35.here hx rfl (hb hby at_136) k) ?_
        show Gl p.tables e below PP (T35.setTop (mkF m 137 #[.val (.int p1), .val (.ref b1), .val (.int (0 : Int32)), .unset] [(.int (0 : Int32))]))
        exact J36
    show Gl p.tables e below PP (T35.setTop (mkF m 137 #[.val (.int p1), .val (.ref b1), .val (.int (0 : Int32)), .unset] [(.int (own_pi ((0 : Int32) < (4 : Int32))))]))
    refine Gl.pre (fun _ k => XS.istoreN X35.here hx rfl (hb hby at_137) rfl (l' := #[.val (.int p1), .val (.ref b1), .val (.int (0 : Int32)), .val (.int (own_pi ((0 : Int32) < (4 : Int32))))]) rfl k) ?_
    show Gl p.tables e below PP (T35.setTop (mkF m 138 #[.val (.int p1), .val (.ref b1), .val (.int (0 : Int32)), .val (.int (own_pi ((0 : Int32) < (4 : Int32))))] []))
    refine Gl.pre (fun _ k => XS.aloadN X35.here hx rfl (hb hby at_138) rfl rfl k) ?_
    show Gl p.tables e below PP (T35.setTop (mkF m 139 #[.val (.int p1), .val (.ref b1), .val (.int (0 : Int32)), .val (.int (own_pi ((0 : Int32) < (4 : Int32))))] [(.ref b1)]))
    refine Gl.pre (fun _ k => XS.iloadN X35.here hx rfl (hb hby at_139) rfl k) ?_
    show Gl p.tables e below PP (T35.setTop (mkF m 140 #[.val (.int p1), .val (.ref b1), .val (.int (0 : Int32)), .val (.int (own_pi ((0 : Int32) < (4 : Int32))))] [(.int (0 : Int32)), (.ref b1)]))
    refine Gl.pre (fun _ k => own_ldR X35 hx hZ e35 V_b1 (j := (0 : Int32)) (i := 0) (by decide) (by decide) (Nat.lt_of_lt_of_eq (by decide : 0 < 17) rfl) (v := (.ref ck0)) rfl (g := (mkF m 140 #[.val (.int p1), .val (.ref b1), .val (.int (0 : Int32)), .val (.int (own_pi ((0 : Int32) < (4 : Int32))))] [(.int (0 : Int32)), (.ref b1)])) rfl rfl (hb hby at_140) _ k) ?_
    show Gl p.tables e below PP (T35.setTop (mkF m 141 #[.val (.int p1), .val (.ref b1), .val (.int (0 : Int32)), .val (.int (own_pi ((0 : Int32) < (4 : Int32))))] [(.ref ck0)]))
    obtain ⟨cq37, kq37, qa37, qb37, qc37⟩ := isOf hZ e35 (KB0.1.ext O_.2)
    obtain ⟨_, _, ⟨T37, L37, k37, n37⟩, -, X37, ⟨Lc37, hQ37, l37, y37, z37⟩, st37⟩ := X35.virtualBack hx (y := (⟨"com/example/anchorwatch/anchorwatch/config/ConfigKey", "required", "()Z"⟩ : MethodName)) (z := (⟨"com/example/anchorwatch/anchorwatch/config/ConfigKey", "required", "()Z"⟩ : MethodName)) hown (mvT hZ (hw _ (List.mem_of_getElem? (i := 39) rfl))) (mvT hZ (hw _ (List.mem_of_getElem? (i := 40) rfl))) (notFace_of_selects (args := #[]) (mvT hZ (hw _ (List.mem_of_getElem? (i := 42) rfl)))) (mvT hZ (hw _ (List.mem_of_getElem? (i := 42) rfl))) (mvT hZ (hw _ (List.mem_of_getElem? (i := 41) rfl))) (by decide) (backOf (W := 0) (rm1a l Z a0 hw [] ck0 h35 n0 Z35 (KB0.2.1.ext O_.2) (KB0.2.2.1.ext O_.2) (KB0.2.2.2.ext O_.2)) hZ (hw _ (List.mem_of_getElem? (i := 43) rfl)) (hw _ (List.mem_of_getElem? (i := 3) rfl)) (by decide) (by decide)) qa37 qc37 (g := (mkF m 141 #[.val (.int p1), .val (.ref b1), .val (.int (0 : Int32)), .val (.int (own_pi ((0 : Int32) < (4 : Int32))))] [(.ref ck0)])) rfl (by rw [hml]; rfl) (Steps.refl _) (argsL := []) (rest := []) (lenOf pd_0 rfl) rfl (by show 2 * 0 + _ ≤ _; exact Nat.le_of_eq rfl) (hb hby at_141) (fun _ _ => ⟨rfl, e35, (by decide : 1 + 0 ≤ _), (by decide : 17 + 0 ≤ _)⟩)
    dsimp only [Pt.U, Pt.locs, Pt.cells, Pt.slots] at X37 l37 y37 z37 st37 hQ37
    subst l37 y37 z37
    obtain ⟨rfl, N37q, e37⟩ := hQ37
    have N37 := Fr.app N35 N37q
    refine Gl.pre (fun _ k => st37.trans k) ?_
    show Gl p.tables e below PP (T37.setTop (mkF m 144 #[.val (.int p1), .val (.ref b1), .val (.int (0 : Int32)), .val (.int (own_pi ((0 : Int32) < (4 : Int32))))] [(.int (1 : Int32))]))
    refine Gl.pre (fun _ k => XS.iloadN X37.here hx rfl (hb hby at_144) rfl k) ?_
    show Gl p.tables e below PP (T37.setTop (mkF m 145 #[.val (.int p1), .val (.ref b1), .val (.int (0 : Int32)), .val (.int (own_pi ((0 : Int32) < (4 : Int32))))] [(.int (own_pi ((0 : Int32) < (4 : Int32)))), (.int (1 : Int32))]))
    refine Gl.pre (fun _ k => XS.icmpNo X37.here hx rfl (hb hby at_145) rfl (teq (show (1 : Int32) = (own_pi ((0 : Int32) < (4 : Int32))) from (own_pi_t (by decide)).symm)).2 k) ?_
    show Gl p.tables e below PP (T37.setTop (mkF m 148 #[.val (.int p1), .val (.ref b1), .val (.int (0 : Int32)), .val (.int (own_pi ((0 : Int32) < (4 : Int32))))] []))
    refine Gl.pre (fun _ k => XS.iconst X37.here hx rfl (hb hby at_148) k) ?_
    show Gl p.tables e below PP (T37.setTop (mkF m 149 #[.val (.int p1), .val (.ref b1), .val (.int (0 : Int32)), .val (.int (own_pi ((0 : Int32) < (4 : Int32))))] [(.int (1 : Int32))]))
    refine Gl.pre (fun _ k => XS.goto X37.here hx rfl (pc0 := 149) (pc' := 153) rfl (hb hby at_149) (by decide) (by decide) k) ?_
    show Gl p.tables e below PP (T37.setTop (mkF m 153 #[.val (.int p1), .val (.ref b1), .val (.int (0 : Int32)), .val (.int (own_pi ((0 : Int32) < (4 : Int32))))] [(.int (1 : Int32))]))
    rw [hPP]
    refine own_finN (Q := (Q0 Z p1 ck0 ck1 ck2 ck3 ck4 ck5 ck6 ck7 ck8 ck9 ck10 ck11 ck12 ck13 ck14 ck15 ck16 dv4 dv5 dv6 dv7 dv8 dv9 dv14 dv15 dv16 h0 n0)) X37 hx hlk Bd.returns (t := .boolean) (z' := (1 : Int32)) (by simp) (by decide) (hb hby at_153) ?_ (by decide) (by decide)
    show Q0 Z p1 ck0 ck1 ck2 ck3 ck4 ck5 ck6 ck7 ck8 ck9 ck10 ck11 ck12 ck13 ck14 ck15 ck16 dv4 dv5 dv6 dv7 dv8 dv9 dv14 dv15 dv16 h0 n0 _ T37.heap _
    rw [e37]
    exact ⟨rfl, N37⟩
  · rw [hr]
    show Gl p.tables e below PP (T35.setTop (mkF m 126 #[.val (.int p1), .val (.ref b1), .unset, .unset] [(.int (1 : Int32))]))
    refine Gl.pre (fun _ k => XS.istoreN X35.here hx rfl (hb hby at_126) rfl (l' := #[.val (.int p1), .val (.ref b1), .val (.int (1 : Int32)), .unset]) rfl k) ?_
    show Gl p.tables e below PP (T35.setTop (mkF m 127 #[.val (.int p1), .val (.ref b1), .val (.int (1 : Int32)), .unset] []))
    refine Gl.pre (fun _ k => XS.iloadN X35.here hx rfl (hb hby at_127) rfl k) ?_
    show Gl p.tables e below PP (T35.setTop (mkF m 128 #[.val (.int p1), .val (.ref b1), .val (.int (1 : Int32)), .unset] [(.int (1 : Int32))]))
    refine Gl.pre (fun _ k => XS.iconst X35.here hx rfl (hb hby at_128) k) ?_
    show Gl p.tables e below PP (T35.setTop (mkF m 129 #[.val (.int p1), .val (.ref b1), .val (.int (1 : Int32)), .unset] [(.int (4 : Int32)), (.int (1 : Int32))]))
    suffices J38 : Gl p.tables e below PP (T35.setTop (mkF m 137 #[.val (.int p1), .val (.ref b1), .val (.int (1 : Int32)), .unset] [(.int (own_pi ((1 : Int32) < (4 : Int32))))])) by
      by_cases hd38 : (1 : Int32) < (4 : Int32)
      · rw [own_pi_t hd38] at J38
        refine Gl.pre (fun _ k => XS.icmpNo X35.here hx rfl (hb hby at_129) rfl (tlt hd38).2.1 k) ?_
        show Gl p.tables e below PP (T35.setTop (mkF m 132 #[.val (.int p1), .val (.ref b1), .val (.int (1 : Int32)), .unset] []))
        refine Gl.pre (fun _ k => XS.iconst X35.here hx rfl (hb hby at_132) k) ?_
        show Gl p.tables e below PP (T35.setTop (mkF m 133 #[.val (.int p1), .val (.ref b1), .val (.int (1 : Int32)), .unset] [(.int (1 : Int32))]))
        refine Gl.pre (fun _ k => XS.goto X35.here hx rfl (pc0 := 133) (pc' := 137) rfl (hb hby at_133) (by decide) (by decide) k) ?_
        show Gl p.tables e below PP (T35.setTop (mkF m 137 #[.val (.int p1), .val (.ref b1), .val (.int (1 : Int32)), .unset] [(.int (1 : Int32))]))
        exact J38
      · rw [own_pi_f hd38] at J38
        refine Gl.pre (fun _ k => XS.icmpYes X35.here hx rfl (pc0 := 129) (pc' := 136) rfl (hb hby at_129) rfl (flt hd38).2.1 (by decide) (by decide) k) ?_
        show Gl p.tables e below PP (T35.setTop (mkF m 136 #[.val (.int p1), .val (.ref b1), .val (.int (1 : Int32)), .unset] []))
        refine Gl.pre (fun _ k => XS.iconst X35.here hx rfl (hb hby at_136) k) ?_
        show Gl p.tables e below PP (T35.setTop (mkF m 137 #[.val (.int p1), .val (.ref b1), .val (.int (1 : Int32)), .unset] [(.int (0 : Int32))]))
        exact J38
    show Gl p.tables e below PP (T35.setTop (mkF m 137 #[.val (.int p1), .val (.ref b1), .val (.int (1 : Int32)), .unset] [(.int (own_pi ((1 : Int32) < (4 : Int32))))]))
    refine Gl.pre (fun _ k => XS.istoreN X35.here hx rfl (hb hby at_137) rfl (l' := #[.val (.int p1), .val (.ref b1), .val (.int (1 : Int32)), .val (.int (own_pi ((1 : Int32) < (4 : Int32))))]) rfl k) ?_
    show Gl p.tables e below PP (T35.setTop (mkF m 138 #[.val (.int p1), .val (.ref b1), .val (.int (1 : Int32)), .val (.int (own_pi ((1 : Int32) < (4 : Int32))))] []))
    refine Gl.pre (fun _ k => XS.aloadN X35.here hx rfl (hb hby at_138) rfl rfl k) ?_
    show Gl p.tables e below PP (T35.setTop (mkF m 139 #[.val (.int p1), .val (.ref b1), .val (.int (1 : Int32)), .val (.int (own_pi ((1 : Int32) < (4 : Int32))))] [(.ref b1)]))
    refine Gl.pre (fun _ k => XS.iloadN X35.here hx rfl (hb hby at_139) rfl k) ?_
    show Gl p.tables e below PP (T35.setTop (mkF m 140 #[.val (.int p1), .val (.ref b1), .val (.int (1 : Int32)), .val (.int (own_pi ((1 : Int32) < (4 : Int32))))] [(.int (1 : Int32)), (.ref b1)]))
    refine Gl.pre (fun _ k => own_ldR X35 hx hZ e35 V_b1 (j := (1 : Int32)) (i := 1) (by decide) (by decide) (Nat.lt_of_lt_of_eq (by decide : 1 < 17) rfl) (v := (.ref ck1)) rfl (g := (mkF m 140 #[.val (.int p1), .val (.ref b1), .val (.int (1 : Int32)), .val (.int (own_pi ((1 : Int32) < (4 : Int32))))] [(.int (1 : Int32)), (.ref b1)])) rfl rfl (hb hby at_140) _ k) ?_
    show Gl p.tables e below PP (T35.setTop (mkF m 141 #[.val (.int p1), .val (.ref b1), .val (.int (1 : Int32)), .val (.int (own_pi ((1 : Int32) < (4 : Int32))))] [(.ref ck1)]))
    obtain ⟨cq39, kq39, qa39, qb39, qc39⟩ := isOf hZ e35 (KB1.1.ext O_.2)
    obtain ⟨_, _, ⟨T39, L39, k39, n39⟩, -, X39, ⟨Lc39, hQ39, l39, y39, z39⟩, st39⟩ := X35.virtualBack hx (y := (⟨"com/example/anchorwatch/anchorwatch/config/ConfigKey", "required", "()Z"⟩ : MethodName)) (z := (⟨"com/example/anchorwatch/anchorwatch/config/ConfigKey", "required", "()Z"⟩ : MethodName)) hown (mvT hZ (hw _ (List.mem_of_getElem? (i := 39) rfl))) (mvT hZ (hw _ (List.mem_of_getElem? (i := 40) rfl))) (notFace_of_selects (args := #[]) (mvT hZ (hw _ (List.mem_of_getElem? (i := 42) rfl)))) (mvT hZ (hw _ (List.mem_of_getElem? (i := 42) rfl))) (mvT hZ (hw _ (List.mem_of_getElem? (i := 41) rfl))) (by decide) (backOf (W := 0) (rm1a l Z a0 hw [] ck1 h35 n0 Z35 (KB1.2.1.ext O_.2) (KB1.2.2.1.ext O_.2) (KB1.2.2.2.ext O_.2)) hZ (hw _ (List.mem_of_getElem? (i := 43) rfl)) (hw _ (List.mem_of_getElem? (i := 3) rfl)) (by decide) (by decide)) qa39 qc39 (g := (mkF m 141 #[.val (.int p1), .val (.ref b1), .val (.int (1 : Int32)), .val (.int (own_pi ((1 : Int32) < (4 : Int32))))] [(.ref ck1)])) rfl (by rw [hml]; rfl) (Steps.refl _) (argsL := []) (rest := []) (lenOf pd_0 rfl) rfl (by show 2 * 0 + _ ≤ _; exact Nat.le_of_eq rfl) (hb hby at_141) (fun _ _ => ⟨rfl, e35, (by decide : 1 + 0 ≤ _), (by decide : 17 + 0 ≤ _)⟩)
    dsimp only [Pt.U, Pt.locs, Pt.cells, Pt.slots] at X39 l39 y39 z39 st39 hQ39
    subst l39 y39 z39
    obtain ⟨rfl, N39q, e39⟩ := hQ39
    have N39 := Fr.app N35 N39q
    refine Gl.pre (fun _ k => st39.trans k) ?_
    show Gl p.tables e below PP (T39.setTop (mkF m 144 #[.val (.int p1), .val (.ref b1), .val (.int (1 : Int32)), .val (.int (own_pi ((1 : Int32) < (4 : Int32))))] [(.int (1 : Int32))]))
    refine Gl.pre (fun _ k => XS.iloadN X39.here hx rfl (hb hby at_144) rfl k) ?_
    show Gl p.tables e below PP (T39.setTop (mkF m 145 #[.val (.int p1), .val (.ref b1), .val (.int (1 : Int32)), .val (.int (own_pi ((1 : Int32) < (4 : Int32))))] [(.int (own_pi ((1 : Int32) < (4 : Int32)))), (.int (1 : Int32))]))
    refine Gl.pre (fun _ k => XS.icmpNo X39.here hx rfl (hb hby at_145) rfl (teq (show (1 : Int32) = (own_pi ((1 : Int32) < (4 : Int32))) from (own_pi_t (by decide)).symm)).2 k) ?_
    show Gl p.tables e below PP (T39.setTop (mkF m 148 #[.val (.int p1), .val (.ref b1), .val (.int (1 : Int32)), .val (.int (own_pi ((1 : Int32) < (4 : Int32))))] []))
    refine Gl.pre (fun _ k => XS.iconst X39.here hx rfl (hb hby at_148) k) ?_
    show Gl p.tables e below PP (T39.setTop (mkF m 149 #[.val (.int p1), .val (.ref b1), .val (.int (1 : Int32)), .val (.int (own_pi ((1 : Int32) < (4 : Int32))))] [(.int (1 : Int32))]))
    refine Gl.pre (fun _ k => XS.goto X39.here hx rfl (pc0 := 149) (pc' := 153) rfl (hb hby at_149) (by decide) (by decide) k) ?_
    show Gl p.tables e below PP (T39.setTop (mkF m 153 #[.val (.int p1), .val (.ref b1), .val (.int (1 : Int32)), .val (.int (own_pi ((1 : Int32) < (4 : Int32))))] [(.int (1 : Int32))]))
    rw [hPP]
    refine own_finN (Q := (Q0 Z p1 ck0 ck1 ck2 ck3 ck4 ck5 ck6 ck7 ck8 ck9 ck10 ck11 ck12 ck13 ck14 ck15 ck16 dv4 dv5 dv6 dv7 dv8 dv9 dv14 dv15 dv16 h0 n0)) X39 hx hlk Bd.returns (t := .boolean) (z' := (1 : Int32)) (by simp) (by decide) (hb hby at_153) ?_ (by decide) (by decide)
    show Q0 Z p1 ck0 ck1 ck2 ck3 ck4 ck5 ck6 ck7 ck8 ck9 ck10 ck11 ck12 ck13 ck14 ck15 ck16 dv4 dv5 dv6 dv7 dv8 dv9 dv14 dv15 dv16 h0 n0 _ T39.heap _
    rw [e39]
    exact ⟨rfl, N39⟩
  · rw [hr]
    show Gl p.tables e below PP (T35.setTop (mkF m 126 #[.val (.int p1), .val (.ref b1), .unset, .unset] [(.int (2 : Int32))]))
    refine Gl.pre (fun _ k => XS.istoreN X35.here hx rfl (hb hby at_126) rfl (l' := #[.val (.int p1), .val (.ref b1), .val (.int (2 : Int32)), .unset]) rfl k) ?_
    show Gl p.tables e below PP (T35.setTop (mkF m 127 #[.val (.int p1), .val (.ref b1), .val (.int (2 : Int32)), .unset] []))
    refine Gl.pre (fun _ k => XS.iloadN X35.here hx rfl (hb hby at_127) rfl k) ?_
    show Gl p.tables e below PP (T35.setTop (mkF m 128 #[.val (.int p1), .val (.ref b1), .val (.int (2 : Int32)), .unset] [(.int (2 : Int32))]))
    refine Gl.pre (fun _ k => XS.iconst X35.here hx rfl (hb hby at_128) k) ?_
    show Gl p.tables e below PP (T35.setTop (mkF m 129 #[.val (.int p1), .val (.ref b1), .val (.int (2 : Int32)), .unset] [(.int (4 : Int32)), (.int (2 : Int32))]))
    suffices J40 : Gl p.tables e below PP (T35.setTop (mkF m 137 #[.val (.int p1), .val (.ref b1), .val (.int (2 : Int32)), .unset] [(.int (own_pi ((2 : Int32) < (4 : Int32))))])) by
      by_cases hd40 : (2 : Int32) < (4 : Int32)
      · rw [own_pi_t hd40] at J40
        refine Gl.pre (fun _ k => XS.icmpNo X35.here hx rfl (hb hby at_129) rfl (tlt hd40).2.1 k) ?_
        show Gl p.tables e below PP (T35.setTop (mkF m 132 #[.val (.int p1), .val (.ref b1), .val (.int (2 : Int32)), .unset] []))
        refine Gl.pre (fun _ k => XS.iconst X35.here hx rfl (hb hby at_132) k) ?_
        show Gl p.tables e below PP (T35.setTop (mkF m 133 #[.val (.int p1), .val (.ref b1), .val (.int (2 : Int32)), .unset] [(.int (1 : Int32))]))
        refine Gl.pre (fun _ k => XS.goto X35.here hx rfl (pc0 := 133) (pc' := 137) rfl (hb hby at_133) (by decide) (by decide) k) ?_
        show Gl p.tables e below PP (T35.setTop (mkF m 137 #[.val (.int p1), .val (.ref b1), .val (.int (2 : Int32)), .unset] [(.int (1 : Int32))]))
        exact J40
      · rw [own_pi_f hd40] at J40
        refine Gl.pre (fun _ k => XS.icmpYes X35.here hx rfl (pc0 := 129) (pc' := 136) rfl (hb hby at_129) rfl (flt hd40).2.1 (by decide) (by decide) k) ?_
        show Gl p.tables e below PP (T35.setTop (mkF m 136 #[.val (.int p1), .val (.ref b1), .val (.int (2 : Int32)), .unset] []))
        refine Gl.pre (fun _ k => XS.iconst X35.here hx rfl (hb hby at_136) k) ?_
        show Gl p.tables e below PP (T35.setTop (mkF m 137 #[.val (.int p1), .val (.ref b1), .val (.int (2 : Int32)), .unset] [(.int (0 : Int32))]))
        exact J40
    show Gl p.tables e below PP (T35.setTop (mkF m 137 #[.val (.int p1), .val (.ref b1), .val (.int (2 : Int32)), .unset] [(.int (own_pi ((2 : Int32) < (4 : Int32))))]))
    refine Gl.pre (fun _ k => XS.istoreN X35.here hx rfl (hb hby at_137) rfl (l' := #[.val (.int p1), .val (.ref b1), .val (.int (2 : Int32)), .val (.int (own_pi ((2 : Int32) < (4 : Int32))))]) rfl k) ?_
    show Gl p.tables e below PP (T35.setTop (mkF m 138 #[.val (.int p1), .val (.ref b1), .val (.int (2 : Int32)), .val (.int (own_pi ((2 : Int32) < (4 : Int32))))] []))
    refine Gl.pre (fun _ k => XS.aloadN X35.here hx rfl (hb hby at_138) rfl rfl k) ?_
    show Gl p.tables e below PP (T35.setTop (mkF m 139 #[.val (.int p1), .val (.ref b1), .val (.int (2 : Int32)), .val (.int (own_pi ((2 : Int32) < (4 : Int32))))] [(.ref b1)]))
    refine Gl.pre (fun _ k => XS.iloadN X35.here hx rfl (hb hby at_139) rfl k) ?_
    show Gl p.tables e below PP (T35.setTop (mkF m 140 #[.val (.int p1), .val (.ref b1), .val (.int (2 : Int32)), .val (.int (own_pi ((2 : Int32) < (4 : Int32))))] [(.int (2 : Int32)), (.ref b1)]))
    refine Gl.pre (fun _ k => own_ldR X35 hx hZ e35 V_b1 (j := (2 : Int32)) (i := 2) (by decide) (by decide) (Nat.lt_of_lt_of_eq (by decide : 2 < 17) rfl) (v := (.ref ck2)) rfl (g := (mkF m 140 #[.val (.int p1), .val (.ref b1), .val (.int (2 : Int32)), .val (.int (own_pi ((2 : Int32) < (4 : Int32))))] [(.int (2 : Int32)), (.ref b1)])) rfl rfl (hb hby at_140) _ k) ?_
    show Gl p.tables e below PP (T35.setTop (mkF m 141 #[.val (.int p1), .val (.ref b1), .val (.int (2 : Int32)), .val (.int (own_pi ((2 : Int32) < (4 : Int32))))] [(.ref ck2)]))
    obtain ⟨cq41, kq41, qa41, qb41, qc41⟩ := isOf hZ e35 (KB2.1.ext O_.2)
    obtain ⟨_, _, ⟨T41, L41, k41, n41⟩, -, X41, ⟨Lc41, hQ41, l41, y41, z41⟩, st41⟩ := X35.virtualBack hx (y := (⟨"com/example/anchorwatch/anchorwatch/config/ConfigKey", "required", "()Z"⟩ : MethodName)) (z := (⟨"com/example/anchorwatch/anchorwatch/config/ConfigKey", "required", "()Z"⟩ : MethodName)) hown (mvT hZ (hw _ (List.mem_of_getElem? (i := 39) rfl))) (mvT hZ (hw _ (List.mem_of_getElem? (i := 40) rfl))) (notFace_of_selects (args := #[]) (mvT hZ (hw _ (List.mem_of_getElem? (i := 42) rfl)))) (mvT hZ (hw _ (List.mem_of_getElem? (i := 42) rfl))) (mvT hZ (hw _ (List.mem_of_getElem? (i := 41) rfl))) (by decide) (backOf (W := 0) (rm1a l Z a0 hw [] ck2 h35 n0 Z35 (KB2.2.1.ext O_.2) (KB2.2.2.1.ext O_.2) (KB2.2.2.2.ext O_.2)) hZ (hw _ (List.mem_of_getElem? (i := 43) rfl)) (hw _ (List.mem_of_getElem? (i := 3) rfl)) (by decide) (by decide)) qa41 qc41 (g := (mkF m 141 #[.val (.int p1), .val (.ref b1), .val (.int (2 : Int32)), .val (.int (own_pi ((2 : Int32) < (4 : Int32))))] [(.ref ck2)])) rfl (by rw [hml]; rfl) (Steps.refl _) (argsL := []) (rest := []) (lenOf pd_0 rfl) rfl (by show 2 * 0 + _ ≤ _; exact Nat.le_of_eq rfl) (hb hby at_141) (fun _ _ => ⟨rfl, e35, (by decide : 1 + 0 ≤ _), (by decide : 17 + 0 ≤ _)⟩)
    dsimp only [Pt.U, Pt.locs, Pt.cells, Pt.slots] at X41 l41 y41 z41 st41 hQ41
    subst l41 y41 z41
    obtain ⟨rfl, N41q, e41⟩ := hQ41
    have N41 := Fr.app N35 N41q
    refine Gl.pre (fun _ k => st41.trans k) ?_
    show Gl p.tables e below PP (T41.setTop (mkF m 144 #[.val (.int p1), .val (.ref b1), .val (.int (2 : Int32)), .val (.int (own_pi ((2 : Int32) < (4 : Int32))))] [(.int (1 : Int32))]))
    refine Gl.pre (fun _ k => XS.iloadN X41.here hx rfl (hb hby at_144) rfl k) ?_
    show Gl p.tables e below PP (T41.setTop (mkF m 145 #[.val (.int p1), .val (.ref b1), .val (.int (2 : Int32)), .val (.int (own_pi ((2 : Int32) < (4 : Int32))))] [(.int (own_pi ((2 : Int32) < (4 : Int32)))), (.int (1 : Int32))]))
    refine Gl.pre (fun _ k => XS.icmpNo X41.here hx rfl (hb hby at_145) rfl (teq (show (1 : Int32) = (own_pi ((2 : Int32) < (4 : Int32))) from (own_pi_t (by decide)).symm)).2 k) ?_
    show Gl p.tables e below PP (T41.setTop (mkF m 148 #[.val (.int p1), .val (.ref b1), .val (.int (2 : Int32)), .val (.int (own_pi ((2 : Int32) < (4 : Int32))))] []))
    refine Gl.pre (fun _ k => XS.iconst X41.here hx rfl (hb hby at_148) k) ?_
    show Gl p.tables e below PP (T41.setTop (mkF m 149 #[.val (.int p1), .val (.ref b1), .val (.int (2 : Int32)), .val (.int (own_pi ((2 : Int32) < (4 : Int32))))] [(.int (1 : Int32))]))
    refine Gl.pre (fun _ k => XS.goto X41.here hx rfl (pc0 := 149) (pc' := 153) rfl (hb hby at_149) (by decide) (by decide) k) ?_
    show Gl p.tables e below PP (T41.setTop (mkF m 153 #[.val (.int p1), .val (.ref b1), .val (.int (2 : Int32)), .val (.int (own_pi ((2 : Int32) < (4 : Int32))))] [(.int (1 : Int32))]))
    rw [hPP]
    refine own_finN (Q := (Q0 Z p1 ck0 ck1 ck2 ck3 ck4 ck5 ck6 ck7 ck8 ck9 ck10 ck11 ck12 ck13 ck14 ck15 ck16 dv4 dv5 dv6 dv7 dv8 dv9 dv14 dv15 dv16 h0 n0)) X41 hx hlk Bd.returns (t := .boolean) (z' := (1 : Int32)) (by simp) (by decide) (hb hby at_153) ?_ (by decide) (by decide)
    show Q0 Z p1 ck0 ck1 ck2 ck3 ck4 ck5 ck6 ck7 ck8 ck9 ck10 ck11 ck12 ck13 ck14 ck15 ck16 dv4 dv5 dv6 dv7 dv8 dv9 dv14 dv15 dv16 h0 n0 _ T41.heap _
    rw [e41]
    exact ⟨rfl, N41⟩
  · rw [hr]
    show Gl p.tables e below PP (T35.setTop (mkF m 126 #[.val (.int p1), .val (.ref b1), .unset, .unset] [(.int (3 : Int32))]))
    refine Gl.pre (fun _ k => XS.istoreN X35.here hx rfl (hb hby at_126) rfl (l' := #[.val (.int p1), .val (.ref b1), .val (.int (3 : Int32)), .unset]) rfl k) ?_
    show Gl p.tables e below PP (T35.setTop (mkF m 127 #[.val (.int p1), .val (.ref b1), .val (.int (3 : Int32)), .unset] []))
    refine Gl.pre (fun _ k => XS.iloadN X35.here hx rfl (hb hby at_127) rfl k) ?_
    show Gl p.tables e below PP (T35.setTop (mkF m 128 #[.val (.int p1), .val (.ref b1), .val (.int (3 : Int32)), .unset] [(.int (3 : Int32))]))
    refine Gl.pre (fun _ k => XS.iconst X35.here hx rfl (hb hby at_128) k) ?_
    show Gl p.tables e below PP (T35.setTop (mkF m 129 #[.val (.int p1), .val (.ref b1), .val (.int (3 : Int32)), .unset] [(.int (4 : Int32)), (.int (3 : Int32))]))
    suffices J42 : Gl p.tables e below PP (T35.setTop (mkF m 137 #[.val (.int p1), .val (.ref b1), .val (.int (3 : Int32)), .unset] [(.int (own_pi ((3 : Int32) < (4 : Int32))))])) by
      by_cases hd42 : (3 : Int32) < (4 : Int32)
      · rw [own_pi_t hd42] at J42
        refine Gl.pre (fun _ k => XS.icmpNo X35.here hx rfl (hb hby at_129) rfl (tlt hd42).2.1 k) ?_
        show Gl p.tables e below PP (T35.setTop (mkF m 132 #[.val (.int p1), .val (.ref b1), .val (.int (3 : Int32)), .unset] []))
        refine Gl.pre (fun _ k => XS.iconst X35.here hx rfl (hb hby at_132) k) ?_
        show Gl p.tables e below PP (T35.setTop (mkF m 133 #[.val (.int p1), .val (.ref b1), .val (.int (3 : Int32)), .unset] [(.int (1 : Int32))]))
        refine Gl.pre (fun _ k => XS.goto X35.here hx rfl (pc0 := 133) (pc' := 137) rfl (hb hby at_133) (by decide) (by decide) k) ?_
        show Gl p.tables e below PP (T35.setTop (mkF m 137 #[.val (.int p1), .val (.ref b1), .val (.int (3 : Int32)), .unset] [(.int (1 : Int32))]))
        exact J42
      · rw [own_pi_f hd42] at J42
        refine Gl.pre (fun _ k => XS.icmpYes X35.here hx rfl (pc0 := 129) (pc' := 136) rfl (hb hby at_129) rfl (flt hd42).2.1 (by decide) (by decide) k) ?_
        show Gl p.tables e below PP (T35.setTop (mkF m 136 #[.val (.int p1), .val (.ref b1), .val (.int (3 : Int32)), .unset] []))
        refine Gl.pre (fun _ k => XS.iconst X35.here hx rfl (hb hby at_136) k) ?_
        show Gl p.tables e below PP (T35.setTop (mkF m 137 #[.val (.int p1), .val (.ref b1), .val (.int (3 : Int32)), .unset] [(.int (0 : Int32))]))
        exact J42
    show Gl p.tables e below PP (T35.setTop (mkF m 137 #[.val (.int p1), .val (.ref b1), .val (.int (3 : Int32)), .unset] [(.int (own_pi ((3 : Int32) < (4 : Int32))))]))
    refine Gl.pre (fun _ k => XS.istoreN X35.here hx rfl (hb hby at_137) rfl (l' := #[.val (.int p1), .val (.ref b1), .val (.int (3 : Int32)), .val (.int (own_pi ((3 : Int32) < (4 : Int32))))]) rfl k) ?_
    show Gl p.tables e below PP (T35.setTop (mkF m 138 #[.val (.int p1), .val (.ref b1), .val (.int (3 : Int32)), .val (.int (own_pi ((3 : Int32) < (4 : Int32))))] []))
    refine Gl.pre (fun _ k => XS.aloadN X35.here hx rfl (hb hby at_138) rfl rfl k) ?_
    show Gl p.tables e below PP (T35.setTop (mkF m 139 #[.val (.int p1), .val (.ref b1), .val (.int (3 : Int32)), .val (.int (own_pi ((3 : Int32) < (4 : Int32))))] [(.ref b1)]))
    refine Gl.pre (fun _ k => XS.iloadN X35.here hx rfl (hb hby at_139) rfl k) ?_
    show Gl p.tables e below PP (T35.setTop (mkF m 140 #[.val (.int p1), .val (.ref b1), .val (.int (3 : Int32)), .val (.int (own_pi ((3 : Int32) < (4 : Int32))))] [(.int (3 : Int32)), (.ref b1)]))
    refine Gl.pre (fun _ k => own_ldR X35 hx hZ e35 V_b1 (j := (3 : Int32)) (i := 3) (by decide) (by decide) (Nat.lt_of_lt_of_eq (by decide : 3 < 17) rfl) (v := (.ref ck3)) rfl (g := (mkF m 140 #[.val (.int p1), .val (.ref b1), .val (.int (3 : Int32)), .val (.int (own_pi ((3 : Int32) < (4 : Int32))))] [(.int (3 : Int32)), (.ref b1)])) rfl rfl (hb hby at_140) _ k) ?_
    show Gl p.tables e below PP (T35.setTop (mkF m 141 #[.val (.int p1), .val (.ref b1), .val (.int (3 : Int32)), .val (.int (own_pi ((3 : Int32) < (4 : Int32))))] [(.ref ck3)]))
    obtain ⟨cq43, kq43, qa43, qb43, qc43⟩ := isOf hZ e35 (KB3.1.ext O_.2)
    obtain ⟨_, _, ⟨T43, L43, k43, n43⟩, -, X43, ⟨Lc43, hQ43, l43, y43, z43⟩, st43⟩ := X35.virtualBack hx (y := (⟨"com/example/anchorwatch/anchorwatch/config/ConfigKey", "required", "()Z"⟩ : MethodName)) (z := (⟨"com/example/anchorwatch/anchorwatch/config/ConfigKey", "required", "()Z"⟩ : MethodName)) hown (mvT hZ (hw _ (List.mem_of_getElem? (i := 39) rfl))) (mvT hZ (hw _ (List.mem_of_getElem? (i := 40) rfl))) (notFace_of_selects (args := #[]) (mvT hZ (hw _ (List.mem_of_getElem? (i := 42) rfl)))) (mvT hZ (hw _ (List.mem_of_getElem? (i := 42) rfl))) (mvT hZ (hw _ (List.mem_of_getElem? (i := 41) rfl))) (by decide) (backOf (W := 0) (rm1a l Z a0 hw [] ck3 h35 n0 Z35 (KB3.2.1.ext O_.2) (KB3.2.2.1.ext O_.2) (KB3.2.2.2.ext O_.2)) hZ (hw _ (List.mem_of_getElem? (i := 43) rfl)) (hw _ (List.mem_of_getElem? (i := 3) rfl)) (by decide) (by decide)) qa43 qc43 (g := (mkF m 141 #[.val (.int p1), .val (.ref b1), .val (.int (3 : Int32)), .val (.int (own_pi ((3 : Int32) < (4 : Int32))))] [(.ref ck3)])) rfl (by rw [hml]; rfl) (Steps.refl _) (argsL := []) (rest := []) (lenOf pd_0 rfl) rfl (by show 2 * 0 + _ ≤ _; exact Nat.le_of_eq rfl) (hb hby at_141) (fun _ _ => ⟨rfl, e35, (by decide : 1 + 0 ≤ _), (by decide : 17 + 0 ≤ _)⟩)
    dsimp only [Pt.U, Pt.locs, Pt.cells, Pt.slots] at X43 l43 y43 z43 st43 hQ43
    subst l43 y43 z43
    obtain ⟨rfl, N43q, e43⟩ := hQ43
    have N43 := Fr.app N35 N43q
    refine Gl.pre (fun _ k => st43.trans k) ?_
    show Gl p.tables e below PP (T43.setTop (mkF m 144 #[.val (.int p1), .val (.ref b1), .val (.int (3 : Int32)), .val (.int (own_pi ((3 : Int32) < (4 : Int32))))] [(.int (1 : Int32))]))
    refine Gl.pre (fun _ k => XS.iloadN X43.here hx rfl (hb hby at_144) rfl k) ?_
    show Gl p.tables e below PP (T43.setTop (mkF m 145 #[.val (.int p1), .val (.ref b1), .val (.int (3 : Int32)), .val (.int (own_pi ((3 : Int32) < (4 : Int32))))] [(.int (own_pi ((3 : Int32) < (4 : Int32)))), (.int (1 : Int32))]))
    refine Gl.pre (fun _ k => XS.icmpNo X43.here hx rfl (hb hby at_145) rfl (teq (show (1 : Int32) = (own_pi ((3 : Int32) < (4 : Int32))) from (own_pi_t (by decide)).symm)).2 k) ?_
    show Gl p.tables e below PP (T43.setTop (mkF m 148 #[.val (.int p1), .val (.ref b1), .val (.int (3 : Int32)), .val (.int (own_pi ((3 : Int32) < (4 : Int32))))] []))
    refine Gl.pre (fun _ k => XS.iconst X43.here hx rfl (hb hby at_148) k) ?_
    show Gl p.tables e below PP (T43.setTop (mkF m 149 #[.val (.int p1), .val (.ref b1), .val (.int (3 : Int32)), .val (.int (own_pi ((3 : Int32) < (4 : Int32))))] [(.int (1 : Int32))]))
    refine Gl.pre (fun _ k => XS.goto X43.here hx rfl (pc0 := 149) (pc' := 153) rfl (hb hby at_149) (by decide) (by decide) k) ?_
    show Gl p.tables e below PP (T43.setTop (mkF m 153 #[.val (.int p1), .val (.ref b1), .val (.int (3 : Int32)), .val (.int (own_pi ((3 : Int32) < (4 : Int32))))] [(.int (1 : Int32))]))
    rw [hPP]
    refine own_finN (Q := (Q0 Z p1 ck0 ck1 ck2 ck3 ck4 ck5 ck6 ck7 ck8 ck9 ck10 ck11 ck12 ck13 ck14 ck15 ck16 dv4 dv5 dv6 dv7 dv8 dv9 dv14 dv15 dv16 h0 n0)) X43 hx hlk Bd.returns (t := .boolean) (z' := (1 : Int32)) (by simp) (by decide) (hb hby at_153) ?_ (by decide) (by decide)
    show Q0 Z p1 ck0 ck1 ck2 ck3 ck4 ck5 ck6 ck7 ck8 ck9 ck10 ck11 ck12 ck13 ck14 ck15 ck16 dv4 dv5 dv6 dv7 dv8 dv9 dv14 dv15 dv16 h0 n0 _ T43.heap _
    rw [e43]
    exact ⟨rfl, N43⟩
  · rw [hr]
    show Gl p.tables e below PP (T35.setTop (mkF m 126 #[.val (.int p1), .val (.ref b1), .unset, .unset] [(.int (4 : Int32))]))
    refine Gl.pre (fun _ k => XS.istoreN X35.here hx rfl (hb hby at_126) rfl (l' := #[.val (.int p1), .val (.ref b1), .val (.int (4 : Int32)), .unset]) rfl k) ?_
    show Gl p.tables e below PP (T35.setTop (mkF m 127 #[.val (.int p1), .val (.ref b1), .val (.int (4 : Int32)), .unset] []))
    refine Gl.pre (fun _ k => XS.iloadN X35.here hx rfl (hb hby at_127) rfl k) ?_
    show Gl p.tables e below PP (T35.setTop (mkF m 128 #[.val (.int p1), .val (.ref b1), .val (.int (4 : Int32)), .unset] [(.int (4 : Int32))]))
    refine Gl.pre (fun _ k => XS.iconst X35.here hx rfl (hb hby at_128) k) ?_
    show Gl p.tables e below PP (T35.setTop (mkF m 129 #[.val (.int p1), .val (.ref b1), .val (.int (4 : Int32)), .unset] [(.int (4 : Int32)), (.int (4 : Int32))]))
    suffices J44 : Gl p.tables e below PP (T35.setTop (mkF m 137 #[.val (.int p1), .val (.ref b1), .val (.int (4 : Int32)), .unset] [(.int (own_pi ((4 : Int32) < (4 : Int32))))])) by
      by_cases hd44 : (4 : Int32) < (4 : Int32)
      · rw [own_pi_t hd44] at J44
        refine Gl.pre (fun _ k => XS.icmpNo X35.here hx rfl (hb hby at_129) rfl (tlt hd44).2.1 k) ?_
        show Gl p.tables e below PP (T35.setTop (mkF m 132 #[.val (.int p1), .val (.ref b1), .val (.int (4 : Int32)), .unset] []))
        refine Gl.pre (fun _ k => XS.iconst X35.here hx rfl (hb hby at_132) k) ?_
        show Gl p.tables e below PP (T35.setTop (mkF m 133 #[.val (.int p1), .val (.ref b1), .val (.int (4 : Int32)), .unset] [(.int (1 : Int32))]))
        refine Gl.pre (fun _ k => XS.goto X35.here hx rfl (pc0 := 133) (pc' := 137) rfl (hb hby at_133) (by decide) (by decide) k) ?_
        show Gl p.tables e below PP (T35.setTop (mkF m 137 #[.val (.int p1), .val (.ref b1), .val (.int (4 : Int32)), .unset] [(.int (1 : Int32))]))
        exact J44
      · rw [own_pi_f hd44] at J44
        refine Gl.pre (fun _ k => XS.icmpYes X35.here hx rfl (pc0 := 129) (pc' := 136) rfl (hb hby at_129) rfl (flt hd44).2.1 (by decide) (by decide) k) ?_
        show Gl p.tables e below PP (T35.setTop (mkF m 136 #[.val (.int p1), .val (.ref b1), .val (.int (4 : Int32)), .unset] []))
        refine Gl.pre (fun _ k => XS.iconst X35.here hx rfl (hb hby at_136) k) ?_
        show Gl p.tables e below PP (T35.setTop (mkF m 137 #[.val (.int p1), .val (.ref b1), .val (.int (4 : Int32)), .unset] [(.int (0 : Int32))]))
        exact J44
    show Gl p.tables e below PP (T35.setTop (mkF m 137 #[.val (.int p1), .val (.ref b1), .val (.int (4 : Int32)), .unset] [(.int (own_pi ((4 : Int32) < (4 : Int32))))]))
    refine Gl.pre (fun _ k => XS.istoreN X35.here hx rfl (hb hby at_137) rfl (l' := #[.val (.int p1), .val (.ref b1), .val (.int (4 : Int32)), .val (.int (own_pi ((4 : Int32) < (4 : Int32))))]) rfl k) ?_
    show Gl p.tables e below PP (T35.setTop (mkF m 138 #[.val (.int p1), .val (.ref b1), .val (.int (4 : Int32)), .val (.int (own_pi ((4 : Int32) < (4 : Int32))))] []))
    refine Gl.pre (fun _ k => XS.aloadN X35.here hx rfl (hb hby at_138) rfl rfl k) ?_
    show Gl p.tables e below PP (T35.setTop (mkF m 139 #[.val (.int p1), .val (.ref b1), .val (.int (4 : Int32)), .val (.int (own_pi ((4 : Int32) < (4 : Int32))))] [(.ref b1)]))
    refine Gl.pre (fun _ k => XS.iloadN X35.here hx rfl (hb hby at_139) rfl k) ?_
    show Gl p.tables e below PP (T35.setTop (mkF m 140 #[.val (.int p1), .val (.ref b1), .val (.int (4 : Int32)), .val (.int (own_pi ((4 : Int32) < (4 : Int32))))] [(.int (4 : Int32)), (.ref b1)]))
    refine Gl.pre (fun _ k => own_ldR X35 hx hZ e35 V_b1 (j := (4 : Int32)) (i := 4) (by decide) (by decide) (Nat.lt_of_lt_of_eq (by decide : 4 < 17) rfl) (v := (.ref ck4)) rfl (g := (mkF m 140 #[.val (.int p1), .val (.ref b1), .val (.int (4 : Int32)), .val (.int (own_pi ((4 : Int32) < (4 : Int32))))] [(.int (4 : Int32)), (.ref b1)])) rfl rfl (hb hby at_140) _ k) ?_
    show Gl p.tables e below PP (T35.setTop (mkF m 141 #[.val (.int p1), .val (.ref b1), .val (.int (4 : Int32)), .val (.int (own_pi ((4 : Int32) < (4 : Int32))))] [(.ref ck4)]))
    obtain ⟨cq45, kq45, qa45, qb45, qc45⟩ := isOf hZ e35 (KB4.1.ext O_.2)
    obtain ⟨_, _, ⟨T45, L45, k45, n45⟩, -, X45, ⟨Lc45, hQ45, l45, y45, z45⟩, st45⟩ := X35.virtualBack hx (y := (⟨"com/example/anchorwatch/anchorwatch/config/ConfigKey", "required", "()Z"⟩ : MethodName)) (z := (⟨"com/example/anchorwatch/anchorwatch/config/ConfigKey", "required", "()Z"⟩ : MethodName)) hown (mvT hZ (hw _ (List.mem_of_getElem? (i := 39) rfl))) (mvT hZ (hw _ (List.mem_of_getElem? (i := 40) rfl))) (notFace_of_selects (args := #[]) (mvT hZ (hw _ (List.mem_of_getElem? (i := 42) rfl)))) (mvT hZ (hw _ (List.mem_of_getElem? (i := 42) rfl))) (mvT hZ (hw _ (List.mem_of_getElem? (i := 41) rfl))) (by decide) (backOf (W := 0) (rm1b l Z a0 hw [] ck4 dv4 h35 n0 Z35 (KB4.2.1.ext O_.2) (KB4.2.2.1.ext O_.2)) hZ (hw _ (List.mem_of_getElem? (i := 43) rfl)) (hw _ (List.mem_of_getElem? (i := 3) rfl)) (by decide) (by decide)) qa45 qc45 (g := (mkF m 141 #[.val (.int p1), .val (.ref b1), .val (.int (4 : Int32)), .val (.int (own_pi ((4 : Int32) < (4 : Int32))))] [(.ref ck4)])) rfl (by rw [hml]; rfl) (Steps.refl _) (argsL := []) (rest := []) (lenOf pd_0 rfl) rfl (by show 2 * 0 + _ ≤ _; exact Nat.le_of_eq rfl) (hb hby at_141) (fun _ _ => ⟨rfl, e35, (by decide : 1 + 0 ≤ _), (by decide : 17 + 0 ≤ _)⟩)
    dsimp only [Pt.U, Pt.locs, Pt.cells, Pt.slots] at X45 l45 y45 z45 st45 hQ45
    subst l45 y45 z45
    obtain ⟨rfl, N45q, e45⟩ := hQ45
    have N45 := Fr.app N35 N45q
    refine Gl.pre (fun _ k => st45.trans k) ?_
    show Gl p.tables e below PP (T45.setTop (mkF m 144 #[.val (.int p1), .val (.ref b1), .val (.int (4 : Int32)), .val (.int (own_pi ((4 : Int32) < (4 : Int32))))] [(.int (0 : Int32))]))
    refine Gl.pre (fun _ k => XS.iloadN X45.here hx rfl (hb hby at_144) rfl k) ?_
    show Gl p.tables e below PP (T45.setTop (mkF m 145 #[.val (.int p1), .val (.ref b1), .val (.int (4 : Int32)), .val (.int (own_pi ((4 : Int32) < (4 : Int32))))] [(.int (own_pi ((4 : Int32) < (4 : Int32)))), (.int (0 : Int32))]))
    refine Gl.pre (fun _ k => XS.icmpNo X45.here hx rfl (hb hby at_145) rfl (teq (show (0 : Int32) = (own_pi ((4 : Int32) < (4 : Int32))) from (own_pi_f (by decide)).symm)).2 k) ?_
    show Gl p.tables e below PP (T45.setTop (mkF m 148 #[.val (.int p1), .val (.ref b1), .val (.int (4 : Int32)), .val (.int (own_pi ((4 : Int32) < (4 : Int32))))] []))
    refine Gl.pre (fun _ k => XS.iconst X45.here hx rfl (hb hby at_148) k) ?_
    show Gl p.tables e below PP (T45.setTop (mkF m 149 #[.val (.int p1), .val (.ref b1), .val (.int (4 : Int32)), .val (.int (own_pi ((4 : Int32) < (4 : Int32))))] [(.int (1 : Int32))]))
    refine Gl.pre (fun _ k => XS.goto X45.here hx rfl (pc0 := 149) (pc' := 153) rfl (hb hby at_149) (by decide) (by decide) k) ?_
    show Gl p.tables e below PP (T45.setTop (mkF m 153 #[.val (.int p1), .val (.ref b1), .val (.int (4 : Int32)), .val (.int (own_pi ((4 : Int32) < (4 : Int32))))] [(.int (1 : Int32))]))
    rw [hPP]
    refine own_finN (Q := (Q0 Z p1 ck0 ck1 ck2 ck3 ck4 ck5 ck6 ck7 ck8 ck9 ck10 ck11 ck12 ck13 ck14 ck15 ck16 dv4 dv5 dv6 dv7 dv8 dv9 dv14 dv15 dv16 h0 n0)) X45 hx hlk Bd.returns (t := .boolean) (z' := (1 : Int32)) (by simp) (by decide) (hb hby at_153) ?_ (by decide) (by decide)
    show Q0 Z p1 ck0 ck1 ck2 ck3 ck4 ck5 ck6 ck7 ck8 ck9 ck10 ck11 ck12 ck13 ck14 ck15 ck16 dv4 dv5 dv6 dv7 dv8 dv9 dv14 dv15 dv16 h0 n0 _ T45.heap _
    rw [e45]
    exact ⟨rfl, N45⟩
  · rw [hr]
    show Gl p.tables e below PP (T35.setTop (mkF m 126 #[.val (.int p1), .val (.ref b1), .unset, .unset] [(.int (5 : Int32))]))
    refine Gl.pre (fun _ k => XS.istoreN X35.here hx rfl (hb hby at_126) rfl (l' := #[.val (.int p1), .val (.ref b1), .val (.int (5 : Int32)), .unset]) rfl k) ?_
    show Gl p.tables e below PP (T35.setTop (mkF m 127 #[.val (.int p1), .val (.ref b1), .val (.int (5 : Int32)), .unset] []))
    refine Gl.pre (fun _ k => XS.iloadN X35.here hx rfl (hb hby at_127) rfl k) ?_
    show Gl p.tables e below PP (T35.setTop (mkF m 128 #[.val (.int p1), .val (.ref b1), .val (.int (5 : Int32)), .unset] [(.int (5 : Int32))]))
    refine Gl.pre (fun _ k => XS.iconst X35.here hx rfl (hb hby at_128) k) ?_
    show Gl p.tables e below PP (T35.setTop (mkF m 129 #[.val (.int p1), .val (.ref b1), .val (.int (5 : Int32)), .unset] [(.int (4 : Int32)), (.int (5 : Int32))]))
    suffices J46 : Gl p.tables e below PP (T35.setTop (mkF m 137 #[.val (.int p1), .val (.ref b1), .val (.int (5 : Int32)), .unset] [(.int (own_pi ((5 : Int32) < (4 : Int32))))])) by
      by_cases hd46 : (5 : Int32) < (4 : Int32)
      · rw [own_pi_t hd46] at J46
        refine Gl.pre (fun _ k => XS.icmpNo X35.here hx rfl (hb hby at_129) rfl (tlt hd46).2.1 k) ?_
        show Gl p.tables e below PP (T35.setTop (mkF m 132 #[.val (.int p1), .val (.ref b1), .val (.int (5 : Int32)), .unset] []))
        refine Gl.pre (fun _ k => XS.iconst X35.here hx rfl (hb hby at_132) k) ?_
        show Gl p.tables e below PP (T35.setTop (mkF m 133 #[.val (.int p1), .val (.ref b1), .val (.int (5 : Int32)), .unset] [(.int (1 : Int32))]))
        refine Gl.pre (fun _ k => XS.goto X35.here hx rfl (pc0 := 133) (pc' := 137) rfl (hb hby at_133) (by decide) (by decide) k) ?_
        show Gl p.tables e below PP (T35.setTop (mkF m 137 #[.val (.int p1), .val (.ref b1), .val (.int (5 : Int32)), .unset] [(.int (1 : Int32))]))
        exact J46
      · rw [own_pi_f hd46] at J46
        refine Gl.pre (fun _ k => XS.icmpYes X35.here hx rfl (pc0 := 129) (pc' := 136) rfl (hb hby at_129) rfl (flt hd46).2.1 (by decide) (by decide) k) ?_
        show Gl p.tables e below PP (T35.setTop (mkF m 136 #[.val (.int p1), .val (.ref b1), .val (.int (5 : Int32)), .unset] []))
        refine Gl.pre (fun _ k => XS.iconst X35.here hx rfl (hb hby at_136) k) ?_
        show Gl p.tables e below PP (T35.setTop (mkF m 137 #[.val (.int p1), .val (.ref b1), .val (.int (5 : Int32)), .unset] [(.int (0 : Int32))]))
        exact J46
    show Gl p.tables e below PP (T35.setTop (mkF m 137 #[.val (.int p1), .val (.ref b1), .val (.int (5 : Int32)), .unset] [(.int (own_pi ((5 : Int32) < (4 : Int32))))]))
    refine Gl.pre (fun _ k => XS.istoreN X35.here hx rfl (hb hby at_137) rfl (l' := #[.val (.int p1), .val (.ref b1), .val (.int (5 : Int32)), .val (.int (own_pi ((5 : Int32) < (4 : Int32))))]) rfl k) ?_
    show Gl p.tables e below PP (T35.setTop (mkF m 138 #[.val (.int p1), .val (.ref b1), .val (.int (5 : Int32)), .val (.int (own_pi ((5 : Int32) < (4 : Int32))))] []))
    refine Gl.pre (fun _ k => XS.aloadN X35.here hx rfl (hb hby at_138) rfl rfl k) ?_
    show Gl p.tables e below PP (T35.setTop (mkF m 139 #[.val (.int p1), .val (.ref b1), .val (.int (5 : Int32)), .val (.int (own_pi ((5 : Int32) < (4 : Int32))))] [(.ref b1)]))
    refine Gl.pre (fun _ k => XS.iloadN X35.here hx rfl (hb hby at_139) rfl k) ?_
    show Gl p.tables e below PP (T35.setTop (mkF m 140 #[.val (.int p1), .val (.ref b1), .val (.int (5 : Int32)), .val (.int (own_pi ((5 : Int32) < (4 : Int32))))] [(.int (5 : Int32)), (.ref b1)]))
    refine Gl.pre (fun _ k => own_ldR X35 hx hZ e35 V_b1 (j := (5 : Int32)) (i := 5) (by decide) (by decide) (Nat.lt_of_lt_of_eq (by decide : 5 < 17) rfl) (v := (.ref ck5)) rfl (g := (mkF m 140 #[.val (.int p1), .val (.ref b1), .val (.int (5 : Int32)), .val (.int (own_pi ((5 : Int32) < (4 : Int32))))] [(.int (5 : Int32)), (.ref b1)])) rfl rfl (hb hby at_140) _ k) ?_
    show Gl p.tables e below PP (T35.setTop (mkF m 141 #[.val (.int p1), .val (.ref b1), .val (.int (5 : Int32)), .val (.int (own_pi ((5 : Int32) < (4 : Int32))))] [(.ref ck5)]))
    obtain ⟨cq47, kq47, qa47, qb47, qc47⟩ := isOf hZ e35 (KB5.1.ext O_.2)
    obtain ⟨_, _, ⟨T47, L47, k47, n47⟩, -, X47, ⟨Lc47, hQ47, l47, y47, z47⟩, st47⟩ := X35.virtualBack hx (y := (⟨"com/example/anchorwatch/anchorwatch/config/ConfigKey", "required", "()Z"⟩ : MethodName)) (z := (⟨"com/example/anchorwatch/anchorwatch/config/ConfigKey", "required", "()Z"⟩ : MethodName)) hown (mvT hZ (hw _ (List.mem_of_getElem? (i := 39) rfl))) (mvT hZ (hw _ (List.mem_of_getElem? (i := 40) rfl))) (notFace_of_selects (args := #[]) (mvT hZ (hw _ (List.mem_of_getElem? (i := 42) rfl)))) (mvT hZ (hw _ (List.mem_of_getElem? (i := 42) rfl))) (mvT hZ (hw _ (List.mem_of_getElem? (i := 41) rfl))) (by decide) (backOf (W := 0) (rm1b l Z a0 hw [] ck5 dv5 h35 n0 Z35 (KB5.2.1.ext O_.2) (KB5.2.2.1.ext O_.2)) hZ (hw _ (List.mem_of_getElem? (i := 43) rfl)) (hw _ (List.mem_of_getElem? (i := 3) rfl)) (by decide) (by decide)) qa47 qc47 (g := (mkF m 141 #[.val (.int p1), .val (.ref b1), .val (.int (5 : Int32)), .val (.int (own_pi ((5 : Int32) < (4 : Int32))))] [(.ref ck5)])) rfl (by rw [hml]; rfl) (Steps.refl _) (argsL := []) (rest := []) (lenOf pd_0 rfl) rfl (by show 2 * 0 + _ ≤ _; exact Nat.le_of_eq rfl) (hb hby at_141) (fun _ _ => ⟨rfl, e35, (by decide : 1 + 0 ≤ _), (by decide : 17 + 0 ≤ _)⟩)
    dsimp only [Pt.U, Pt.locs, Pt.cells, Pt.slots] at X47 l47 y47 z47 st47 hQ47
    subst l47 y47 z47
    obtain ⟨rfl, N47q, e47⟩ := hQ47
    have N47 := Fr.app N35 N47q
    refine Gl.pre (fun _ k => st47.trans k) ?_
    show Gl p.tables e below PP (T47.setTop (mkF m 144 #[.val (.int p1), .val (.ref b1), .val (.int (5 : Int32)), .val (.int (own_pi ((5 : Int32) < (4 : Int32))))] [(.int (0 : Int32))]))
    refine Gl.pre (fun _ k => XS.iloadN X47.here hx rfl (hb hby at_144) rfl k) ?_
    show Gl p.tables e below PP (T47.setTop (mkF m 145 #[.val (.int p1), .val (.ref b1), .val (.int (5 : Int32)), .val (.int (own_pi ((5 : Int32) < (4 : Int32))))] [(.int (own_pi ((5 : Int32) < (4 : Int32)))), (.int (0 : Int32))]))
    refine Gl.pre (fun _ k => XS.icmpNo X47.here hx rfl (hb hby at_145) rfl (teq (show (0 : Int32) = (own_pi ((5 : Int32) < (4 : Int32))) from (own_pi_f (by decide)).symm)).2 k) ?_
    show Gl p.tables e below PP (T47.setTop (mkF m 148 #[.val (.int p1), .val (.ref b1), .val (.int (5 : Int32)), .val (.int (own_pi ((5 : Int32) < (4 : Int32))))] []))
    refine Gl.pre (fun _ k => XS.iconst X47.here hx rfl (hb hby at_148) k) ?_
    show Gl p.tables e below PP (T47.setTop (mkF m 149 #[.val (.int p1), .val (.ref b1), .val (.int (5 : Int32)), .val (.int (own_pi ((5 : Int32) < (4 : Int32))))] [(.int (1 : Int32))]))
    refine Gl.pre (fun _ k => XS.goto X47.here hx rfl (pc0 := 149) (pc' := 153) rfl (hb hby at_149) (by decide) (by decide) k) ?_
    show Gl p.tables e below PP (T47.setTop (mkF m 153 #[.val (.int p1), .val (.ref b1), .val (.int (5 : Int32)), .val (.int (own_pi ((5 : Int32) < (4 : Int32))))] [(.int (1 : Int32))]))
    rw [hPP]
    refine own_finN (Q := (Q0 Z p1 ck0 ck1 ck2 ck3 ck4 ck5 ck6 ck7 ck8 ck9 ck10 ck11 ck12 ck13 ck14 ck15 ck16 dv4 dv5 dv6 dv7 dv8 dv9 dv14 dv15 dv16 h0 n0)) X47 hx hlk Bd.returns (t := .boolean) (z' := (1 : Int32)) (by simp) (by decide) (hb hby at_153) ?_ (by decide) (by decide)
    show Q0 Z p1 ck0 ck1 ck2 ck3 ck4 ck5 ck6 ck7 ck8 ck9 ck10 ck11 ck12 ck13 ck14 ck15 ck16 dv4 dv5 dv6 dv7 dv8 dv9 dv14 dv15 dv16 h0 n0 _ T47.heap _
    rw [e47]
    exact ⟨rfl, N47⟩
  · rw [hr]
    show Gl p.tables e below PP (T35.setTop (mkF m 126 #[.val (.int p1), .val (.ref b1), .unset, .unset] [(.int (6 : Int32))]))
    refine Gl.pre (fun _ k => XS.istoreN X35.here hx rfl (hb hby at_126) rfl (l' := #[.val (.int p1), .val (.ref b1), .val (.int (6 : Int32)), .unset]) rfl k) ?_
    show Gl p.tables e below PP (T35.setTop (mkF m 127 #[.val (.int p1), .val (.ref b1), .val (.int (6 : Int32)), .unset] []))
    refine Gl.pre (fun _ k => XS.iloadN X35.here hx rfl (hb hby at_127) rfl k) ?_
    show Gl p.tables e below PP (T35.setTop (mkF m 128 #[.val (.int p1), .val (.ref b1), .val (.int (6 : Int32)), .unset] [(.int (6 : Int32))]))
    refine Gl.pre (fun _ k => XS.iconst X35.here hx rfl (hb hby at_128) k) ?_
    show Gl p.tables e below PP (T35.setTop (mkF m 129 #[.val (.int p1), .val (.ref b1), .val (.int (6 : Int32)), .unset] [(.int (4 : Int32)), (.int (6 : Int32))]))
    suffices J48 : Gl p.tables e below PP (T35.setTop (mkF m 137 #[.val (.int p1), .val (.ref b1), .val (.int (6 : Int32)), .unset] [(.int (own_pi ((6 : Int32) < (4 : Int32))))])) by
      by_cases hd48 : (6 : Int32) < (4 : Int32)
      · rw [own_pi_t hd48] at J48
        refine Gl.pre (fun _ k => XS.icmpNo X35.here hx rfl (hb hby at_129) rfl (tlt hd48).2.1 k) ?_
        show Gl p.tables e below PP (T35.setTop (mkF m 132 #[.val (.int p1), .val (.ref b1), .val (.int (6 : Int32)), .unset] []))
        refine Gl.pre (fun _ k => XS.iconst X35.here hx rfl (hb hby at_132) k) ?_
        show Gl p.tables e below PP (T35.setTop (mkF m 133 #[.val (.int p1), .val (.ref b1), .val (.int (6 : Int32)), .unset] [(.int (1 : Int32))]))
        refine Gl.pre (fun _ k => XS.goto X35.here hx rfl (pc0 := 133) (pc' := 137) rfl (hb hby at_133) (by decide) (by decide) k) ?_
        show Gl p.tables e below PP (T35.setTop (mkF m 137 #[.val (.int p1), .val (.ref b1), .val (.int (6 : Int32)), .unset] [(.int (1 : Int32))]))
        exact J48
      · rw [own_pi_f hd48] at J48
        refine Gl.pre (fun _ k => XS.icmpYes X35.here hx rfl (pc0 := 129) (pc' := 136) rfl (hb hby at_129) rfl (flt hd48).2.1 (by decide) (by decide) k) ?_
        show Gl p.tables e below PP (T35.setTop (mkF m 136 #[.val (.int p1), .val (.ref b1), .val (.int (6 : Int32)), .unset] []))
        refine Gl.pre (fun _ k => XS.iconst X35.here hx rfl (hb hby at_136) k) ?_
        show Gl p.tables e below PP (T35.setTop (mkF m 137 #[.val (.int p1), .val (.ref b1), .val (.int (6 : Int32)), .unset] [(.int (0 : Int32))]))
        exact J48
    show Gl p.tables e below PP (T35.setTop (mkF m 137 #[.val (.int p1), .val (.ref b1), .val (.int (6 : Int32)), .unset] [(.int (own_pi ((6 : Int32) < (4 : Int32))))]))
    refine Gl.pre (fun _ k => XS.istoreN X35.here hx rfl (hb hby at_137) rfl (l' := #[.val (.int p1), .val (.ref b1), .val (.int (6 : Int32)), .val (.int (own_pi ((6 : Int32) < (4 : Int32))))]) rfl k) ?_
    show Gl p.tables e below PP (T35.setTop (mkF m 138 #[.val (.int p1), .val (.ref b1), .val (.int (6 : Int32)), .val (.int (own_pi ((6 : Int32) < (4 : Int32))))] []))
    refine Gl.pre (fun _ k => XS.aloadN X35.here hx rfl (hb hby at_138) rfl rfl k) ?_
    show Gl p.tables e below PP (T35.setTop (mkF m 139 #[.val (.int p1), .val (.ref b1), .val (.int (6 : Int32)), .val (.int (own_pi ((6 : Int32) < (4 : Int32))))] [(.ref b1)]))
    refine Gl.pre (fun _ k => XS.iloadN X35.here hx rfl (hb hby at_139) rfl k) ?_
    show Gl p.tables e below PP (T35.setTop (mkF m 140 #[.val (.int p1), .val (.ref b1), .val (.int (6 : Int32)), .val (.int (own_pi ((6 : Int32) < (4 : Int32))))] [(.int (6 : Int32)), (.ref b1)]))
    refine Gl.pre (fun _ k => own_ldR X35 hx hZ e35 V_b1 (j := (6 : Int32)) (i := 6) (by decide) (by decide) (Nat.lt_of_lt_of_eq (by decide : 6 < 17) rfl) (v := (.ref ck6)) rfl (g := (mkF m 140 #[.val (.int p1), .val (.ref b1), .val (.int (6 : Int32)), .val (.int (own_pi ((6 : Int32) < (4 : Int32))))] [(.int (6 : Int32)), (.ref b1)])) rfl rfl (hb hby at_140) _ k) ?_
    show Gl p.tables e below PP (T35.setTop (mkF m 141 #[.val (.int p1), .val (.ref b1), .val (.int (6 : Int32)), .val (.int (own_pi ((6 : Int32) < (4 : Int32))))] [(.ref ck6)]))
    obtain ⟨cq49, kq49, qa49, qb49, qc49⟩ := isOf hZ e35 (KB6.1.ext O_.2)
    obtain ⟨_, _, ⟨T49, L49, k49, n49⟩, -, X49, ⟨Lc49, hQ49, l49, y49, z49⟩, st49⟩ := X35.virtualBack hx (y := (⟨"com/example/anchorwatch/anchorwatch/config/ConfigKey", "required", "()Z"⟩ : MethodName)) (z := (⟨"com/example/anchorwatch/anchorwatch/config/ConfigKey", "required", "()Z"⟩ : MethodName)) hown (mvT hZ (hw _ (List.mem_of_getElem? (i := 39) rfl))) (mvT hZ (hw _ (List.mem_of_getElem? (i := 40) rfl))) (notFace_of_selects (args := #[]) (mvT hZ (hw _ (List.mem_of_getElem? (i := 42) rfl)))) (mvT hZ (hw _ (List.mem_of_getElem? (i := 42) rfl))) (mvT hZ (hw _ (List.mem_of_getElem? (i := 41) rfl))) (by decide) (backOf (W := 0) (rm1b l Z a0 hw [] ck6 dv6 h35 n0 Z35 (KB6.2.1.ext O_.2) (KB6.2.2.1.ext O_.2)) hZ (hw _ (List.mem_of_getElem? (i := 43) rfl)) (hw _ (List.mem_of_getElem? (i := 3) rfl)) (by decide) (by decide)) qa49 qc49 (g := (mkF m 141 #[.val (.int p1), .val (.ref b1), .val (.int (6 : Int32)), .val (.int (own_pi ((6 : Int32) < (4 : Int32))))] [(.ref ck6)])) rfl (by rw [hml]; rfl) (Steps.refl _) (argsL := []) (rest := []) (lenOf pd_0 rfl) rfl (by show 2 * 0 + _ ≤ _; exact Nat.le_of_eq rfl) (hb hby at_141) (fun _ _ => ⟨rfl, e35, (by decide : 1 + 0 ≤ _), (by decide : 17 + 0 ≤ _)⟩)
    dsimp only [Pt.U, Pt.locs, Pt.cells, Pt.slots] at X49 l49 y49 z49 st49 hQ49
    subst l49 y49 z49
    obtain ⟨rfl, N49q, e49⟩ := hQ49
    have N49 := Fr.app N35 N49q
    refine Gl.pre (fun _ k => st49.trans k) ?_
    show Gl p.tables e below PP (T49.setTop (mkF m 144 #[.val (.int p1), .val (.ref b1), .val (.int (6 : Int32)), .val (.int (own_pi ((6 : Int32) < (4 : Int32))))] [(.int (0 : Int32))]))
    refine Gl.pre (fun _ k => XS.iloadN X49.here hx rfl (hb hby at_144) rfl k) ?_
    show Gl p.tables e below PP (T49.setTop (mkF m 145 #[.val (.int p1), .val (.ref b1), .val (.int (6 : Int32)), .val (.int (own_pi ((6 : Int32) < (4 : Int32))))] [(.int (own_pi ((6 : Int32) < (4 : Int32)))), (.int (0 : Int32))]))
    refine Gl.pre (fun _ k => XS.icmpNo X49.here hx rfl (hb hby at_145) rfl (teq (show (0 : Int32) = (own_pi ((6 : Int32) < (4 : Int32))) from (own_pi_f (by decide)).symm)).2 k) ?_
    show Gl p.tables e below PP (T49.setTop (mkF m 148 #[.val (.int p1), .val (.ref b1), .val (.int (6 : Int32)), .val (.int (own_pi ((6 : Int32) < (4 : Int32))))] []))
    refine Gl.pre (fun _ k => XS.iconst X49.here hx rfl (hb hby at_148) k) ?_
    show Gl p.tables e below PP (T49.setTop (mkF m 149 #[.val (.int p1), .val (.ref b1), .val (.int (6 : Int32)), .val (.int (own_pi ((6 : Int32) < (4 : Int32))))] [(.int (1 : Int32))]))
    refine Gl.pre (fun _ k => XS.goto X49.here hx rfl (pc0 := 149) (pc' := 153) rfl (hb hby at_149) (by decide) (by decide) k) ?_
    show Gl p.tables e below PP (T49.setTop (mkF m 153 #[.val (.int p1), .val (.ref b1), .val (.int (6 : Int32)), .val (.int (own_pi ((6 : Int32) < (4 : Int32))))] [(.int (1 : Int32))]))
    rw [hPP]
    refine own_finN (Q := (Q0 Z p1 ck0 ck1 ck2 ck3 ck4 ck5 ck6 ck7 ck8 ck9 ck10 ck11 ck12 ck13 ck14 ck15 ck16 dv4 dv5 dv6 dv7 dv8 dv9 dv14 dv15 dv16 h0 n0)) X49 hx hlk Bd.returns (t := .boolean) (z' := (1 : Int32)) (by simp) (by decide) (hb hby at_153) ?_ (by decide) (by decide)
    show Q0 Z p1 ck0 ck1 ck2 ck3 ck4 ck5 ck6 ck7 ck8 ck9 ck10 ck11 ck12 ck13 ck14 ck15 ck16 dv4 dv5 dv6 dv7 dv8 dv9 dv14 dv15 dv16 h0 n0 _ T49.heap _
    rw [e49]
    exact ⟨rfl, N49⟩
  · rw [hr]
    show Gl p.tables e below PP (T35.setTop (mkF m 126 #[.val (.int p1), .val (.ref b1), .unset, .unset] [(.int (7 : Int32))]))
    refine Gl.pre (fun _ k => XS.istoreN X35.here hx rfl (hb hby at_126) rfl (l' := #[.val (.int p1), .val (.ref b1), .val (.int (7 : Int32)), .unset]) rfl k) ?_
    show Gl p.tables e below PP (T35.setTop (mkF m 127 #[.val (.int p1), .val (.ref b1), .val (.int (7 : Int32)), .unset] []))
    refine Gl.pre (fun _ k => XS.iloadN X35.here hx rfl (hb hby at_127) rfl k) ?_
    show Gl p.tables e below PP (T35.setTop (mkF m 128 #[.val (.int p1), .val (.ref b1), .val (.int (7 : Int32)), .unset] [(.int (7 : Int32))]))
    refine Gl.pre (fun _ k => XS.iconst X35.here hx rfl (hb hby at_128) k) ?_
    show Gl p.tables e below PP (T35.setTop (mkF m 129 #[.val (.int p1), .val (.ref b1), .val (.int (7 : Int32)), .unset] [(.int (4 : Int32)), (.int (7 : Int32))]))
    suffices J50 : Gl p.tables e below PP (T35.setTop (mkF m 137 #[.val (.int p1), .val (.ref b1), .val (.int (7 : Int32)), .unset] [(.int (own_pi ((7 : Int32) < (4 : Int32))))])) by
      by_cases hd50 : (7 : Int32) < (4 : Int32)
      · rw [own_pi_t hd50] at J50
        refine Gl.pre (fun _ k => XS.icmpNo X35.here hx rfl (hb hby at_129) rfl (tlt hd50).2.1 k) ?_
        show Gl p.tables e below PP (T35.setTop (mkF m 132 #[.val (.int p1), .val (.ref b1), .val (.int (7 : Int32)), .unset] []))
        refine Gl.pre (fun _ k => XS.iconst X35.here hx rfl (hb hby at_132) k) ?_
        show Gl p.tables e below PP (T35.setTop (mkF m 133 #[.val (.int p1), .val (.ref b1), .val (.int (7 : Int32)), .unset] [(.int (1 : Int32))]))
        refine Gl.pre (fun _ k => XS.goto X35.here hx rfl (pc0 := 133) (pc' := 137) rfl (hb hby at_133) (by decide) (by decide) k) ?_
        show Gl p.tables e below PP (T35.setTop (mkF m 137 #[.val (.int p1), .val (.ref b1), .val (.int (7 : Int32)), .unset] [(.int (1 : Int32))]))
        exact J50
      · rw [own_pi_f hd50] at J50
        refine Gl.pre (fun _ k => XS.icmpYes X35.here hx rfl (pc0 := 129) (pc' := 136) rfl (hb hby at_129) rfl (flt hd50).2.1 (by decide) (by decide) k) ?_
        show Gl p.tables e below PP (T35.setTop (mkF m 136 #[.val (.int p1), .val (.ref b1), .val (.int (7 : Int32)), .unset] []))
        refine Gl.pre (fun _ k => XS.iconst X35.here hx rfl (hb hby at_136) k) ?_
        show Gl p.tables e below PP (T35.setTop (mkF m 137 #[.val (.int p1), .val (.ref b1), .val (.int (7 : Int32)), .unset] [(.int (0 : Int32))]))
        exact J50
    show Gl p.tables e below PP (T35.setTop (mkF m 137 #[.val (.int p1), .val (.ref b1), .val (.int (7 : Int32)), .unset] [(.int (own_pi ((7 : Int32) < (4 : Int32))))]))
    refine Gl.pre (fun _ k => XS.istoreN X35.here hx rfl (hb hby at_137) rfl (l' := #[.val (.int p1), .val (.ref b1), .val (.int (7 : Int32)), .val (.int (own_pi ((7 : Int32) < (4 : Int32))))]) rfl k) ?_
    show Gl p.tables e below PP (T35.setTop (mkF m 138 #[.val (.int p1), .val (.ref b1), .val (.int (7 : Int32)), .val (.int (own_pi ((7 : Int32) < (4 : Int32))))] []))
    refine Gl.pre (fun _ k => XS.aloadN X35.here hx rfl (hb hby at_138) rfl rfl k) ?_
    show Gl p.tables e below PP (T35.setTop (mkF m 139 #[.val (.int p1), .val (.ref b1), .val (.int (7 : Int32)), .val (.int (own_pi ((7 : Int32) < (4 : Int32))))] [(.ref b1)]))
    refine Gl.pre (fun _ k => XS.iloadN X35.here hx rfl (hb hby at_139) rfl k) ?_
    show Gl p.tables e below PP (T35.setTop (mkF m 140 #[.val (.int p1), .val (.ref b1), .val (.int (7 : Int32)), .val (.int (own_pi ((7 : Int32) < (4 : Int32))))] [(.int (7 : Int32)), (.ref b1)]))
    refine Gl.pre (fun _ k => own_ldR X35 hx hZ e35 V_b1 (j := (7 : Int32)) (i := 7) (by decide) (by decide) (Nat.lt_of_lt_of_eq (by decide : 7 < 17) rfl) (v := (.ref ck7)) rfl (g := (mkF m 140 #[.val (.int p1), .val (.ref b1), .val (.int (7 : Int32)), .val (.int (own_pi ((7 : Int32) < (4 : Int32))))] [(.int (7 : Int32)), (.ref b1)])) rfl rfl (hb hby at_140) _ k) ?_
    show Gl p.tables e below PP (T35.setTop (mkF m 141 #[.val (.int p1), .val (.ref b1), .val (.int (7 : Int32)), .val (.int (own_pi ((7 : Int32) < (4 : Int32))))] [(.ref ck7)]))
    obtain ⟨cq51, kq51, qa51, qb51, qc51⟩ := isOf hZ e35 (KB7.1.ext O_.2)
    obtain ⟨_, _, ⟨T51, L51, k51, n51⟩, -, X51, ⟨Lc51, hQ51, l51, y51, z51⟩, st51⟩ := X35.virtualBack hx (y := (⟨"com/example/anchorwatch/anchorwatch/config/ConfigKey", "required", "()Z"⟩ : MethodName)) (z := (⟨"com/example/anchorwatch/anchorwatch/config/ConfigKey", "required", "()Z"⟩ : MethodName)) hown (mvT hZ (hw _ (List.mem_of_getElem? (i := 39) rfl))) (mvT hZ (hw _ (List.mem_of_getElem? (i := 40) rfl))) (notFace_of_selects (args := #[]) (mvT hZ (hw _ (List.mem_of_getElem? (i := 42) rfl)))) (mvT hZ (hw _ (List.mem_of_getElem? (i := 42) rfl))) (mvT hZ (hw _ (List.mem_of_getElem? (i := 41) rfl))) (by decide) (backOf (W := 0) (rm1b l Z a0 hw [] ck7 dv7 h35 n0 Z35 (KB7.2.1.ext O_.2) (KB7.2.2.1.ext O_.2)) hZ (hw _ (List.mem_of_getElem? (i := 43) rfl)) (hw _ (List.mem_of_getElem? (i := 3) rfl)) (by decide) (by decide)) qa51 qc51 (g := (mkF m 141 #[.val (.int p1), .val (.ref b1), .val (.int (7 : Int32)), .val (.int (own_pi ((7 : Int32) < (4 : Int32))))] [(.ref ck7)])) rfl (by rw [hml]; rfl) (Steps.refl _) (argsL := []) (rest := []) (lenOf pd_0 rfl) rfl (by show 2 * 0 + _ ≤ _; exact Nat.le_of_eq rfl) (hb hby at_141) (fun _ _ => ⟨rfl, e35, (by decide : 1 + 0 ≤ _), (by decide : 17 + 0 ≤ _)⟩)
    dsimp only [Pt.U, Pt.locs, Pt.cells, Pt.slots] at X51 l51 y51 z51 st51 hQ51
    subst l51 y51 z51
    obtain ⟨rfl, N51q, e51⟩ := hQ51
    have N51 := Fr.app N35 N51q
    refine Gl.pre (fun _ k => st51.trans k) ?_
    show Gl p.tables e below PP (T51.setTop (mkF m 144 #[.val (.int p1), .val (.ref b1), .val (.int (7 : Int32)), .val (.int (own_pi ((7 : Int32) < (4 : Int32))))] [(.int (0 : Int32))]))
    refine Gl.pre (fun _ k => XS.iloadN X51.here hx rfl (hb hby at_144) rfl k) ?_
    show Gl p.tables e below PP (T51.setTop (mkF m 145 #[.val (.int p1), .val (.ref b1), .val (.int (7 : Int32)), .val (.int (own_pi ((7 : Int32) < (4 : Int32))))] [(.int (own_pi ((7 : Int32) < (4 : Int32)))), (.int (0 : Int32))]))
    refine Gl.pre (fun _ k => XS.icmpNo X51.here hx rfl (hb hby at_145) rfl (teq (show (0 : Int32) = (own_pi ((7 : Int32) < (4 : Int32))) from (own_pi_f (by decide)).symm)).2 k) ?_
    show Gl p.tables e below PP (T51.setTop (mkF m 148 #[.val (.int p1), .val (.ref b1), .val (.int (7 : Int32)), .val (.int (own_pi ((7 : Int32) < (4 : Int32))))] []))
    refine Gl.pre (fun _ k => XS.iconst X51.here hx rfl (hb hby at_148) k) ?_
    show Gl p.tables e below PP (T51.setTop (mkF m 149 #[.val (.int p1), .val (.ref b1), .val (.int (7 : Int32)), .val (.int (own_pi ((7 : Int32) < (4 : Int32))))] [(.int (1 : Int32))]))
    refine Gl.pre (fun _ k => XS.goto X51.here hx rfl (pc0 := 149) (pc' := 153) rfl (hb hby at_149) (by decide) (by decide) k) ?_
    show Gl p.tables e below PP (T51.setTop (mkF m 153 #[.val (.int p1), .val (.ref b1), .val (.int (7 : Int32)), .val (.int (own_pi ((7 : Int32) < (4 : Int32))))] [(.int (1 : Int32))]))
    rw [hPP]
    refine own_finN (Q := (Q0 Z p1 ck0 ck1 ck2 ck3 ck4 ck5 ck6 ck7 ck8 ck9 ck10 ck11 ck12 ck13 ck14 ck15 ck16 dv4 dv5 dv6 dv7 dv8 dv9 dv14 dv15 dv16 h0 n0)) X51 hx hlk Bd.returns (t := .boolean) (z' := (1 : Int32)) (by simp) (by decide) (hb hby at_153) ?_ (by decide) (by decide)
    show Q0 Z p1 ck0 ck1 ck2 ck3 ck4 ck5 ck6 ck7 ck8 ck9 ck10 ck11 ck12 ck13 ck14 ck15 ck16 dv4 dv5 dv6 dv7 dv8 dv9 dv14 dv15 dv16 h0 n0 _ T51.heap _
    rw [e51]
    exact ⟨rfl, N51⟩
  · rw [hr]
    show Gl p.tables e below PP (T35.setTop (mkF m 126 #[.val (.int p1), .val (.ref b1), .unset, .unset] [(.int (8 : Int32))]))
    refine Gl.pre (fun _ k => XS.istoreN X35.here hx rfl (hb hby at_126) rfl (l' := #[.val (.int p1), .val (.ref b1), .val (.int (8 : Int32)), .unset]) rfl k) ?_
    show Gl p.tables e below PP (T35.setTop (mkF m 127 #[.val (.int p1), .val (.ref b1), .val (.int (8 : Int32)), .unset] []))
    refine Gl.pre (fun _ k => XS.iloadN X35.here hx rfl (hb hby at_127) rfl k) ?_
    show Gl p.tables e below PP (T35.setTop (mkF m 128 #[.val (.int p1), .val (.ref b1), .val (.int (8 : Int32)), .unset] [(.int (8 : Int32))]))
    refine Gl.pre (fun _ k => XS.iconst X35.here hx rfl (hb hby at_128) k) ?_
    show Gl p.tables e below PP (T35.setTop (mkF m 129 #[.val (.int p1), .val (.ref b1), .val (.int (8 : Int32)), .unset] [(.int (4 : Int32)), (.int (8 : Int32))]))
    suffices J52 : Gl p.tables e below PP (T35.setTop (mkF m 137 #[.val (.int p1), .val (.ref b1), .val (.int (8 : Int32)), .unset] [(.int (own_pi ((8 : Int32) < (4 : Int32))))])) by
      by_cases hd52 : (8 : Int32) < (4 : Int32)
      · rw [own_pi_t hd52] at J52
        refine Gl.pre (fun _ k => XS.icmpNo X35.here hx rfl (hb hby at_129) rfl (tlt hd52).2.1 k) ?_
        show Gl p.tables e below PP (T35.setTop (mkF m 132 #[.val (.int p1), .val (.ref b1), .val (.int (8 : Int32)), .unset] []))
        refine Gl.pre (fun _ k => XS.iconst X35.here hx rfl (hb hby at_132) k) ?_
        show Gl p.tables e below PP (T35.setTop (mkF m 133 #[.val (.int p1), .val (.ref b1), .val (.int (8 : Int32)), .unset] [(.int (1 : Int32))]))
        refine Gl.pre (fun _ k => XS.goto X35.here hx rfl (pc0 := 133) (pc' := 137) rfl (hb hby at_133) (by decide) (by decide) k) ?_
        show Gl p.tables e below PP (T35.setTop (mkF m 137 #[.val (.int p1), .val (.ref b1), .val (.int (8 : Int32)), .unset] [(.int (1 : Int32))]))
        exact J52
      · rw [own_pi_f hd52] at J52
        refine Gl.pre (fun _ k => XS.icmpYes X35.here hx rfl (pc0 := 129) (pc' := 136) rfl (hb hby at_129) rfl (flt hd52).2.1 (by decide) (by decide) k) ?_
        show Gl p.tables e below PP (T35.setTop (mkF m 136 #[.val (.int p1), .val (.ref b1), .val (.int (8 : Int32)), .unset] []))
        refine Gl.pre (fun _ k => XS.iconst X35.here hx rfl (hb hby at_136) k) ?_
        show Gl p.tables e below PP (T35.setTop (mkF m 137 #[.val (.int p1), .val (.ref b1), .val (.int (8 : Int32)), .unset] [(.int (0 : Int32))]))
        exact J52
    show Gl p.tables e below PP (T35.setTop (mkF m 137 #[.val (.int p1), .val (.ref b1), .val (.int (8 : Int32)), .unset] [(.int (own_pi ((8 : Int32) < (4 : Int32))))]))
    refine Gl.pre (fun _ k => XS.istoreN X35.here hx rfl (hb hby at_137) rfl (l' := #[.val (.int p1), .val (.ref b1), .val (.int (8 : Int32)), .val (.int (own_pi ((8 : Int32) < (4 : Int32))))]) rfl k) ?_
    show Gl p.tables e below PP (T35.setTop (mkF m 138 #[.val (.int p1), .val (.ref b1), .val (.int (8 : Int32)), .val (.int (own_pi ((8 : Int32) < (4 : Int32))))] []))
    refine Gl.pre (fun _ k => XS.aloadN X35.here hx rfl (hb hby at_138) rfl rfl k) ?_
    show Gl p.tables e below PP (T35.setTop (mkF m 139 #[.val (.int p1), .val (.ref b1), .val (.int (8 : Int32)), .val (.int (own_pi ((8 : Int32) < (4 : Int32))))] [(.ref b1)]))
    refine Gl.pre (fun _ k => XS.iloadN X35.here hx rfl (hb hby at_139) rfl k) ?_
    show Gl p.tables e below PP (T35.setTop (mkF m 140 #[.val (.int p1), .val (.ref b1), .val (.int (8 : Int32)), .val (.int (own_pi ((8 : Int32) < (4 : Int32))))] [(.int (8 : Int32)), (.ref b1)]))
    refine Gl.pre (fun _ k => own_ldR X35 hx hZ e35 V_b1 (j := (8 : Int32)) (i := 8) (by decide) (by decide) (Nat.lt_of_lt_of_eq (by decide : 8 < 17) rfl) (v := (.ref ck8)) rfl (g := (mkF m 140 #[.val (.int p1), .val (.ref b1), .val (.int (8 : Int32)), .val (.int (own_pi ((8 : Int32) < (4 : Int32))))] [(.int (8 : Int32)), (.ref b1)])) rfl rfl (hb hby at_140) _ k) ?_
    show Gl p.tables e below PP (T35.setTop (mkF m 141 #[.val (.int p1), .val (.ref b1), .val (.int (8 : Int32)), .val (.int (own_pi ((8 : Int32) < (4 : Int32))))] [(.ref ck8)]))
    obtain ⟨cq53, kq53, qa53, qb53, qc53⟩ := isOf hZ e35 (KB8.1.ext O_.2)
    obtain ⟨_, _, ⟨T53, L53, k53, n53⟩, -, X53, ⟨Lc53, hQ53, l53, y53, z53⟩, st53⟩ := X35.virtualBack hx (y := (⟨"com/example/anchorwatch/anchorwatch/config/ConfigKey", "required", "()Z"⟩ : MethodName)) (z := (⟨"com/example/anchorwatch/anchorwatch/config/ConfigKey", "required", "()Z"⟩ : MethodName)) hown (mvT hZ (hw _ (List.mem_of_getElem? (i := 39) rfl))) (mvT hZ (hw _ (List.mem_of_getElem? (i := 40) rfl))) (notFace_of_selects (args := #[]) (mvT hZ (hw _ (List.mem_of_getElem? (i := 42) rfl)))) (mvT hZ (hw _ (List.mem_of_getElem? (i := 42) rfl))) (mvT hZ (hw _ (List.mem_of_getElem? (i := 41) rfl))) (by decide) (backOf (W := 0) (rm1b l Z a0 hw [] ck8 dv8 h35 n0 Z35 (KB8.2.1.ext O_.2) (KB8.2.2.1.ext O_.2)) hZ (hw _ (List.mem_of_getElem? (i := 43) rfl)) (hw _ (List.mem_of_getElem? (i := 3) rfl)) (by decide) (by decide)) qa53 qc53 (g := (mkF m 141 #[.val (.int p1), .val (.ref b1), .val (.int (8 : Int32)), .val (.int (own_pi ((8 : Int32) < (4 : Int32))))] [(.ref ck8)])) rfl (by rw [hml]; rfl) (Steps.refl _) (argsL := []) (rest := []) (lenOf pd_0 rfl) rfl (by show 2 * 0 + _ ≤ _; exact Nat.le_of_eq rfl) (hb hby at_141) (fun _ _ => ⟨rfl, e35, (by decide : 1 + 0 ≤ _), (by decide : 17 + 0 ≤ _)⟩)
    dsimp only [Pt.U, Pt.locs, Pt.cells, Pt.slots] at X53 l53 y53 z53 st53 hQ53
    subst l53 y53 z53
    obtain ⟨rfl, N53q, e53⟩ := hQ53
    have N53 := Fr.app N35 N53q
    refine Gl.pre (fun _ k => st53.trans k) ?_
    show Gl p.tables e below PP (T53.setTop (mkF m 144 #[.val (.int p1), .val (.ref b1), .val (.int (8 : Int32)), .val (.int (own_pi ((8 : Int32) < (4 : Int32))))] [(.int (0 : Int32))]))
    refine Gl.pre (fun _ k => XS.iloadN X53.here hx rfl (hb hby at_144) rfl k) ?_
    show Gl p.tables e below PP (T53.setTop (mkF m 145 #[.val (.int p1), .val (.ref b1), .val (.int (8 : Int32)), .val (.int (own_pi ((8 : Int32) < (4 : Int32))))] [(.int (own_pi ((8 : Int32) < (4 : Int32)))), (.int (0 : Int32))]))
    refine Gl.pre (fun _ k => XS.icmpNo X53.here hx rfl (hb hby at_145) rfl (teq (show (0 : Int32) = (own_pi ((8 : Int32) < (4 : Int32))) from (own_pi_f (by decide)).symm)).2 k) ?_
    show Gl p.tables e below PP (T53.setTop (mkF m 148 #[.val (.int p1), .val (.ref b1), .val (.int (8 : Int32)), .val (.int (own_pi ((8 : Int32) < (4 : Int32))))] []))
    refine Gl.pre (fun _ k => XS.iconst X53.here hx rfl (hb hby at_148) k) ?_
    show Gl p.tables e below PP (T53.setTop (mkF m 149 #[.val (.int p1), .val (.ref b1), .val (.int (8 : Int32)), .val (.int (own_pi ((8 : Int32) < (4 : Int32))))] [(.int (1 : Int32))]))
    refine Gl.pre (fun _ k => XS.goto X53.here hx rfl (pc0 := 149) (pc' := 153) rfl (hb hby at_149) (by decide) (by decide) k) ?_
    show Gl p.tables e below PP (T53.setTop (mkF m 153 #[.val (.int p1), .val (.ref b1), .val (.int (8 : Int32)), .val (.int (own_pi ((8 : Int32) < (4 : Int32))))] [(.int (1 : Int32))]))
    rw [hPP]
    refine own_finN (Q := (Q0 Z p1 ck0 ck1 ck2 ck3 ck4 ck5 ck6 ck7 ck8 ck9 ck10 ck11 ck12 ck13 ck14 ck15 ck16 dv4 dv5 dv6 dv7 dv8 dv9 dv14 dv15 dv16 h0 n0)) X53 hx hlk Bd.returns (t := .boolean) (z' := (1 : Int32)) (by simp) (by decide) (hb hby at_153) ?_ (by decide) (by decide)
    show Q0 Z p1 ck0 ck1 ck2 ck3 ck4 ck5 ck6 ck7 ck8 ck9 ck10 ck11 ck12 ck13 ck14 ck15 ck16 dv4 dv5 dv6 dv7 dv8 dv9 dv14 dv15 dv16 h0 n0 _ T53.heap _
    rw [e53]
    exact ⟨rfl, N53⟩
  · rw [hr]
    show Gl p.tables e below PP (T35.setTop (mkF m 126 #[.val (.int p1), .val (.ref b1), .unset, .unset] [(.int (9 : Int32))]))
    refine Gl.pre (fun _ k => XS.istoreN X35.here hx rfl (hb hby at_126) rfl (l' := #[.val (.int p1), .val (.ref b1), .val (.int (9 : Int32)), .unset]) rfl k) ?_
    show Gl p.tables e below PP (T35.setTop (mkF m 127 #[.val (.int p1), .val (.ref b1), .val (.int (9 : Int32)), .unset] []))
    refine Gl.pre (fun _ k => XS.iloadN X35.here hx rfl (hb hby at_127) rfl k) ?_
    show Gl p.tables e below PP (T35.setTop (mkF m 128 #[.val (.int p1), .val (.ref b1), .val (.int (9 : Int32)), .unset] [(.int (9 : Int32))]))
    refine Gl.pre (fun _ k => XS.iconst X35.here hx rfl (hb hby at_128) k) ?_
    show Gl p.tables e below PP (T35.setTop (mkF m 129 #[.val (.int p1), .val (.ref b1), .val (.int (9 : Int32)), .unset] [(.int (4 : Int32)), (.int (9 : Int32))]))
    suffices J54 : Gl p.tables e below PP (T35.setTop (mkF m 137 #[.val (.int p1), .val (.ref b1), .val (.int (9 : Int32)), .unset] [(.int (own_pi ((9 : Int32) < (4 : Int32))))])) by
      by_cases hd54 : (9 : Int32) < (4 : Int32)
      · rw [own_pi_t hd54] at J54
        refine Gl.pre (fun _ k => XS.icmpNo X35.here hx rfl (hb hby at_129) rfl (tlt hd54).2.1 k) ?_
        show Gl p.tables e below PP (T35.setTop (mkF m 132 #[.val (.int p1), .val (.ref b1), .val (.int (9 : Int32)), .unset] []))
        refine Gl.pre (fun _ k => XS.iconst X35.here hx rfl (hb hby at_132) k) ?_
        show Gl p.tables e below PP (T35.setTop (mkF m 133 #[.val (.int p1), .val (.ref b1), .val (.int (9 : Int32)), .unset] [(.int (1 : Int32))]))
        refine Gl.pre (fun _ k => XS.goto X35.here hx rfl (pc0 := 133) (pc' := 137) rfl (hb hby at_133) (by decide) (by decide) k) ?_
        show Gl p.tables e below PP (T35.setTop (mkF m 137 #[.val (.int p1), .val (.ref b1), .val (.int (9 : Int32)), .unset] [(.int (1 : Int32))]))
        exact J54
      · rw [own_pi_f hd54] at J54
        refine Gl.pre (fun _ k => XS.icmpYes X35.here hx rfl (pc0 := 129) (pc' := 136) rfl (hb hby at_129) rfl (flt hd54).2.1 (by decide) (by decide) k) ?_
        show Gl p.tables e below PP (T35.setTop (mkF m 136 #[.val (.int p1), .val (.ref b1), .val (.int (9 : Int32)), .unset] []))
        refine Gl.pre (fun _ k => XS.iconst X35.here hx rfl (hb hby at_136) k) ?_
        show Gl p.tables e below PP (T35.setTop (mkF m 137 #[.val (.int p1), .val (.ref b1), .val (.int (9 : Int32)), .unset] [(.int (0 : Int32))]))
        exact J54
    show Gl p.tables e below PP (T35.setTop (mkF m 137 #[.val (.int p1), .val (.ref b1), .val (.int (9 : Int32)), .unset] [(.int (own_pi ((9 : Int32) < (4 : Int32))))]))
    refine Gl.pre (fun _ k => XS.istoreN X35.here hx rfl (hb hby at_137) rfl (l' := #[.val (.int p1), .val (.ref b1), .val (.int (9 : Int32)), .val (.int (own_pi ((9 : Int32) < (4 : Int32))))]) rfl k) ?_
    show Gl p.tables e below PP (T35.setTop (mkF m 138 #[.val (.int p1), .val (.ref b1), .val (.int (9 : Int32)), .val (.int (own_pi ((9 : Int32) < (4 : Int32))))] []))
    refine Gl.pre (fun _ k => XS.aloadN X35.here hx rfl (hb hby at_138) rfl rfl k) ?_
    show Gl p.tables e below PP (T35.setTop (mkF m 139 #[.val (.int p1), .val (.ref b1), .val (.int (9 : Int32)), .val (.int (own_pi ((9 : Int32) < (4 : Int32))))] [(.ref b1)]))
    refine Gl.pre (fun _ k => XS.iloadN X35.here hx rfl (hb hby at_139) rfl k) ?_
    show Gl p.tables e below PP (T35.setTop (mkF m 140 #[.val (.int p1), .val (.ref b1), .val (.int (9 : Int32)), .val (.int (own_pi ((9 : Int32) < (4 : Int32))))] [(.int (9 : Int32)), (.ref b1)]))
    refine Gl.pre (fun _ k => own_ldR X35 hx hZ e35 V_b1 (j := (9 : Int32)) (i := 9) (by decide) (by decide) (Nat.lt_of_lt_of_eq (by decide : 9 < 17) rfl) (v := (.ref ck9)) rfl (g := (mkF m 140 #[.val (.int p1), .val (.ref b1), .val (.int (9 : Int32)), .val (.int (own_pi ((9 : Int32) < (4 : Int32))))] [(.int (9 : Int32)), (.ref b1)])) rfl rfl (hb hby at_140) _ k) ?_
    show Gl p.tables e below PP (T35.setTop (mkF m 141 #[.val (.int p1), .val (.ref b1), .val (.int (9 : Int32)), .val (.int (own_pi ((9 : Int32) < (4 : Int32))))] [(.ref ck9)]))
    obtain ⟨cq55, kq55, qa55, qb55, qc55⟩ := isOf hZ e35 (KB9.1.ext O_.2)
    obtain ⟨_, _, ⟨T55, L55, k55, n55⟩, -, X55, ⟨Lc55, hQ55, l55, y55, z55⟩, st55⟩ := X35.virtualBack hx (y := (⟨"com/example/anchorwatch/anchorwatch/config/ConfigKey", "required", "()Z"⟩ : MethodName)) (z := (⟨"com/example/anchorwatch/anchorwatch/config/ConfigKey", "required", "()Z"⟩ : MethodName)) hown (mvT hZ (hw _ (List.mem_of_getElem? (i := 39) rfl))) (mvT hZ (hw _ (List.mem_of_getElem? (i := 40) rfl))) (notFace_of_selects (args := #[]) (mvT hZ (hw _ (List.mem_of_getElem? (i := 42) rfl)))) (mvT hZ (hw _ (List.mem_of_getElem? (i := 42) rfl))) (mvT hZ (hw _ (List.mem_of_getElem? (i := 41) rfl))) (by decide) (backOf (W := 0) (rm1b l Z a0 hw [] ck9 dv9 h35 n0 Z35 (KB9.2.1.ext O_.2) (KB9.2.2.1.ext O_.2)) hZ (hw _ (List.mem_of_getElem? (i := 43) rfl)) (hw _ (List.mem_of_getElem? (i := 3) rfl)) (by decide) (by decide)) qa55 qc55 (g := (mkF m 141 #[.val (.int p1), .val (.ref b1), .val (.int (9 : Int32)), .val (.int (own_pi ((9 : Int32) < (4 : Int32))))] [(.ref ck9)])) rfl (by rw [hml]; rfl) (Steps.refl _) (argsL := []) (rest := []) (lenOf pd_0 rfl) rfl (by show 2 * 0 + _ ≤ _; exact Nat.le_of_eq rfl) (hb hby at_141) (fun _ _ => ⟨rfl, e35, (by decide : 1 + 0 ≤ _), (by decide : 17 + 0 ≤ _)⟩)
    dsimp only [Pt.U, Pt.locs, Pt.cells, Pt.slots] at X55 l55 y55 z55 st55 hQ55
    subst l55 y55 z55
    obtain ⟨rfl, N55q, e55⟩ := hQ55
    have N55 := Fr.app N35 N55q
    refine Gl.pre (fun _ k => st55.trans k) ?_
    show Gl p.tables e below PP (T55.setTop (mkF m 144 #[.val (.int p1), .val (.ref b1), .val (.int (9 : Int32)), .val (.int (own_pi ((9 : Int32) < (4 : Int32))))] [(.int (0 : Int32))]))
    refine Gl.pre (fun _ k => XS.iloadN X55.here hx rfl (hb hby at_144) rfl k) ?_
    show Gl p.tables e below PP (T55.setTop (mkF m 145 #[.val (.int p1), .val (.ref b1), .val (.int (9 : Int32)), .val (.int (own_pi ((9 : Int32) < (4 : Int32))))] [(.int (own_pi ((9 : Int32) < (4 : Int32)))), (.int (0 : Int32))]))
    refine Gl.pre (fun _ k => XS.icmpNo X55.here hx rfl (hb hby at_145) rfl (teq (show (0 : Int32) = (own_pi ((9 : Int32) < (4 : Int32))) from (own_pi_f (by decide)).symm)).2 k) ?_
    show Gl p.tables e below PP (T55.setTop (mkF m 148 #[.val (.int p1), .val (.ref b1), .val (.int (9 : Int32)), .val (.int (own_pi ((9 : Int32) < (4 : Int32))))] []))
    refine Gl.pre (fun _ k => XS.iconst X55.here hx rfl (hb hby at_148) k) ?_
    show Gl p.tables e below PP (T55.setTop (mkF m 149 #[.val (.int p1), .val (.ref b1), .val (.int (9 : Int32)), .val (.int (own_pi ((9 : Int32) < (4 : Int32))))] [(.int (1 : Int32))]))
    refine Gl.pre (fun _ k => XS.goto X55.here hx rfl (pc0 := 149) (pc' := 153) rfl (hb hby at_149) (by decide) (by decide) k) ?_
    show Gl p.tables e below PP (T55.setTop (mkF m 153 #[.val (.int p1), .val (.ref b1), .val (.int (9 : Int32)), .val (.int (own_pi ((9 : Int32) < (4 : Int32))))] [(.int (1 : Int32))]))
    rw [hPP]
    refine own_finN (Q := (Q0 Z p1 ck0 ck1 ck2 ck3 ck4 ck5 ck6 ck7 ck8 ck9 ck10 ck11 ck12 ck13 ck14 ck15 ck16 dv4 dv5 dv6 dv7 dv8 dv9 dv14 dv15 dv16 h0 n0)) X55 hx hlk Bd.returns (t := .boolean) (z' := (1 : Int32)) (by simp) (by decide) (hb hby at_153) ?_ (by decide) (by decide)
    show Q0 Z p1 ck0 ck1 ck2 ck3 ck4 ck5 ck6 ck7 ck8 ck9 ck10 ck11 ck12 ck13 ck14 ck15 ck16 dv4 dv5 dv6 dv7 dv8 dv9 dv14 dv15 dv16 h0 n0 _ T55.heap _
    rw [e55]
    exact ⟨rfl, N55⟩
  · rw [hr]
    show Gl p.tables e below PP (T35.setTop (mkF m 126 #[.val (.int p1), .val (.ref b1), .unset, .unset] [(.int (10 : Int32))]))
    refine Gl.pre (fun _ k => XS.istoreN X35.here hx rfl (hb hby at_126) rfl (l' := #[.val (.int p1), .val (.ref b1), .val (.int (10 : Int32)), .unset]) rfl k) ?_
    show Gl p.tables e below PP (T35.setTop (mkF m 127 #[.val (.int p1), .val (.ref b1), .val (.int (10 : Int32)), .unset] []))
    refine Gl.pre (fun _ k => XS.iloadN X35.here hx rfl (hb hby at_127) rfl k) ?_
    show Gl p.tables e below PP (T35.setTop (mkF m 128 #[.val (.int p1), .val (.ref b1), .val (.int (10 : Int32)), .unset] [(.int (10 : Int32))]))
    refine Gl.pre (fun _ k => XS.iconst X35.here hx rfl (hb hby at_128) k) ?_
    show Gl p.tables e below PP (T35.setTop (mkF m 129 #[.val (.int p1), .val (.ref b1), .val (.int (10 : Int32)), .unset] [(.int (4 : Int32)), (.int (10 : Int32))]))
    suffices J56 : Gl p.tables e below PP (T35.setTop (mkF m 137 #[.val (.int p1), .val (.ref b1), .val (.int (10 : Int32)), .unset] [(.int (own_pi ((10 : Int32) < (4 : Int32))))])) by
      by_cases hd56 : (10 : Int32) < (4 : Int32)
      · rw [own_pi_t hd56] at J56
        refine Gl.pre (fun _ k => XS.icmpNo X35.here hx rfl (hb hby at_129) rfl (tlt hd56).2.1 k) ?_
        show Gl p.tables e below PP (T35.setTop (mkF m 132 #[.val (.int p1), .val (.ref b1), .val (.int (10 : Int32)), .unset] []))
        refine Gl.pre (fun _ k => XS.iconst X35.here hx rfl (hb hby at_132) k) ?_
        show Gl p.tables e below PP (T35.setTop (mkF m 133 #[.val (.int p1), .val (.ref b1), .val (.int (10 : Int32)), .unset] [(.int (1 : Int32))]))
        refine Gl.pre (fun _ k => XS.goto X35.here hx rfl (pc0 := 133) (pc' := 137) rfl (hb hby at_133) (by decide) (by decide) k) ?_
        show Gl p.tables e below PP (T35.setTop (mkF m 137 #[.val (.int p1), .val (.ref b1), .val (.int (10 : Int32)), .unset] [(.int (1 : Int32))]))
        exact J56
      · rw [own_pi_f hd56] at J56
        refine Gl.pre (fun _ k => XS.icmpYes X35.here hx rfl (pc0 := 129) (pc' := 136) rfl (hb hby at_129) rfl (flt hd56).2.1 (by decide) (by decide) k) ?_
        show Gl p.tables e below PP (T35.setTop (mkF m 136 #[.val (.int p1), .val (.ref b1), .val (.int (10 : Int32)), .unset] []))
        refine Gl.pre (fun _ k => XS.iconst X35.here hx rfl (hb hby at_136) k) ?_
        show Gl p.tables e below PP (T35.setTop (mkF m 137 #[.val (.int p1), .val (.ref b1), .val (.int (10 : Int32)), .unset] [(.int (0 : Int32))]))
        exact J56
    show Gl p.tables e below PP (T35.setTop (mkF m 137 #[.val (.int p1), .val (.ref b1), .val (.int (10 : Int32)), .unset] [(.int (own_pi ((10 : Int32) < (4 : Int32))))]))
    refine Gl.pre (fun _ k => XS.istoreN X35.here hx rfl (hb hby at_137) rfl (l' := #[.val (.int p1), .val (.ref b1), .val (.int (10 : Int32)), .val (.int (own_pi ((10 : Int32) < (4 : Int32))))]) rfl k) ?_
    show Gl p.tables e below PP (T35.setTop (mkF m 138 #[.val (.int p1), .val (.ref b1), .val (.int (10 : Int32)), .val (.int (own_pi ((10 : Int32) < (4 : Int32))))] []))
    refine Gl.pre (fun _ k => XS.aloadN X35.here hx rfl (hb hby at_138) rfl rfl k) ?_
    show Gl p.tables e below PP (T35.setTop (mkF m 139 #[.val (.int p1), .val (.ref b1), .val (.int (10 : Int32)), .val (.int (own_pi ((10 : Int32) < (4 : Int32))))] [(.ref b1)]))
    refine Gl.pre (fun _ k => XS.iloadN X35.here hx rfl (hb hby at_139) rfl k) ?_
    show Gl p.tables e below PP (T35.setTop (mkF m 140 #[.val (.int p1), .val (.ref b1), .val (.int (10 : Int32)), .val (.int (own_pi ((10 : Int32) < (4 : Int32))))] [(.int (10 : Int32)), (.ref b1)]))
    refine Gl.pre (fun _ k => own_ldR X35 hx hZ e35 V_b1 (j := (10 : Int32)) (i := 10) (by decide) (by decide) (Nat.lt_of_lt_of_eq (by decide : 10 < 17) rfl) (v := (.ref ck10)) rfl (g := (mkF m 140 #[.val (.int p1), .val (.ref b1), .val (.int (10 : Int32)), .val (.int (own_pi ((10 : Int32) < (4 : Int32))))] [(.int (10 : Int32)), (.ref b1)])) rfl rfl (hb hby at_140) _ k) ?_
    show Gl p.tables e below PP (T35.setTop (mkF m 141 #[.val (.int p1), .val (.ref b1), .val (.int (10 : Int32)), .val (.int (own_pi ((10 : Int32) < (4 : Int32))))] [(.ref ck10)]))
    obtain ⟨cq57, kq57, qa57, qb57, qc57⟩ := isOf hZ e35 (KB10.1.ext O_.2)
    obtain ⟨_, _, ⟨T57, L57, k57, n57⟩, -, X57, ⟨Lc57, hQ57, l57, y57, z57⟩, st57⟩ := X35.virtualBack hx (y := (⟨"com/example/anchorwatch/anchorwatch/config/ConfigKey", "required", "()Z"⟩ : MethodName)) (z := (⟨"com/example/anchorwatch/anchorwatch/config/ConfigKey", "required", "()Z"⟩ : MethodName)) hown (mvT hZ (hw _ (List.mem_of_getElem? (i := 39) rfl))) (mvT hZ (hw _ (List.mem_of_getElem? (i := 40) rfl))) (notFace_of_selects (args := #[]) (mvT hZ (hw _ (List.mem_of_getElem? (i := 42) rfl)))) (mvT hZ (hw _ (List.mem_of_getElem? (i := 42) rfl))) (mvT hZ (hw _ (List.mem_of_getElem? (i := 41) rfl))) (by decide) (backOf (W := 0) (rm1c l Z a0 hw [] ck10 ck2 h35 n0 Z35 (KB10.2.1.ext O_.2) (KB10.2.2.1.ext O_.2) (KB10.2.2.2.ext O_.2)) hZ (hw _ (List.mem_of_getElem? (i := 43) rfl)) (hw _ (List.mem_of_getElem? (i := 3) rfl)) (by decide) (by decide)) qa57 qc57 (g := (mkF m 141 #[.val (.int p1), .val (.ref b1), .val (.int (10 : Int32)), .val (.int (own_pi ((10 : Int32) < (4 : Int32))))] [(.ref ck10)])) rfl (by rw [hml]; rfl) (Steps.refl _) (argsL := []) (rest := []) (lenOf pd_0 rfl) rfl (by show 2 * 0 + _ ≤ _; exact Nat.le_of_eq rfl) (hb hby at_141) (fun _ _ => ⟨rfl, e35, (by decide : 1 + 0 ≤ _), (by decide : 17 + 0 ≤ _)⟩)
    dsimp only [Pt.U, Pt.locs, Pt.cells, Pt.slots] at X57 l57 y57 z57 st57 hQ57
    subst l57 y57 z57
    obtain ⟨rfl, N57q, e57⟩ := hQ57
    have N57 := Fr.app N35 N57q
    refine Gl.pre (fun _ k => st57.trans k) ?_
    show Gl p.tables e below PP (T57.setTop (mkF m 144 #[.val (.int p1), .val (.ref b1), .val (.int (10 : Int32)), .val (.int (own_pi ((10 : Int32) < (4 : Int32))))] [(.int (0 : Int32))]))
    refine Gl.pre (fun _ k => XS.iloadN X57.here hx rfl (hb hby at_144) rfl k) ?_
    show Gl p.tables e below PP (T57.setTop (mkF m 145 #[.val (.int p1), .val (.ref b1), .val (.int (10 : Int32)), .val (.int (own_pi ((10 : Int32) < (4 : Int32))))] [(.int (own_pi ((10 : Int32) < (4 : Int32)))), (.int (0 : Int32))]))
    refine Gl.pre (fun _ k => XS.icmpNo X57.here hx rfl (hb hby at_145) rfl (teq (show (0 : Int32) = (own_pi ((10 : Int32) < (4 : Int32))) from (own_pi_f (by decide)).symm)).2 k) ?_
    show Gl p.tables e below PP (T57.setTop (mkF m 148 #[.val (.int p1), .val (.ref b1), .val (.int (10 : Int32)), .val (.int (own_pi ((10 : Int32) < (4 : Int32))))] []))
    refine Gl.pre (fun _ k => XS.iconst X57.here hx rfl (hb hby at_148) k) ?_
    show Gl p.tables e below PP (T57.setTop (mkF m 149 #[.val (.int p1), .val (.ref b1), .val (.int (10 : Int32)), .val (.int (own_pi ((10 : Int32) < (4 : Int32))))] [(.int (1 : Int32))]))
    refine Gl.pre (fun _ k => XS.goto X57.here hx rfl (pc0 := 149) (pc' := 153) rfl (hb hby at_149) (by decide) (by decide) k) ?_
    show Gl p.tables e below PP (T57.setTop (mkF m 153 #[.val (.int p1), .val (.ref b1), .val (.int (10 : Int32)), .val (.int (own_pi ((10 : Int32) < (4 : Int32))))] [(.int (1 : Int32))]))
    rw [hPP]
    refine own_finN (Q := (Q0 Z p1 ck0 ck1 ck2 ck3 ck4 ck5 ck6 ck7 ck8 ck9 ck10 ck11 ck12 ck13 ck14 ck15 ck16 dv4 dv5 dv6 dv7 dv8 dv9 dv14 dv15 dv16 h0 n0)) X57 hx hlk Bd.returns (t := .boolean) (z' := (1 : Int32)) (by simp) (by decide) (hb hby at_153) ?_ (by decide) (by decide)
    show Q0 Z p1 ck0 ck1 ck2 ck3 ck4 ck5 ck6 ck7 ck8 ck9 ck10 ck11 ck12 ck13 ck14 ck15 ck16 dv4 dv5 dv6 dv7 dv8 dv9 dv14 dv15 dv16 h0 n0 _ T57.heap _
    rw [e57]
    exact ⟨rfl, N57⟩
  · rw [hr]
    show Gl p.tables e below PP (T35.setTop (mkF m 126 #[.val (.int p1), .val (.ref b1), .unset, .unset] [(.int (11 : Int32))]))
    refine Gl.pre (fun _ k => XS.istoreN X35.here hx rfl (hb hby at_126) rfl (l' := #[.val (.int p1), .val (.ref b1), .val (.int (11 : Int32)), .unset]) rfl k) ?_
    show Gl p.tables e below PP (T35.setTop (mkF m 127 #[.val (.int p1), .val (.ref b1), .val (.int (11 : Int32)), .unset] []))
    refine Gl.pre (fun _ k => XS.iloadN X35.here hx rfl (hb hby at_127) rfl k) ?_
    show Gl p.tables e below PP (T35.setTop (mkF m 128 #[.val (.int p1), .val (.ref b1), .val (.int (11 : Int32)), .unset] [(.int (11 : Int32))]))
    refine Gl.pre (fun _ k => XS.iconst X35.here hx rfl (hb hby at_128) k) ?_
    show Gl p.tables e below PP (T35.setTop (mkF m 129 #[.val (.int p1), .val (.ref b1), .val (.int (11 : Int32)), .unset] [(.int (4 : Int32)), (.int (11 : Int32))]))
    suffices J58 : Gl p.tables e below PP (T35.setTop (mkF m 137 #[.val (.int p1), .val (.ref b1), .val (.int (11 : Int32)), .unset] [(.int (own_pi ((11 : Int32) < (4 : Int32))))])) by
      by_cases hd58 : (11 : Int32) < (4 : Int32)
      · rw [own_pi_t hd58] at J58
        refine Gl.pre (fun _ k => XS.icmpNo X35.here hx rfl (hb hby at_129) rfl (tlt hd58).2.1 k) ?_
        show Gl p.tables e below PP (T35.setTop (mkF m 132 #[.val (.int p1), .val (.ref b1), .val (.int (11 : Int32)), .unset] []))
        refine Gl.pre (fun _ k => XS.iconst X35.here hx rfl (hb hby at_132) k) ?_
        show Gl p.tables e below PP (T35.setTop (mkF m 133 #[.val (.int p1), .val (.ref b1), .val (.int (11 : Int32)), .unset] [(.int (1 : Int32))]))
        refine Gl.pre (fun _ k => XS.goto X35.here hx rfl (pc0 := 133) (pc' := 137) rfl (hb hby at_133) (by decide) (by decide) k) ?_
        show Gl p.tables e below PP (T35.setTop (mkF m 137 #[.val (.int p1), .val (.ref b1), .val (.int (11 : Int32)), .unset] [(.int (1 : Int32))]))
        exact J58
      · rw [own_pi_f hd58] at J58
        refine Gl.pre (fun _ k => XS.icmpYes X35.here hx rfl (pc0 := 129) (pc' := 136) rfl (hb hby at_129) rfl (flt hd58).2.1 (by decide) (by decide) k) ?_
        show Gl p.tables e below PP (T35.setTop (mkF m 136 #[.val (.int p1), .val (.ref b1), .val (.int (11 : Int32)), .unset] []))
        refine Gl.pre (fun _ k => XS.iconst X35.here hx rfl (hb hby at_136) k) ?_
        show Gl p.tables e below PP (T35.setTop (mkF m 137 #[.val (.int p1), .val (.ref b1), .val (.int (11 : Int32)), .unset] [(.int (0 : Int32))]))
        exact J58
    show Gl p.tables e below PP (T35.setTop (mkF m 137 #[.val (.int p1), .val (.ref b1), .val (.int (11 : Int32)), .unset] [(.int (own_pi ((11 : Int32) < (4 : Int32))))]))
    refine Gl.pre (fun _ k => XS.istoreN X35.here hx rfl (hb hby at_137) rfl (l' := #[.val (.int p1), .val (.ref b1), .val (.int (11 : Int32)), .val (.int (own_pi ((11 : Int32) < (4 : Int32))))]) rfl k) ?_
    show Gl p.tables e below PP (T35.setTop (mkF m 138 #[.val (.int p1), .val (.ref b1), .val (.int (11 : Int32)), .val (.int (own_pi ((11 : Int32) < (4 : Int32))))] []))
    refine Gl.pre (fun _ k => XS.aloadN X35.here hx rfl (hb hby at_138) rfl rfl k) ?_
    show Gl p.tables e below PP (T35.setTop (mkF m 139 #[.val (.int p1), .val (.ref b1), .val (.int (11 : Int32)), .val (.int (own_pi ((11 : Int32) < (4 : Int32))))] [(.ref b1)]))
    refine Gl.pre (fun _ k => XS.iloadN X35.here hx rfl (hb hby at_139) rfl k) ?_
    show Gl p.tables e below PP (T35.setTop (mkF m 140 #[.val (.int p1), .val (.ref b1), .val (.int (11 : Int32)), .val (.int (own_pi ((11 : Int32) < (4 : Int32))))] [(.int (11 : Int32)), (.ref b1)]))
    refine Gl.pre (fun _ k => own_ldR X35 hx hZ e35 V_b1 (j := (11 : Int32)) (i := 11) (by decide) (by decide) (Nat.lt_of_lt_of_eq (by decide : 11 < 17) rfl) (v := (.ref ck11)) rfl (g := (mkF m 140 #[.val (.int p1), .val (.ref b1), .val (.int (11 : Int32)), .val (.int (own_pi ((11 : Int32) < (4 : Int32))))] [(.int (11 : Int32)), (.ref b1)])) rfl rfl (hb hby at_140) _ k) ?_
    show Gl p.tables e below PP (T35.setTop (mkF m 141 #[.val (.int p1), .val (.ref b1), .val (.int (11 : Int32)), .val (.int (own_pi ((11 : Int32) < (4 : Int32))))] [(.ref ck11)]))
    obtain ⟨cq59, kq59, qa59, qb59, qc59⟩ := isOf hZ e35 (KB11.1.ext O_.2)
    obtain ⟨_, _, ⟨T59, L59, k59, n59⟩, -, X59, ⟨Lc59, hQ59, l59, y59, z59⟩, st59⟩ := X35.virtualBack hx (y := (⟨"com/example/anchorwatch/anchorwatch/config/ConfigKey", "required", "()Z"⟩ : MethodName)) (z := (⟨"com/example/anchorwatch/anchorwatch/config/ConfigKey", "required", "()Z"⟩ : MethodName)) hown (mvT hZ (hw _ (List.mem_of_getElem? (i := 39) rfl))) (mvT hZ (hw _ (List.mem_of_getElem? (i := 40) rfl))) (notFace_of_selects (args := #[]) (mvT hZ (hw _ (List.mem_of_getElem? (i := 42) rfl)))) (mvT hZ (hw _ (List.mem_of_getElem? (i := 42) rfl))) (mvT hZ (hw _ (List.mem_of_getElem? (i := 41) rfl))) (by decide) (backOf (W := 0) (rm1c l Z a0 hw [] ck11 ck3 h35 n0 Z35 (KB11.2.1.ext O_.2) (KB11.2.2.1.ext O_.2) (KB11.2.2.2.ext O_.2)) hZ (hw _ (List.mem_of_getElem? (i := 43) rfl)) (hw _ (List.mem_of_getElem? (i := 3) rfl)) (by decide) (by decide)) qa59 qc59 (g := (mkF m 141 #[.val (.int p1), .val (.ref b1), .val (.int (11 : Int32)), .val (.int (own_pi ((11 : Int32) < (4 : Int32))))] [(.ref ck11)])) rfl (by rw [hml]; rfl) (Steps.refl _) (argsL := []) (rest := []) (lenOf pd_0 rfl) rfl (by show 2 * 0 + _ ≤ _; exact Nat.le_of_eq rfl) (hb hby at_141) (fun _ _ => ⟨rfl, e35, (by decide : 1 + 0 ≤ _), (by decide : 17 + 0 ≤ _)⟩)
    dsimp only [Pt.U, Pt.locs, Pt.cells, Pt.slots] at X59 l59 y59 z59 st59 hQ59
    subst l59 y59 z59
    obtain ⟨rfl, N59q, e59⟩ := hQ59
    have N59 := Fr.app N35 N59q
    refine Gl.pre (fun _ k => st59.trans k) ?_
    show Gl p.tables e below PP (T59.setTop (mkF m 144 #[.val (.int p1), .val (.ref b1), .val (.int (11 : Int32)), .val (.int (own_pi ((11 : Int32) < (4 : Int32))))] [(.int (0 : Int32))]))
    refine Gl.pre (fun _ k => XS.iloadN X59.here hx rfl (hb hby at_144) rfl k) ?_
    show Gl p.tables e below PP (T59.setTop (mkF m 145 #[.val (.int p1), .val (.ref b1), .val (.int (11 : Int32)), .val (.int (own_pi ((11 : Int32) < (4 : Int32))))] [(.int (own_pi ((11 : Int32) < (4 : Int32)))), (.int (0 : Int32))]))
    refine Gl.pre (fun _ k => XS.icmpNo X59.here hx rfl (hb hby at_145) rfl (teq (show (0 : Int32) = (own_pi ((11 : Int32) < (4 : Int32))) from (own_pi_f (by decide)).symm)).2 k) ?_
    show Gl p.tables e below PP (T59.setTop (mkF m 148 #[.val (.int p1), .val (.ref b1), .val (.int (11 : Int32)), .val (.int (own_pi ((11 : Int32) < (4 : Int32))))] []))
    refine Gl.pre (fun _ k => XS.iconst X59.here hx rfl (hb hby at_148) k) ?_
    show Gl p.tables e below PP (T59.setTop (mkF m 149 #[.val (.int p1), .val (.ref b1), .val (.int (11 : Int32)), .val (.int (own_pi ((11 : Int32) < (4 : Int32))))] [(.int (1 : Int32))]))
    refine Gl.pre (fun _ k => XS.goto X59.here hx rfl (pc0 := 149) (pc' := 153) rfl (hb hby at_149) (by decide) (by decide) k) ?_
    show Gl p.tables e below PP (T59.setTop (mkF m 153 #[.val (.int p1), .val (.ref b1), .val (.int (11 : Int32)), .val (.int (own_pi ((11 : Int32) < (4 : Int32))))] [(.int (1 : Int32))]))
    rw [hPP]
    refine own_finN (Q := (Q0 Z p1 ck0 ck1 ck2 ck3 ck4 ck5 ck6 ck7 ck8 ck9 ck10 ck11 ck12 ck13 ck14 ck15 ck16 dv4 dv5 dv6 dv7 dv8 dv9 dv14 dv15 dv16 h0 n0)) X59 hx hlk Bd.returns (t := .boolean) (z' := (1 : Int32)) (by simp) (by decide) (hb hby at_153) ?_ (by decide) (by decide)
    show Q0 Z p1 ck0 ck1 ck2 ck3 ck4 ck5 ck6 ck7 ck8 ck9 ck10 ck11 ck12 ck13 ck14 ck15 ck16 dv4 dv5 dv6 dv7 dv8 dv9 dv14 dv15 dv16 h0 n0 _ T59.heap _
    rw [e59]
    exact ⟨rfl, N59⟩
  · rw [hr]
    show Gl p.tables e below PP (T35.setTop (mkF m 126 #[.val (.int p1), .val (.ref b1), .unset, .unset] [(.int (12 : Int32))]))
    refine Gl.pre (fun _ k => XS.istoreN X35.here hx rfl (hb hby at_126) rfl (l' := #[.val (.int p1), .val (.ref b1), .val (.int (12 : Int32)), .unset]) rfl k) ?_
    show Gl p.tables e below PP (T35.setTop (mkF m 127 #[.val (.int p1), .val (.ref b1), .val (.int (12 : Int32)), .unset] []))
    refine Gl.pre (fun _ k => XS.iloadN X35.here hx rfl (hb hby at_127) rfl k) ?_
    show Gl p.tables e below PP (T35.setTop (mkF m 128 #[.val (.int p1), .val (.ref b1), .val (.int (12 : Int32)), .unset] [(.int (12 : Int32))]))
    refine Gl.pre (fun _ k => XS.iconst X35.here hx rfl (hb hby at_128) k) ?_
    show Gl p.tables e below PP (T35.setTop (mkF m 129 #[.val (.int p1), .val (.ref b1), .val (.int (12 : Int32)), .unset] [(.int (4 : Int32)), (.int (12 : Int32))]))
    suffices J60 : Gl p.tables e below PP (T35.setTop (mkF m 137 #[.val (.int p1), .val (.ref b1), .val (.int (12 : Int32)), .unset] [(.int (own_pi ((12 : Int32) < (4 : Int32))))])) by
      by_cases hd60 : (12 : Int32) < (4 : Int32)
      · rw [own_pi_t hd60] at J60
        refine Gl.pre (fun _ k => XS.icmpNo X35.here hx rfl (hb hby at_129) rfl (tlt hd60).2.1 k) ?_
        show Gl p.tables e below PP (T35.setTop (mkF m 132 #[.val (.int p1), .val (.ref b1), .val (.int (12 : Int32)), .unset] []))
        refine Gl.pre (fun _ k => XS.iconst X35.here hx rfl (hb hby at_132) k) ?_
        show Gl p.tables e below PP (T35.setTop (mkF m 133 #[.val (.int p1), .val (.ref b1), .val (.int (12 : Int32)), .unset] [(.int (1 : Int32))]))
        refine Gl.pre (fun _ k => XS.goto X35.here hx rfl (pc0 := 133) (pc' := 137) rfl (hb hby at_133) (by decide) (by decide) k) ?_
        show Gl p.tables e below PP (T35.setTop (mkF m 137 #[.val (.int p1), .val (.ref b1), .val (.int (12 : Int32)), .unset] [(.int (1 : Int32))]))
        exact J60
      · rw [own_pi_f hd60] at J60
        refine Gl.pre (fun _ k => XS.icmpYes X35.here hx rfl (pc0 := 129) (pc' := 136) rfl (hb hby at_129) rfl (flt hd60).2.1 (by decide) (by decide) k) ?_
        show Gl p.tables e below PP (T35.setTop (mkF m 136 #[.val (.int p1), .val (.ref b1), .val (.int (12 : Int32)), .unset] []))
        refine Gl.pre (fun _ k => XS.iconst X35.here hx rfl (hb hby at_136) k) ?_
        show Gl p.tables e below PP (T35.setTop (mkF m 137 #[.val (.int p1), .val (.ref b1), .val (.int (12 : Int32)), .unset] [(.int (0 : Int32))]))
        exact J60
    show Gl p.tables e below PP (T35.setTop (mkF m 137 #[.val (.int p1), .val (.ref b1), .val (.int (12 : Int32)), .unset] [(.int (own_pi ((12 : Int32) < (4 : Int32))))]))
    refine Gl.pre (fun _ k => XS.istoreN X35.here hx rfl (hb hby at_137) rfl (l' := #[.val (.int p1), .val (.ref b1), .val (.int (12 : Int32)), .val (.int (own_pi ((12 : Int32) < (4 : Int32))))]) rfl k) ?_
    show Gl p.tables e below PP (T35.setTop (mkF m 138 #[.val (.int p1), .val (.ref b1), .val (.int (12 : Int32)), .val (.int (own_pi ((12 : Int32) < (4 : Int32))))] []))
    refine Gl.pre (fun _ k => XS.aloadN X35.here hx rfl (hb hby at_138) rfl rfl k) ?_
    show Gl p.tables e below PP (T35.setTop (mkF m 139 #[.val (.int p1), .val (.ref b1), .val (.int (12 : Int32)), .val (.int (own_pi ((12 : Int32) < (4 : Int32))))] [(.ref b1)]))
    refine Gl.pre (fun _ k => XS.iloadN X35.here hx rfl (hb hby at_139) rfl k) ?_
    show Gl p.tables e below PP (T35.setTop (mkF m 140 #[.val (.int p1), .val (.ref b1), .val (.int (12 : Int32)), .val (.int (own_pi ((12 : Int32) < (4 : Int32))))] [(.int (12 : Int32)), (.ref b1)]))
    refine Gl.pre (fun _ k => own_ldR X35 hx hZ e35 V_b1 (j := (12 : Int32)) (i := 12) (by decide) (by decide) (Nat.lt_of_lt_of_eq (by decide : 12 < 17) rfl) (v := (.ref ck12)) rfl (g := (mkF m 140 #[.val (.int p1), .val (.ref b1), .val (.int (12 : Int32)), .val (.int (own_pi ((12 : Int32) < (4 : Int32))))] [(.int (12 : Int32)), (.ref b1)])) rfl rfl (hb hby at_140) _ k) ?_
    show Gl p.tables e below PP (T35.setTop (mkF m 141 #[.val (.int p1), .val (.ref b1), .val (.int (12 : Int32)), .val (.int (own_pi ((12 : Int32) < (4 : Int32))))] [(.ref ck12)]))
    obtain ⟨cq61, kq61, qa61, qb61, qc61⟩ := isOf hZ e35 (KB12.1.ext O_.2)
    obtain ⟨_, _, ⟨T61, L61, k61, n61⟩, -, X61, ⟨Lc61, hQ61, l61, y61, z61⟩, st61⟩ := X35.virtualBack hx (y := (⟨"com/example/anchorwatch/anchorwatch/config/ConfigKey", "required", "()Z"⟩ : MethodName)) (z := (⟨"com/example/anchorwatch/anchorwatch/config/ConfigKey", "required", "()Z"⟩ : MethodName)) hown (mvT hZ (hw _ (List.mem_of_getElem? (i := 39) rfl))) (mvT hZ (hw _ (List.mem_of_getElem? (i := 40) rfl))) (notFace_of_selects (args := #[]) (mvT hZ (hw _ (List.mem_of_getElem? (i := 42) rfl)))) (mvT hZ (hw _ (List.mem_of_getElem? (i := 42) rfl))) (mvT hZ (hw _ (List.mem_of_getElem? (i := 41) rfl))) (by decide) (backOf (W := 0) (rm1d l Z a0 hw [] ck12 h35 n0 Z35 (KB12.2.1.ext O_.2)) hZ (hw _ (List.mem_of_getElem? (i := 43) rfl)) (hw _ (List.mem_of_getElem? (i := 3) rfl)) (by decide) (by decide)) qa61 qc61 (g := (mkF m 141 #[.val (.int p1), .val (.ref b1), .val (.int (12 : Int32)), .val (.int (own_pi ((12 : Int32) < (4 : Int32))))] [(.ref ck12)])) rfl (by rw [hml]; rfl) (Steps.refl _) (argsL := []) (rest := []) (lenOf pd_0 rfl) rfl (by show 2 * 0 + _ ≤ _; exact Nat.le_of_eq rfl) (hb hby at_141) (fun _ _ => ⟨rfl, e35, (by decide : 1 + 0 ≤ _), (by decide : 17 + 0 ≤ _)⟩)
    dsimp only [Pt.U, Pt.locs, Pt.cells, Pt.slots] at X61 l61 y61 z61 st61 hQ61
    subst l61 y61 z61
    obtain ⟨rfl, N61q, e61⟩ := hQ61
    have N61 := Fr.app N35 N61q
    refine Gl.pre (fun _ k => st61.trans k) ?_
    show Gl p.tables e below PP (T61.setTop (mkF m 144 #[.val (.int p1), .val (.ref b1), .val (.int (12 : Int32)), .val (.int (own_pi ((12 : Int32) < (4 : Int32))))] [(.int (0 : Int32))]))
    refine Gl.pre (fun _ k => XS.iloadN X61.here hx rfl (hb hby at_144) rfl k) ?_
    show Gl p.tables e below PP (T61.setTop (mkF m 145 #[.val (.int p1), .val (.ref b1), .val (.int (12 : Int32)), .val (.int (own_pi ((12 : Int32) < (4 : Int32))))] [(.int (own_pi ((12 : Int32) < (4 : Int32)))), (.int (0 : Int32))]))
    refine Gl.pre (fun _ k => XS.icmpNo X61.here hx rfl (hb hby at_145) rfl (teq (show (0 : Int32) = (own_pi ((12 : Int32) < (4 : Int32))) from (own_pi_f (by decide)).symm)).2 k) ?_
    show Gl p.tables e below PP (T61.setTop (mkF m 148 #[.val (.int p1), .val (.ref b1), .val (.int (12 : Int32)), .val (.int (own_pi ((12 : Int32) < (4 : Int32))))] []))
    refine Gl.pre (fun _ k => XS.iconst X61.here hx rfl (hb hby at_148) k) ?_
    show Gl p.tables e below PP (T61.setTop (mkF m 149 #[.val (.int p1), .val (.ref b1), .val (.int (12 : Int32)), .val (.int (own_pi ((12 : Int32) < (4 : Int32))))] [(.int (1 : Int32))]))
    refine Gl.pre (fun _ k => XS.goto X61.here hx rfl (pc0 := 149) (pc' := 153) rfl (hb hby at_149) (by decide) (by decide) k) ?_
    show Gl p.tables e below PP (T61.setTop (mkF m 153 #[.val (.int p1), .val (.ref b1), .val (.int (12 : Int32)), .val (.int (own_pi ((12 : Int32) < (4 : Int32))))] [(.int (1 : Int32))]))
    rw [hPP]
    refine own_finN (Q := (Q0 Z p1 ck0 ck1 ck2 ck3 ck4 ck5 ck6 ck7 ck8 ck9 ck10 ck11 ck12 ck13 ck14 ck15 ck16 dv4 dv5 dv6 dv7 dv8 dv9 dv14 dv15 dv16 h0 n0)) X61 hx hlk Bd.returns (t := .boolean) (z' := (1 : Int32)) (by simp) (by decide) (hb hby at_153) ?_ (by decide) (by decide)
    show Q0 Z p1 ck0 ck1 ck2 ck3 ck4 ck5 ck6 ck7 ck8 ck9 ck10 ck11 ck12 ck13 ck14 ck15 ck16 dv4 dv5 dv6 dv7 dv8 dv9 dv14 dv15 dv16 h0 n0 _ T61.heap _
    rw [e61]
    exact ⟨rfl, N61⟩
  · rw [hr]
    show Gl p.tables e below PP (T35.setTop (mkF m 126 #[.val (.int p1), .val (.ref b1), .unset, .unset] [(.int (13 : Int32))]))
    refine Gl.pre (fun _ k => XS.istoreN X35.here hx rfl (hb hby at_126) rfl (l' := #[.val (.int p1), .val (.ref b1), .val (.int (13 : Int32)), .unset]) rfl k) ?_
    show Gl p.tables e below PP (T35.setTop (mkF m 127 #[.val (.int p1), .val (.ref b1), .val (.int (13 : Int32)), .unset] []))
    refine Gl.pre (fun _ k => XS.iloadN X35.here hx rfl (hb hby at_127) rfl k) ?_
    show Gl p.tables e below PP (T35.setTop (mkF m 128 #[.val (.int p1), .val (.ref b1), .val (.int (13 : Int32)), .unset] [(.int (13 : Int32))]))
    refine Gl.pre (fun _ k => XS.iconst X35.here hx rfl (hb hby at_128) k) ?_
    show Gl p.tables e below PP (T35.setTop (mkF m 129 #[.val (.int p1), .val (.ref b1), .val (.int (13 : Int32)), .unset] [(.int (4 : Int32)), (.int (13 : Int32))]))
    suffices J62 : Gl p.tables e below PP (T35.setTop (mkF m 137 #[.val (.int p1), .val (.ref b1), .val (.int (13 : Int32)), .unset] [(.int (own_pi ((13 : Int32) < (4 : Int32))))])) by
      by_cases hd62 : (13 : Int32) < (4 : Int32)
      · rw [own_pi_t hd62] at J62
        refine Gl.pre (fun _ k => XS.icmpNo X35.here hx rfl (hb hby at_129) rfl (tlt hd62).2.1 k) ?_
        show Gl p.tables e below PP (T35.setTop (mkF m 132 #[.val (.int p1), .val (.ref b1), .val (.int (13 : Int32)), .unset] []))
        refine Gl.pre (fun _ k => XS.iconst X35.here hx rfl (hb hby at_132) k) ?_
        show Gl p.tables e below PP (T35.setTop (mkF m 133 #[.val (.int p1), .val (.ref b1), .val (.int (13 : Int32)), .unset] [(.int (1 : Int32))]))
        refine Gl.pre (fun _ k => XS.goto X35.here hx rfl (pc0 := 133) (pc' := 137) rfl (hb hby at_133) (by decide) (by decide) k) ?_
        show Gl p.tables e below PP (T35.setTop (mkF m 137 #[.val (.int p1), .val (.ref b1), .val (.int (13 : Int32)), .unset] [(.int (1 : Int32))]))
        exact J62
      · rw [own_pi_f hd62] at J62
        refine Gl.pre (fun _ k => XS.icmpYes X35.here hx rfl (pc0 := 129) (pc' := 136) rfl (hb hby at_129) rfl (flt hd62).2.1 (by decide) (by decide) k) ?_
        show Gl p.tables e below PP (T35.setTop (mkF m 136 #[.val (.int p1), .val (.ref b1), .val (.int (13 : Int32)), .unset] []))
        refine Gl.pre (fun _ k => XS.iconst X35.here hx rfl (hb hby at_136) k) ?_
        show Gl p.tables e below PP (T35.setTop (mkF m 137 #[.val (.int p1), .val (.ref b1), .val (.int (13 : Int32)), .unset] [(.int (0 : Int32))]))
        exact J62
    show Gl p.tables e below PP (T35.setTop (mkF m 137 #[.val (.int p1), .val (.ref b1), .val (.int (13 : Int32)), .unset] [(.int (own_pi ((13 : Int32) < (4 : Int32))))]))
    refine Gl.pre (fun _ k => XS.istoreN X35.here hx rfl (hb hby at_137) rfl (l' := #[.val (.int p1), .val (.ref b1), .val (.int (13 : Int32)), .val (.int (own_pi ((13 : Int32) < (4 : Int32))))]) rfl k) ?_
    show Gl p.tables e below PP (T35.setTop (mkF m 138 #[.val (.int p1), .val (.ref b1), .val (.int (13 : Int32)), .val (.int (own_pi ((13 : Int32) < (4 : Int32))))] []))
    refine Gl.pre (fun _ k => XS.aloadN X35.here hx rfl (hb hby at_138) rfl rfl k) ?_
    show Gl p.tables e below PP (T35.setTop (mkF m 139 #[.val (.int p1), .val (.ref b1), .val (.int (13 : Int32)), .val (.int (own_pi ((13 : Int32) < (4 : Int32))))] [(.ref b1)]))
    refine Gl.pre (fun _ k => XS.iloadN X35.here hx rfl (hb hby at_139) rfl k) ?_
    show Gl p.tables e below PP (T35.setTop (mkF m 140 #[.val (.int p1), .val (.ref b1), .val (.int (13 : Int32)), .val (.int (own_pi ((13 : Int32) < (4 : Int32))))] [(.int (13 : Int32)), (.ref b1)]))
    refine Gl.pre (fun _ k => own_ldR X35 hx hZ e35 V_b1 (j := (13 : Int32)) (i := 13) (by decide) (by decide) (Nat.lt_of_lt_of_eq (by decide : 13 < 17) rfl) (v := (.ref ck13)) rfl (g := (mkF m 140 #[.val (.int p1), .val (.ref b1), .val (.int (13 : Int32)), .val (.int (own_pi ((13 : Int32) < (4 : Int32))))] [(.int (13 : Int32)), (.ref b1)])) rfl rfl (hb hby at_140) _ k) ?_
    show Gl p.tables e below PP (T35.setTop (mkF m 141 #[.val (.int p1), .val (.ref b1), .val (.int (13 : Int32)), .val (.int (own_pi ((13 : Int32) < (4 : Int32))))] [(.ref ck13)]))
    obtain ⟨cq63, kq63, qa63, qb63, qc63⟩ := isOf hZ e35 (KB13.1.ext O_.2)
    obtain ⟨_, _, ⟨T63, L63, k63, n63⟩, -, X63, ⟨Lc63, hQ63, l63, y63, z63⟩, st63⟩ := X35.virtualBack hx (y := (⟨"com/example/anchorwatch/anchorwatch/config/ConfigKey", "required", "()Z"⟩ : MethodName)) (z := (⟨"com/example/anchorwatch/anchorwatch/config/ConfigKey", "required", "()Z"⟩ : MethodName)) hown (mvT hZ (hw _ (List.mem_of_getElem? (i := 39) rfl))) (mvT hZ (hw _ (List.mem_of_getElem? (i := 40) rfl))) (notFace_of_selects (args := #[]) (mvT hZ (hw _ (List.mem_of_getElem? (i := 42) rfl)))) (mvT hZ (hw _ (List.mem_of_getElem? (i := 42) rfl))) (mvT hZ (hw _ (List.mem_of_getElem? (i := 41) rfl))) (by decide) (backOf (W := 0) (rm1d l Z a0 hw [] ck13 h35 n0 Z35 (KB13.2.1.ext O_.2)) hZ (hw _ (List.mem_of_getElem? (i := 43) rfl)) (hw _ (List.mem_of_getElem? (i := 3) rfl)) (by decide) (by decide)) qa63 qc63 (g := (mkF m 141 #[.val (.int p1), .val (.ref b1), .val (.int (13 : Int32)), .val (.int (own_pi ((13 : Int32) < (4 : Int32))))] [(.ref ck13)])) rfl (by rw [hml]; rfl) (Steps.refl _) (argsL := []) (rest := []) (lenOf pd_0 rfl) rfl (by show 2 * 0 + _ ≤ _; exact Nat.le_of_eq rfl) (hb hby at_141) (fun _ _ => ⟨rfl, e35, (by decide : 1 + 0 ≤ _), (by decide : 17 + 0 ≤ _)⟩)
    dsimp only [Pt.U, Pt.locs, Pt.cells, Pt.slots] at X63 l63 y63 z63 st63 hQ63
    subst l63 y63 z63
    obtain ⟨rfl, N63q, e63⟩ := hQ63
    have N63 := Fr.app N35 N63q
    refine Gl.pre (fun _ k => st63.trans k) ?_
    show Gl p.tables e below PP (T63.setTop (mkF m 144 #[.val (.int p1), .val (.ref b1), .val (.int (13 : Int32)), .val (.int (own_pi ((13 : Int32) < (4 : Int32))))] [(.int (0 : Int32))]))
    refine Gl.pre (fun _ k => XS.iloadN X63.here hx rfl (hb hby at_144) rfl k) ?_
    show Gl p.tables e below PP (T63.setTop (mkF m 145 #[.val (.int p1), .val (.ref b1), .val (.int (13 : Int32)), .val (.int (own_pi ((13 : Int32) < (4 : Int32))))] [(.int (own_pi ((13 : Int32) < (4 : Int32)))), (.int (0 : Int32))]))
    refine Gl.pre (fun _ k => XS.icmpNo X63.here hx rfl (hb hby at_145) rfl (teq (show (0 : Int32) = (own_pi ((13 : Int32) < (4 : Int32))) from (own_pi_f (by decide)).symm)).2 k) ?_
    show Gl p.tables e below PP (T63.setTop (mkF m 148 #[.val (.int p1), .val (.ref b1), .val (.int (13 : Int32)), .val (.int (own_pi ((13 : Int32) < (4 : Int32))))] []))
    refine Gl.pre (fun _ k => XS.iconst X63.here hx rfl (hb hby at_148) k) ?_
    show Gl p.tables e below PP (T63.setTop (mkF m 149 #[.val (.int p1), .val (.ref b1), .val (.int (13 : Int32)), .val (.int (own_pi ((13 : Int32) < (4 : Int32))))] [(.int (1 : Int32))]))
    refine Gl.pre (fun _ k => XS.goto X63.here hx rfl (pc0 := 149) (pc' := 153) rfl (hb hby at_149) (by decide) (by decide) k) ?_
    show Gl p.tables e below PP (T63.setTop (mkF m 153 #[.val (.int p1), .val (.ref b1), .val (.int (13 : Int32)), .val (.int (own_pi ((13 : Int32) < (4 : Int32))))] [(.int (1 : Int32))]))
    rw [hPP]
    refine own_finN (Q := (Q0 Z p1 ck0 ck1 ck2 ck3 ck4 ck5 ck6 ck7 ck8 ck9 ck10 ck11 ck12 ck13 ck14 ck15 ck16 dv4 dv5 dv6 dv7 dv8 dv9 dv14 dv15 dv16 h0 n0)) X63 hx hlk Bd.returns (t := .boolean) (z' := (1 : Int32)) (by simp) (by decide) (hb hby at_153) ?_ (by decide) (by decide)
    show Q0 Z p1 ck0 ck1 ck2 ck3 ck4 ck5 ck6 ck7 ck8 ck9 ck10 ck11 ck12 ck13 ck14 ck15 ck16 dv4 dv5 dv6 dv7 dv8 dv9 dv14 dv15 dv16 h0 n0 _ T63.heap _
    rw [e63]
    exact ⟨rfl, N63⟩
  · rw [hr]
    show Gl p.tables e below PP (T35.setTop (mkF m 126 #[.val (.int p1), .val (.ref b1), .unset, .unset] [(.int (14 : Int32))]))
    refine Gl.pre (fun _ k => XS.istoreN X35.here hx rfl (hb hby at_126) rfl (l' := #[.val (.int p1), .val (.ref b1), .val (.int (14 : Int32)), .unset]) rfl k) ?_
    show Gl p.tables e below PP (T35.setTop (mkF m 127 #[.val (.int p1), .val (.ref b1), .val (.int (14 : Int32)), .unset] []))
    refine Gl.pre (fun _ k => XS.iloadN X35.here hx rfl (hb hby at_127) rfl k) ?_
    show Gl p.tables e below PP (T35.setTop (mkF m 128 #[.val (.int p1), .val (.ref b1), .val (.int (14 : Int32)), .unset] [(.int (14 : Int32))]))
    refine Gl.pre (fun _ k => XS.iconst X35.here hx rfl (hb hby at_128) k) ?_
    show Gl p.tables e below PP (T35.setTop (mkF m 129 #[.val (.int p1), .val (.ref b1), .val (.int (14 : Int32)), .unset] [(.int (4 : Int32)), (.int (14 : Int32))]))
    suffices J64 : Gl p.tables e below PP (T35.setTop (mkF m 137 #[.val (.int p1), .val (.ref b1), .val (.int (14 : Int32)), .unset] [(.int (own_pi ((14 : Int32) < (4 : Int32))))])) by
      by_cases hd64 : (14 : Int32) < (4 : Int32)
      · rw [own_pi_t hd64] at J64
        refine Gl.pre (fun _ k => XS.icmpNo X35.here hx rfl (hb hby at_129) rfl (tlt hd64).2.1 k) ?_
        show Gl p.tables e below PP (T35.setTop (mkF m 132 #[.val (.int p1), .val (.ref b1), .val (.int (14 : Int32)), .unset] []))
        refine Gl.pre (fun _ k => XS.iconst X35.here hx rfl (hb hby at_132) k) ?_
        show Gl p.tables e below PP (T35.setTop (mkF m 133 #[.val (.int p1), .val (.ref b1), .val (.int (14 : Int32)), .unset] [(.int (1 : Int32))]))
        refine Gl.pre (fun _ k => XS.goto X35.here hx rfl (pc0 := 133) (pc' := 137) rfl (hb hby at_133) (by decide) (by decide) k) ?_
        show Gl p.tables e below PP (T35.setTop (mkF m 137 #[.val (.int p1), .val (.ref b1), .val (.int (14 : Int32)), .unset] [(.int (1 : Int32))]))
        exact J64
      · rw [own_pi_f hd64] at J64
        refine Gl.pre (fun _ k => XS.icmpYes X35.here hx rfl (pc0 := 129) (pc' := 136) rfl (hb hby at_129) rfl (flt hd64).2.1 (by decide) (by decide) k) ?_
        show Gl p.tables e below PP (T35.setTop (mkF m 136 #[.val (.int p1), .val (.ref b1), .val (.int (14 : Int32)), .unset] []))
        refine Gl.pre (fun _ k => XS.iconst X35.here hx rfl (hb hby at_136) k) ?_
        show Gl p.tables e below PP (T35.setTop (mkF m 137 #[.val (.int p1), .val (.ref b1), .val (.int (14 : Int32)), .unset] [(.int (0 : Int32))]))
        exact J64
    show Gl p.tables e below PP (T35.setTop (mkF m 137 #[.val (.int p1), .val (.ref b1), .val (.int (14 : Int32)), .unset] [(.int (own_pi ((14 : Int32) < (4 : Int32))))]))
    refine Gl.pre (fun _ k => XS.istoreN X35.here hx rfl (hb hby at_137) rfl (l' := #[.val (.int p1), .val (.ref b1), .val (.int (14 : Int32)), .val (.int (own_pi ((14 : Int32) < (4 : Int32))))]) rfl k) ?_
    show Gl p.tables e below PP (T35.setTop (mkF m 138 #[.val (.int p1), .val (.ref b1), .val (.int (14 : Int32)), .val (.int (own_pi ((14 : Int32) < (4 : Int32))))] []))
    refine Gl.pre (fun _ k => XS.aloadN X35.here hx rfl (hb hby at_138) rfl rfl k) ?_
    show Gl p.tables e below PP (T35.setTop (mkF m 139 #[.val (.int p1), .val (.ref b1), .val (.int (14 : Int32)), .val (.int (own_pi ((14 : Int32) < (4 : Int32))))] [(.ref b1)]))
    refine Gl.pre (fun _ k => XS.iloadN X35.here hx rfl (hb hby at_139) rfl k) ?_
    show Gl p.tables e below PP (T35.setTop (mkF m 140 #[.val (.int p1), .val (.ref b1), .val (.int (14 : Int32)), .val (.int (own_pi ((14 : Int32) < (4 : Int32))))] [(.int (14 : Int32)), (.ref b1)]))
    refine Gl.pre (fun _ k => own_ldR X35 hx hZ e35 V_b1 (j := (14 : Int32)) (i := 14) (by decide) (by decide) (Nat.lt_of_lt_of_eq (by decide : 14 < 17) rfl) (v := (.ref ck14)) rfl (g := (mkF m 140 #[.val (.int p1), .val (.ref b1), .val (.int (14 : Int32)), .val (.int (own_pi ((14 : Int32) < (4 : Int32))))] [(.int (14 : Int32)), (.ref b1)])) rfl rfl (hb hby at_140) _ k) ?_
    show Gl p.tables e below PP (T35.setTop (mkF m 141 #[.val (.int p1), .val (.ref b1), .val (.int (14 : Int32)), .val (.int (own_pi ((14 : Int32) < (4 : Int32))))] [(.ref ck14)]))
    obtain ⟨cq65, kq65, qa65, qb65, qc65⟩ := isOf hZ e35 (KB14.1.ext O_.2)
    obtain ⟨_, _, ⟨T65, L65, k65, n65⟩, -, X65, ⟨Lc65, hQ65, l65, y65, z65⟩, st65⟩ := X35.virtualBack hx (y := (⟨"com/example/anchorwatch/anchorwatch/config/ConfigKey", "required", "()Z"⟩ : MethodName)) (z := (⟨"com/example/anchorwatch/anchorwatch/config/ConfigKey", "required", "()Z"⟩ : MethodName)) hown (mvT hZ (hw _ (List.mem_of_getElem? (i := 39) rfl))) (mvT hZ (hw _ (List.mem_of_getElem? (i := 40) rfl))) (notFace_of_selects (args := #[]) (mvT hZ (hw _ (List.mem_of_getElem? (i := 42) rfl)))) (mvT hZ (hw _ (List.mem_of_getElem? (i := 42) rfl))) (mvT hZ (hw _ (List.mem_of_getElem? (i := 41) rfl))) (by decide) (backOf (W := 0) (rm1b l Z a0 hw [] ck14 dv14 h35 n0 Z35 (KB14.2.1.ext O_.2) (KB14.2.2.1.ext O_.2)) hZ (hw _ (List.mem_of_getElem? (i := 43) rfl)) (hw _ (List.mem_of_getElem? (i := 3) rfl)) (by decide) (by decide)) qa65 qc65 (g := (mkF m 141 #[.val (.int p1), .val (.ref b1), .val (.int (14 : Int32)), .val (.int (own_pi ((14 : Int32) < (4 : Int32))))] [(.ref ck14)])) rfl (by rw [hml]; rfl) (Steps.refl _) (argsL := []) (rest := []) (lenOf pd_0 rfl) rfl (by show 2 * 0 + _ ≤ _; exact Nat.le_of_eq rfl) (hb hby at_141) (fun _ _ => ⟨rfl, e35, (by decide : 1 + 0 ≤ _), (by decide : 17 + 0 ≤ _)⟩)
    dsimp only [Pt.U, Pt.locs, Pt.cells, Pt.slots] at X65 l65 y65 z65 st65 hQ65
    subst l65 y65 z65
    obtain ⟨rfl, N65q, e65⟩ := hQ65
    have N65 := Fr.app N35 N65q
    refine Gl.pre (fun _ k => st65.trans k) ?_
    show Gl p.tables e below PP (T65.setTop (mkF m 144 #[.val (.int p1), .val (.ref b1), .val (.int (14 : Int32)), .val (.int (own_pi ((14 : Int32) < (4 : Int32))))] [(.int (0 : Int32))]))
    refine Gl.pre (fun _ k => XS.iloadN X65.here hx rfl (hb hby at_144) rfl k) ?_
    show Gl p.tables e below PP (T65.setTop (mkF m 145 #[.val (.int p1), .val (.ref b1), .val (.int (14 : Int32)), .val (.int (own_pi ((14 : Int32) < (4 : Int32))))] [(.int (own_pi ((14 : Int32) < (4 : Int32)))), (.int (0 : Int32))]))
    refine Gl.pre (fun _ k => XS.icmpNo X65.here hx rfl (hb hby at_145) rfl (teq (show (0 : Int32) = (own_pi ((14 : Int32) < (4 : Int32))) from (own_pi_f (by decide)).symm)).2 k) ?_
    show Gl p.tables e below PP (T65.setTop (mkF m 148 #[.val (.int p1), .val (.ref b1), .val (.int (14 : Int32)), .val (.int (own_pi ((14 : Int32) < (4 : Int32))))] []))
    refine Gl.pre (fun _ k => XS.iconst X65.here hx rfl (hb hby at_148) k) ?_
    show Gl p.tables e below PP (T65.setTop (mkF m 149 #[.val (.int p1), .val (.ref b1), .val (.int (14 : Int32)), .val (.int (own_pi ((14 : Int32) < (4 : Int32))))] [(.int (1 : Int32))]))
    refine Gl.pre (fun _ k => XS.goto X65.here hx rfl (pc0 := 149) (pc' := 153) rfl (hb hby at_149) (by decide) (by decide) k) ?_
    show Gl p.tables e below PP (T65.setTop (mkF m 153 #[.val (.int p1), .val (.ref b1), .val (.int (14 : Int32)), .val (.int (own_pi ((14 : Int32) < (4 : Int32))))] [(.int (1 : Int32))]))
    rw [hPP]
    refine own_finN (Q := (Q0 Z p1 ck0 ck1 ck2 ck3 ck4 ck5 ck6 ck7 ck8 ck9 ck10 ck11 ck12 ck13 ck14 ck15 ck16 dv4 dv5 dv6 dv7 dv8 dv9 dv14 dv15 dv16 h0 n0)) X65 hx hlk Bd.returns (t := .boolean) (z' := (1 : Int32)) (by simp) (by decide) (hb hby at_153) ?_ (by decide) (by decide)
    show Q0 Z p1 ck0 ck1 ck2 ck3 ck4 ck5 ck6 ck7 ck8 ck9 ck10 ck11 ck12 ck13 ck14 ck15 ck16 dv4 dv5 dv6 dv7 dv8 dv9 dv14 dv15 dv16 h0 n0 _ T65.heap _
    rw [e65]
    exact ⟨rfl, N65⟩
  · rw [hr]
    show Gl p.tables e below PP (T35.setTop (mkF m 126 #[.val (.int p1), .val (.ref b1), .unset, .unset] [(.int (15 : Int32))]))
    refine Gl.pre (fun _ k => XS.istoreN X35.here hx rfl (hb hby at_126) rfl (l' := #[.val (.int p1), .val (.ref b1), .val (.int (15 : Int32)), .unset]) rfl k) ?_
    show Gl p.tables e below PP (T35.setTop (mkF m 127 #[.val (.int p1), .val (.ref b1), .val (.int (15 : Int32)), .unset] []))
    refine Gl.pre (fun _ k => XS.iloadN X35.here hx rfl (hb hby at_127) rfl k) ?_
    show Gl p.tables e below PP (T35.setTop (mkF m 128 #[.val (.int p1), .val (.ref b1), .val (.int (15 : Int32)), .unset] [(.int (15 : Int32))]))
    refine Gl.pre (fun _ k => XS.iconst X35.here hx rfl (hb hby at_128) k) ?_
    show Gl p.tables e below PP (T35.setTop (mkF m 129 #[.val (.int p1), .val (.ref b1), .val (.int (15 : Int32)), .unset] [(.int (4 : Int32)), (.int (15 : Int32))]))
    suffices J66 : Gl p.tables e below PP (T35.setTop (mkF m 137 #[.val (.int p1), .val (.ref b1), .val (.int (15 : Int32)), .unset] [(.int (own_pi ((15 : Int32) < (4 : Int32))))])) by
      by_cases hd66 : (15 : Int32) < (4 : Int32)
      · rw [own_pi_t hd66] at J66
        refine Gl.pre (fun _ k => XS.icmpNo X35.here hx rfl (hb hby at_129) rfl (tlt hd66).2.1 k) ?_
        show Gl p.tables e below PP (T35.setTop (mkF m 132 #[.val (.int p1), .val (.ref b1), .val (.int (15 : Int32)), .unset] []))
        refine Gl.pre (fun _ k => XS.iconst X35.here hx rfl (hb hby at_132) k) ?_
        show Gl p.tables e below PP (T35.setTop (mkF m 133 #[.val (.int p1), .val (.ref b1), .val (.int (15 : Int32)), .unset] [(.int (1 : Int32))]))
        refine Gl.pre (fun _ k => XS.goto X35.here hx rfl (pc0 := 133) (pc' := 137) rfl (hb hby at_133) (by decide) (by decide) k) ?_
        show Gl p.tables e below PP (T35.setTop (mkF m 137 #[.val (.int p1), .val (.ref b1), .val (.int (15 : Int32)), .unset] [(.int (1 : Int32))]))
        exact J66
      · rw [own_pi_f hd66] at J66
        refine Gl.pre (fun _ k => XS.icmpYes X35.here hx rfl (pc0 := 129) (pc' := 136) rfl (hb hby at_129) rfl (flt hd66).2.1 (by decide) (by decide) k) ?_
        show Gl p.tables e below PP (T35.setTop (mkF m 136 #[.val (.int p1), .val (.ref b1), .val (.int (15 : Int32)), .unset] []))
        refine Gl.pre (fun _ k => XS.iconst X35.here hx rfl (hb hby at_136) k) ?_
        show Gl p.tables e below PP (T35.setTop (mkF m 137 #[.val (.int p1), .val (.ref b1), .val (.int (15 : Int32)), .unset] [(.int (0 : Int32))]))
        exact J66
    show Gl p.tables e below PP (T35.setTop (mkF m 137 #[.val (.int p1), .val (.ref b1), .val (.int (15 : Int32)), .unset] [(.int (own_pi ((15 : Int32) < (4 : Int32))))]))
    refine Gl.pre (fun _ k => XS.istoreN X35.here hx rfl (hb hby at_137) rfl (l' := #[.val (.int p1), .val (.ref b1), .val (.int (15 : Int32)), .val (.int (own_pi ((15 : Int32) < (4 : Int32))))]) rfl k) ?_
    show Gl p.tables e below PP (T35.setTop (mkF m 138 #[.val (.int p1), .val (.ref b1), .val (.int (15 : Int32)), .val (.int (own_pi ((15 : Int32) < (4 : Int32))))] []))
    refine Gl.pre (fun _ k => XS.aloadN X35.here hx rfl (hb hby at_138) rfl rfl k) ?_
    show Gl p.tables e below PP (T35.setTop (mkF m 139 #[.val (.int p1), .val (.ref b1), .val (.int (15 : Int32)), .val (.int (own_pi ((15 : Int32) < (4 : Int32))))] [(.ref b1)]))
    refine Gl.pre (fun _ k => XS.iloadN X35.here hx rfl (hb hby at_139) rfl k) ?_
    show Gl p.tables e below PP (T35.setTop (mkF m 140 #[.val (.int p1), .val (.ref b1), .val (.int (15 : Int32)), .val (.int (own_pi ((15 : Int32) < (4 : Int32))))] [(.int (15 : Int32)), (.ref b1)]))
    refine Gl.pre (fun _ k => own_ldR X35 hx hZ e35 V_b1 (j := (15 : Int32)) (i := 15) (by decide) (by decide) (Nat.lt_of_lt_of_eq (by decide : 15 < 17) rfl) (v := (.ref ck15)) rfl (g := (mkF m 140 #[.val (.int p1), .val (.ref b1), .val (.int (15 : Int32)), .val (.int (own_pi ((15 : Int32) < (4 : Int32))))] [(.int (15 : Int32)), (.ref b1)])) rfl rfl (hb hby at_140) _ k) ?_
    show Gl p.tables e below PP (T35.setTop (mkF m 141 #[.val (.int p1), .val (.ref b1), .val (.int (15 : Int32)), .val (.int (own_pi ((15 : Int32) < (4 : Int32))))] [(.ref ck15)]))
    obtain ⟨cq67, kq67, qa67, qb67, qc67⟩ := isOf hZ e35 (KB15.1.ext O_.2)
    obtain ⟨_, _, ⟨T67, L67, k67, n67⟩, -, X67, ⟨Lc67, hQ67, l67, y67, z67⟩, st67⟩ := X35.virtualBack hx (y := (⟨"com/example/anchorwatch/anchorwatch/config/ConfigKey", "required", "()Z"⟩ : MethodName)) (z := (⟨"com/example/anchorwatch/anchorwatch/config/ConfigKey", "required", "()Z"⟩ : MethodName)) hown (mvT hZ (hw _ (List.mem_of_getElem? (i := 39) rfl))) (mvT hZ (hw _ (List.mem_of_getElem? (i := 40) rfl))) (notFace_of_selects (args := #[]) (mvT hZ (hw _ (List.mem_of_getElem? (i := 42) rfl)))) (mvT hZ (hw _ (List.mem_of_getElem? (i := 42) rfl))) (mvT hZ (hw _ (List.mem_of_getElem? (i := 41) rfl))) (by decide) (backOf (W := 0) (rm1b l Z a0 hw [] ck15 dv15 h35 n0 Z35 (KB15.2.1.ext O_.2) (KB15.2.2.1.ext O_.2)) hZ (hw _ (List.mem_of_getElem? (i := 43) rfl)) (hw _ (List.mem_of_getElem? (i := 3) rfl)) (by decide) (by decide)) qa67 qc67 (g := (mkF m 141 #[.val (.int p1), .val (.ref b1), .val (.int (15 : Int32)), .val (.int (own_pi ((15 : Int32) < (4 : Int32))))] [(.ref ck15)])) rfl (by rw [hml]; rfl) (Steps.refl _) (argsL := []) (rest := []) (lenOf pd_0 rfl) rfl (by show 2 * 0 + _ ≤ _; exact Nat.le_of_eq rfl) (hb hby at_141) (fun _ _ => ⟨rfl, e35, (by decide : 1 + 0 ≤ _), (by decide : 17 + 0 ≤ _)⟩)
    dsimp only [Pt.U, Pt.locs, Pt.cells, Pt.slots] at X67 l67 y67 z67 st67 hQ67
    subst l67 y67 z67
    obtain ⟨rfl, N67q, e67⟩ := hQ67
    have N67 := Fr.app N35 N67q
    refine Gl.pre (fun _ k => st67.trans k) ?_
    show Gl p.tables e below PP (T67.setTop (mkF m 144 #[.val (.int p1), .val (.ref b1), .val (.int (15 : Int32)), .val (.int (own_pi ((15 : Int32) < (4 : Int32))))] [(.int (0 : Int32))]))
    refine Gl.pre (fun _ k => XS.iloadN X67.here hx rfl (hb hby at_144) rfl k) ?_
    show Gl p.tables e below PP (T67.setTop (mkF m 145 #[.val (.int p1), .val (.ref b1), .val (.int (15 : Int32)), .val (.int (own_pi ((15 : Int32) < (4 : Int32))))] [(.int (own_pi ((15 : Int32) < (4 : Int32)))), (.int (0 : Int32))]))
    refine Gl.pre (fun _ k => XS.icmpNo X67.here hx rfl (hb hby at_145) rfl (teq (show (0 : Int32) = (own_pi ((15 : Int32) < (4 : Int32))) from (own_pi_f (by decide)).symm)).2 k) ?_
    show Gl p.tables e below PP (T67.setTop (mkF m 148 #[.val (.int p1), .val (.ref b1), .val (.int (15 : Int32)), .val (.int (own_pi ((15 : Int32) < (4 : Int32))))] []))
    refine Gl.pre (fun _ k => XS.iconst X67.here hx rfl (hb hby at_148) k) ?_
    show Gl p.tables e below PP (T67.setTop (mkF m 149 #[.val (.int p1), .val (.ref b1), .val (.int (15 : Int32)), .val (.int (own_pi ((15 : Int32) < (4 : Int32))))] [(.int (1 : Int32))]))
    refine Gl.pre (fun _ k => XS.goto X67.here hx rfl (pc0 := 149) (pc' := 153) rfl (hb hby at_149) (by decide) (by decide) k) ?_
    show Gl p.tables e below PP (T67.setTop (mkF m 153 #[.val (.int p1), .val (.ref b1), .val (.int (15 : Int32)), .val (.int (own_pi ((15 : Int32) < (4 : Int32))))] [(.int (1 : Int32))]))
    rw [hPP]
    refine own_finN (Q := (Q0 Z p1 ck0 ck1 ck2 ck3 ck4 ck5 ck6 ck7 ck8 ck9 ck10 ck11 ck12 ck13 ck14 ck15 ck16 dv4 dv5 dv6 dv7 dv8 dv9 dv14 dv15 dv16 h0 n0)) X67 hx hlk Bd.returns (t := .boolean) (z' := (1 : Int32)) (by simp) (by decide) (hb hby at_153) ?_ (by decide) (by decide)
    show Q0 Z p1 ck0 ck1 ck2 ck3 ck4 ck5 ck6 ck7 ck8 ck9 ck10 ck11 ck12 ck13 ck14 ck15 ck16 dv4 dv5 dv6 dv7 dv8 dv9 dv14 dv15 dv16 h0 n0 _ T67.heap _
    rw [e67]
    exact ⟨rfl, N67⟩
  · rw [hr]
    show Gl p.tables e below PP (T35.setTop (mkF m 126 #[.val (.int p1), .val (.ref b1), .unset, .unset] [(.int (16 : Int32))]))
    refine Gl.pre (fun _ k => XS.istoreN X35.here hx rfl (hb hby at_126) rfl (l' := #[.val (.int p1), .val (.ref b1), .val (.int (16 : Int32)), .unset]) rfl k) ?_
    show Gl p.tables e below PP (T35.setTop (mkF m 127 #[.val (.int p1), .val (.ref b1), .val (.int (16 : Int32)), .unset] []))
    refine Gl.pre (fun _ k => XS.iloadN X35.here hx rfl (hb hby at_127) rfl k) ?_
    show Gl p.tables e below PP (T35.setTop (mkF m 128 #[.val (.int p1), .val (.ref b1), .val (.int (16 : Int32)), .unset] [(.int (16 : Int32))]))
    refine Gl.pre (fun _ k => XS.iconst X35.here hx rfl (hb hby at_128) k) ?_
    show Gl p.tables e below PP (T35.setTop (mkF m 129 #[.val (.int p1), .val (.ref b1), .val (.int (16 : Int32)), .unset] [(.int (4 : Int32)), (.int (16 : Int32))]))
    suffices J68 : Gl p.tables e below PP (T35.setTop (mkF m 137 #[.val (.int p1), .val (.ref b1), .val (.int (16 : Int32)), .unset] [(.int (own_pi ((16 : Int32) < (4 : Int32))))])) by
      by_cases hd68 : (16 : Int32) < (4 : Int32)
      · rw [own_pi_t hd68] at J68
        refine Gl.pre (fun _ k => XS.icmpNo X35.here hx rfl (hb hby at_129) rfl (tlt hd68).2.1 k) ?_
        show Gl p.tables e below PP (T35.setTop (mkF m 132 #[.val (.int p1), .val (.ref b1), .val (.int (16 : Int32)), .unset] []))
        refine Gl.pre (fun _ k => XS.iconst X35.here hx rfl (hb hby at_132) k) ?_
        show Gl p.tables e below PP (T35.setTop (mkF m 133 #[.val (.int p1), .val (.ref b1), .val (.int (16 : Int32)), .unset] [(.int (1 : Int32))]))
        refine Gl.pre (fun _ k => XS.goto X35.here hx rfl (pc0 := 133) (pc' := 137) rfl (hb hby at_133) (by decide) (by decide) k) ?_
        show Gl p.tables e below PP (T35.setTop (mkF m 137 #[.val (.int p1), .val (.ref b1), .val (.int (16 : Int32)), .unset] [(.int (1 : Int32))]))
        exact J68
      · rw [own_pi_f hd68] at J68
        refine Gl.pre (fun _ k => XS.icmpYes X35.here hx rfl (pc0 := 129) (pc' := 136) rfl (hb hby at_129) rfl (flt hd68).2.1 (by decide) (by decide) k) ?_
        show Gl p.tables e below PP (T35.setTop (mkF m 136 #[.val (.int p1), .val (.ref b1), .val (.int (16 : Int32)), .unset] []))
        refine Gl.pre (fun _ k => XS.iconst X35.here hx rfl (hb hby at_136) k) ?_
        show Gl p.tables e below PP (T35.setTop (mkF m 137 #[.val (.int p1), .val (.ref b1), .val (.int (16 : Int32)), .unset] [(.int (0 : Int32))]))
        exact J68
    show Gl p.tables e below PP (T35.setTop (mkF m 137 #[.val (.int p1), .val (.ref b1), .val (.int (16 : Int32)), .unset] [(.int (own_pi ((16 : Int32) < (4 : Int32))))]))
    refine Gl.pre (fun _ k => XS.istoreN X35.here hx rfl (hb hby at_137) rfl (l' := #[.val (.int p1), .val (.ref b1), .val (.int (16 : Int32)), .val (.int (own_pi ((16 : Int32) < (4 : Int32))))]) rfl k) ?_
    show Gl p.tables e below PP (T35.setTop (mkF m 138 #[.val (.int p1), .val (.ref b1), .val (.int (16 : Int32)), .val (.int (own_pi ((16 : Int32) < (4 : Int32))))] []))
    refine Gl.pre (fun _ k => XS.aloadN X35.here hx rfl (hb hby at_138) rfl rfl k) ?_
    show Gl p.tables e below PP (T35.setTop (mkF m 139 #[.val (.int p1), .val (.ref b1), .val (.int (16 : Int32)), .val (.int (own_pi ((16 : Int32) < (4 : Int32))))] [(.ref b1)]))
    refine Gl.pre (fun _ k => XS.iloadN X35.here hx rfl (hb hby at_139) rfl k) ?_
    show Gl p.tables e below PP (T35.setTop (mkF m 140 #[.val (.int p1), .val (.ref b1), .val (.int (16 : Int32)), .val (.int (own_pi ((16 : Int32) < (4 : Int32))))] [(.int (16 : Int32)), (.ref b1)]))
    refine Gl.pre (fun _ k => own_ldR X35 hx hZ e35 V_b1 (j := (16 : Int32)) (i := 16) (by decide) (by decide) (Nat.lt_of_lt_of_eq (by decide : 16 < 17) rfl) (v := (.ref ck16)) rfl (g := (mkF m 140 #[.val (.int p1), .val (.ref b1), .val (.int (16 : Int32)), .val (.int (own_pi ((16 : Int32) < (4 : Int32))))] [(.int (16 : Int32)), (.ref b1)])) rfl rfl (hb hby at_140) _ k) ?_
    show Gl p.tables e below PP (T35.setTop (mkF m 141 #[.val (.int p1), .val (.ref b1), .val (.int (16 : Int32)), .val (.int (own_pi ((16 : Int32) < (4 : Int32))))] [(.ref ck16)]))
    obtain ⟨cq69, kq69, qa69, qb69, qc69⟩ := isOf hZ e35 (KB16.1.ext O_.2)
    obtain ⟨_, _, ⟨T69, L69, k69, n69⟩, -, X69, ⟨Lc69, hQ69, l69, y69, z69⟩, st69⟩ := X35.virtualBack hx (y := (⟨"com/example/anchorwatch/anchorwatch/config/ConfigKey", "required", "()Z"⟩ : MethodName)) (z := (⟨"com/example/anchorwatch/anchorwatch/config/ConfigKey", "required", "()Z"⟩ : MethodName)) hown (mvT hZ (hw _ (List.mem_of_getElem? (i := 39) rfl))) (mvT hZ (hw _ (List.mem_of_getElem? (i := 40) rfl))) (notFace_of_selects (args := #[]) (mvT hZ (hw _ (List.mem_of_getElem? (i := 42) rfl)))) (mvT hZ (hw _ (List.mem_of_getElem? (i := 42) rfl))) (mvT hZ (hw _ (List.mem_of_getElem? (i := 41) rfl))) (by decide) (backOf (W := 0) (rm1b l Z a0 hw [] ck16 dv16 h35 n0 Z35 (KB16.2.1.ext O_.2) (KB16.2.2.1.ext O_.2)) hZ (hw _ (List.mem_of_getElem? (i := 43) rfl)) (hw _ (List.mem_of_getElem? (i := 3) rfl)) (by decide) (by decide)) qa69 qc69 (g := (mkF m 141 #[.val (.int p1), .val (.ref b1), .val (.int (16 : Int32)), .val (.int (own_pi ((16 : Int32) < (4 : Int32))))] [(.ref ck16)])) rfl (by rw [hml]; rfl) (Steps.refl _) (argsL := []) (rest := []) (lenOf pd_0 rfl) rfl (by show 2 * 0 + _ ≤ _; exact Nat.le_of_eq rfl) (hb hby at_141) (fun _ _ => ⟨rfl, e35, (by decide : 1 + 0 ≤ _), (by decide : 17 + 0 ≤ _)⟩)
    dsimp only [Pt.U, Pt.locs, Pt.cells, Pt.slots] at X69 l69 y69 z69 st69 hQ69
    subst l69 y69 z69
    obtain ⟨rfl, N69q, e69⟩ := hQ69
    have N69 := Fr.app N35 N69q
    refine Gl.pre (fun _ k => st69.trans k) ?_
    show Gl p.tables e below PP (T69.setTop (mkF m 144 #[.val (.int p1), .val (.ref b1), .val (.int (16 : Int32)), .val (.int (own_pi ((16 : Int32) < (4 : Int32))))] [(.int (0 : Int32))]))
    refine Gl.pre (fun _ k => XS.iloadN X69.here hx rfl (hb hby at_144) rfl k) ?_
    show Gl p.tables e below PP (T69.setTop (mkF m 145 #[.val (.int p1), .val (.ref b1), .val (.int (16 : Int32)), .val (.int (own_pi ((16 : Int32) < (4 : Int32))))] [(.int (own_pi ((16 : Int32) < (4 : Int32)))), (.int (0 : Int32))]))
    refine Gl.pre (fun _ k => XS.icmpNo X69.here hx rfl (hb hby at_145) rfl (teq (show (0 : Int32) = (own_pi ((16 : Int32) < (4 : Int32))) from (own_pi_f (by decide)).symm)).2 k) ?_
    show Gl p.tables e below PP (T69.setTop (mkF m 148 #[.val (.int p1), .val (.ref b1), .val (.int (16 : Int32)), .val (.int (own_pi ((16 : Int32) < (4 : Int32))))] []))
    refine Gl.pre (fun _ k => XS.iconst X69.here hx rfl (hb hby at_148) k) ?_
    show Gl p.tables e below PP (T69.setTop (mkF m 149 #[.val (.int p1), .val (.ref b1), .val (.int (16 : Int32)), .val (.int (own_pi ((16 : Int32) < (4 : Int32))))] [(.int (1 : Int32))]))
    refine Gl.pre (fun _ k => XS.goto X69.here hx rfl (pc0 := 149) (pc' := 153) rfl (hb hby at_149) (by decide) (by decide) k) ?_
    show Gl p.tables e below PP (T69.setTop (mkF m 153 #[.val (.int p1), .val (.ref b1), .val (.int (16 : Int32)), .val (.int (own_pi ((16 : Int32) < (4 : Int32))))] [(.int (1 : Int32))]))
    rw [hPP]
    refine own_finN (Q := (Q0 Z p1 ck0 ck1 ck2 ck3 ck4 ck5 ck6 ck7 ck8 ck9 ck10 ck11 ck12 ck13 ck14 ck15 ck16 dv4 dv5 dv6 dv7 dv8 dv9 dv14 dv15 dv16 h0 n0)) X69 hx hlk Bd.returns (t := .boolean) (z' := (1 : Int32)) (by simp) (by decide) (hb hby at_153) ?_ (by decide) (by decide)
    show Q0 Z p1 ck0 ck1 ck2 ck3 ck4 ck5 ck6 ck7 ck8 ck9 ck10 ck11 ck12 ck13 ck14 ck15 ck16 dv4 dv5 dv6 dv7 dv8 dv9 dv14 dv15 dv16 h0 n0 _ T69.heap _
    rw [e69]
    exact ⟨rfl, N69⟩
set_option maxRecDepth 65536 in
set_option maxHeartbeats 40000000 in
theorem comes_1 {Post : Tables → Env → Array Value → State → Outcome → State → Prop} (hpost : ∀ tb e args s v u, (limb_1_1.after args s (.returned v) u = true ∧ limb_1_2.after args s (.returned v) u = true ∧ True) → FrameEnd s (.returned v) u (Jvm.fieldLocs frame_1_writes args s ++ Jvm.arrayLocs frame_1_arrays args s ++ Jvm.staticLocs frame_1_statics s) 16 128 → Post tb e args s (.returned v) u) :
    ArmFor flags0 classFile x code maxLocals ret World_1 tables_1 room_1 Calls_1 rest_1 Pre_1 Post := by
  intro l hfl _ _ p e ha hc hk s m args below hf hA hF happ hP
  obtain ⟨hcalls, hrest, hpre⟩ := hP
  obtain ⟨-, -, -, hnamed, -, -, -, hat⟩ := (Spec.applies_iff hf).mp happ
  obtain ⟨hg, hn⟩ := and_e (Cond.before_iff.mp (show (Jvm.Cond.and given_1 narrow_1).before args s = true from hpre))
  obtain ⟨gc, gr0⟩ := and_e hg
  obtain ⟨w0, rfl⟩ : ∃ w0 : Value, args = #[w0] := by
    have hs : args.size = 1 := by simpa [Cond.value, given_1] using gc
    obtain ⟨L⟩ := args
    match L, hs with
    | [w0], _ => exact ⟨w0, rfl⟩
  have hw := fun d (hd : d ∈ tables_1) => atoms_spec (ws := Jvm.Cond.code x code maxLocals ret :: tables_1) hat d (List.mem_cons_of_mem _ hd)
  have hfit : Fit s := fun {y c} hc i hi => by
    obtain ⟨ha, rfl⟩ := Array.getElem?_eq_some_iff.mp hc
    have q := List.all_eq_true.mp ((Array.all_eq_true_iff_forall_mem.mp hF) _ (Array.getElem_mem ha)) i (List.mem_range.mpr hi)
    simpa [Array.getElem?_eq_getElem hi] using q
  obtain ⟨i0, ei0⟩ := is_v gr0
  obtain rfl : w0 = (.int i0) := Option.some.inj ei0
  obtain ⟨c0, r0⟩ := and_e hn
  obtain ⟨c1, r1⟩ := and_e r0
  obtain ⟨c2, r2⟩ := and_e r1
  obtain ⟨c3, r3⟩ := and_e r2
  obtain ⟨c4, r4⟩ := and_e r3
  obtain ⟨c5, r5⟩ := and_e r4
  obtain ⟨c6, r6⟩ := and_e r5
  obtain ⟨c7, r7⟩ := and_e r6
  obtain ⟨c8, r8⟩ := and_e r7
  obtain ⟨c9, r9⟩ := and_e r8
  obtain ⟨c10, r10⟩ := and_e r9
  obtain ⟨c11, r11⟩ := and_e r10
  obtain ⟨c12, r12⟩ := and_e r11
  obtain ⟨c13, r13⟩ := and_e r12
  obtain ⟨c14, r14⟩ := and_e r13
  obtain ⟨c15, r15⟩ := and_e r14
  obtain ⟨c16, r16⟩ := and_e r15
  obtain ⟨c17, r17⟩ := and_e r16
  obtain ⟨c18, r18⟩ := and_e r17
  obtain ⟨c19, r19⟩ := and_e r18
  obtain ⟨c20, r20⟩ := and_e r19
  obtain ⟨c21, r21⟩ := and_e r20
  obtain ⟨c22, r22⟩ := and_e r21
  obtain ⟨c23, r23⟩ := and_e r22
  obtain ⟨c24, r24⟩ := and_e r23
  obtain ⟨c25, r25⟩ := and_e r24
  obtain ⟨c26, r26⟩ := and_e r25
  obtain ⟨c27, r27⟩ := and_e r26
  obtain ⟨c28, r28⟩ := and_e r27
  obtain ⟨c29, r29⟩ := and_e r28
  obtain ⟨c30, r30⟩ := and_e r29
  obtain ⟨c31, r31⟩ := and_e r30
  obtain ⟨c32, r32⟩ := and_e r31
  obtain ⟨c33, r33⟩ := and_e r32
  obtain ⟨c34, r34⟩ := and_e r33
  obtain ⟨c35, r35⟩ := and_e r34
  obtain ⟨c36, r36⟩ := and_e r35
  obtain ⟨c37, r37⟩ := and_e r36
  obtain ⟨c38, r38⟩ := and_e r37
  obtain ⟨c39, r39⟩ := and_e r38
  obtain ⟨c40, r40⟩ := and_e r39
  obtain ⟨c41, r41⟩ := and_e r40
  obtain ⟨c42, r42⟩ := and_e r41
  obtain ⟨c43, r43⟩ := and_e r42
  obtain ⟨c44, r44⟩ := and_e r43
  obtain ⟨c45, r45⟩ := and_e r44
  obtain ⟨c46, r46⟩ := and_e r45
  obtain ⟨c47, r47⟩ := and_e r46
  obtain ⟨c48, r48⟩ := and_e r47
  obtain ⟨c49, r49⟩ := and_e r48
  obtain ⟨c50, r50⟩ := and_e r49
  obtain ⟨c51, r51⟩ := and_e r50
  obtain ⟨c52, r52⟩ := and_e r51
  obtain ⟨c53, r53⟩ := and_e r52
  obtain ⟨c54, r54⟩ := and_e r53
  obtain ⟨c55, r55⟩ := and_e r54
  obtain ⟨c56, r56⟩ := and_e r55
  obtain ⟨c57, r57⟩ := and_e r56
  obtain ⟨c58, r58⟩ := and_e r57
  obtain ⟨c59, r59⟩ := and_e r58
  obtain ⟨c60, r60⟩ := and_e r59
  obtain ⟨c61, r61⟩ := and_e r60
  obtain ⟨c62, r62⟩ := and_e r61
  obtain ⟨c63, r63⟩ := and_e r62
  obtain ⟨c64, r64⟩ := and_e r63
  obtain ⟨c65, r65⟩ := and_e r64
  obtain ⟨c66, r66⟩ := and_e r65
  obtain ⟨ck0, ev0⟩ := exa_v c0
  have EX0 := Exa.start ev0 c0
  obtain ⟨ck1, ev1⟩ := exa_v c1
  have EX1 := Exa.start ev1 c1
  obtain ⟨ck2, ev2⟩ := exa_v c2
  have EX2 := Exa.start ev2 c2
  obtain ⟨ck3, ev3⟩ := exa_v c3
  have EX3 := Exa.start ev3 c3
  obtain ⟨ck4, ev4⟩ := exa_v c4
  have EX4 := Exa.start ev4 c4
  obtain ⟨ck5, ev5⟩ := exa_v c5
  have EX5 := Exa.start ev5 c5
  obtain ⟨ck6, ev6⟩ := exa_v c6
  have EX6 := Exa.start ev6 c6
  obtain ⟨ck7, ev7⟩ := exa_v c7
  have EX7 := Exa.start ev7 c7
  obtain ⟨ck8, ev8⟩ := exa_v c8
  have EX8 := Exa.start ev8 c8
  obtain ⟨ck9, ev9⟩ := exa_v c9
  have EX9 := Exa.start ev9 c9
  obtain ⟨ck10, ev10⟩ := exa_v c10
  have EX10 := Exa.start ev10 c10
  obtain ⟨ck11, ev11⟩ := exa_v c11
  have EX11 := Exa.start ev11 c11
  obtain ⟨ck12, ev12⟩ := exa_v c12
  have EX12 := Exa.start ev12 c12
  obtain ⟨ck13, ev13⟩ := exa_v c13
  have EX13 := Exa.start ev13 c13
  obtain ⟨ck14, ev14⟩ := exa_v c14
  have EX14 := Exa.start ev14 c14
  obtain ⟨ck15, ev15⟩ := exa_v c15
  have EX15 := Exa.start ev15 c15
  obtain ⟨ck16, ev16⟩ := exa_v c16
  have EX16 := Exa.start ev16 c16
  have FO0 := own_fldI ev0 c17
  have FV0 := own_fldN ev0 c18
  have FK0 := own_fldN ev0 c19
  have FO3 := own_fldI ev3 c20
  have FV3 := own_fldN ev3 c21
  have FK3 := own_fldN ev3 c22
  have FO8 := own_fldI ev8 c23
  obtain ⟨dv8, FV8⟩ := own_fldE ev8 c24
  have FO9 := own_fldI ev9 c25
  obtain ⟨dv9, FV9⟩ := own_fldE ev9 c26
  have FO6 := own_fldI ev6 c27
  obtain ⟨dv6, FV6⟩ := own_fldE ev6 c28
  have FO7 := own_fldI ev7 c29
  obtain ⟨dv7, FV7⟩ := own_fldE ev7 c30
  have FO2 := own_fldI ev2 c31
  have FV2 := own_fldN ev2 c32
  have FK2 := own_fldN ev2 c33
  have FO11 := own_fldI ev11 c34
  have FV11 := own_fldN ev11 c35
  have FK11 := own_fldS ev11 ev3 c36
  have FO1 := own_fldI ev1 c37
  have FV1 := own_fldN ev1 c38
  have FK1 := own_fldN ev1 c39
  have FO13 := own_fldI ev13 c40
  have FO4 := own_fldI ev4 c41
  obtain ⟨dv4, FV4⟩ := own_fldE ev4 c42
  have FO10 := own_fldI ev10 c43
  have FV10 := own_fldN ev10 c44
  have FK10 := own_fldS ev10 ev2 c45
  have FO16 := own_fldI ev16 c46
  obtain ⟨dv16, FV16⟩ := own_fldE ev16 c47
  have FO15 := own_fldI ev15 c48
  obtain ⟨dv15, FV15⟩ := own_fldE ev15 c49
  have FO5 := own_fldI ev5 c50
  obtain ⟨dv5, FV5⟩ := own_fldE ev5 c51
  have FO14 := own_fldI ev14 c52
  obtain ⟨dv14, FV14⟩ := own_fldE ev14 c53
  have FO12 := own_fldI ev12 c54
  have FK4 := own_fldN ev4 c55
  have FK5 := own_fldN ev5 c56
  have FK6 := own_fldN ev6 c57
  have FK7 := own_fldN ev7 c58
  have FK8 := own_fldN ev8 c59
  have FK9 := own_fldN ev9 c60
  have FV12 := own_fldN ev12 c61
  have FK12 := own_fldN ev12 c62
  have FV13 := own_fldN ev13 c63
  have FK13 := own_fldN ev13 c64
  have FK14 := own_fldN ev14 c65
  have FK15 := own_fldN ev15 c66
  have FK16 := own_fldN ev16 r66
  have SB0 : Sta s s.heap "com/example/anchorwatch/anchorwatch/config/ConfigKey" "CLUSTER" "Lcom/example/anchorwatch/anchorwatch/config/ConfigKey;" (.ref ck0) := Sta.start ev0 (Or.inr ⟨(hw _ (List.mem_of_getElem? (i := 3) rfl)), (hw _ (List.mem_of_getElem? (i := 4) rfl))⟩)
  have SB1 : Sta s s.heap "com/example/anchorwatch/anchorwatch/config/ConfigKey" "NODES" "Lcom/example/anchorwatch/anchorwatch/config/ConfigKey;" (.ref ck1) := Sta.start ev1 (Or.inr ⟨(hw _ (List.mem_of_getElem? (i := 3) rfl)), (hw _ (List.mem_of_getElem? (i := 7) rfl))⟩)
  have SB2 : Sta s s.heap "com/example/anchorwatch/anchorwatch/config/ConfigKey" "USER" "Lcom/example/anchorwatch/anchorwatch/config/ConfigKey;" (.ref ck2) := Sta.start ev2 (Or.inr ⟨(hw _ (List.mem_of_getElem? (i := 3) rfl)), (hw _ (List.mem_of_getElem? (i := 9) rfl))⟩)
  have SB3 : Sta s s.heap "com/example/anchorwatch/anchorwatch/config/ConfigKey" "PASSWORD" "Lcom/example/anchorwatch/anchorwatch/config/ConfigKey;" (.ref ck3) := Sta.start ev3 (Or.inr ⟨(hw _ (List.mem_of_getElem? (i := 3) rfl)), (hw _ (List.mem_of_getElem? (i := 11) rfl))⟩)
  have SB4 : Sta s s.heap "com/example/anchorwatch/anchorwatch/config/ConfigKey" "CONNECT_TIMEOUT_MS" "Lcom/example/anchorwatch/anchorwatch/config/ConfigKey;" (.ref ck4) := Sta.start ev4 (Or.inr ⟨(hw _ (List.mem_of_getElem? (i := 3) rfl)), (hw _ (List.mem_of_getElem? (i := 13) rfl))⟩)
  have SB5 : Sta s s.heap "com/example/anchorwatch/anchorwatch/config/ConfigKey" "HEARTBEAT_INTERVAL_MS" "Lcom/example/anchorwatch/anchorwatch/config/ConfigKey;" (.ref ck5) := Sta.start ev5 (Or.inr ⟨(hw _ (List.mem_of_getElem? (i := 3) rfl)), (hw _ (List.mem_of_getElem? (i := 15) rfl))⟩)
  have SB6 : Sta s s.heap "com/example/anchorwatch/anchorwatch/config/ConfigKey" "HEARTBEAT_MISSES" "Lcom/example/anchorwatch/anchorwatch/config/ConfigKey;" (.ref ck6) := Sta.start ev6 (Or.inr ⟨(hw _ (List.mem_of_getElem? (i := 3) rfl)), (hw _ (List.mem_of_getElem? (i := 17) rfl))⟩)
  have SB7 : Sta s s.heap "com/example/anchorwatch/anchorwatch/config/ConfigKey" "PROMOTION_APPLY_TIMEOUT_MS" "Lcom/example/anchorwatch/anchorwatch/config/ConfigKey;" (.ref ck7) := Sta.start ev7 (Or.inr ⟨(hw _ (List.mem_of_getElem? (i := 3) rfl)), (hw _ (List.mem_of_getElem? (i := 19) rfl))⟩)
  have SB8 : Sta s s.heap "com/example/anchorwatch/anchorwatch/config/ConfigKey" "FAILOVER_MIN_REPLICAS" "Lcom/example/anchorwatch/anchorwatch/config/ConfigKey;" (.ref ck8) := Sta.start ev8 (Or.inr ⟨(hw _ (List.mem_of_getElem? (i := 3) rfl)), (hw _ (List.mem_of_getElem? (i := 21) rfl))⟩)
  have SB9 : Sta s s.heap "com/example/anchorwatch/anchorwatch/config/ConfigKey" "FAILOVER_MIN_INTERVAL_MS" "Lcom/example/anchorwatch/anchorwatch/config/ConfigKey;" (.ref ck9) := Sta.start ev9 (Or.inr ⟨(hw _ (List.mem_of_getElem? (i := 3) rfl)), (hw _ (List.mem_of_getElem? (i := 23) rfl))⟩)
  have SB10 : Sta s s.heap "com/example/anchorwatch/anchorwatch/config/ConfigKey" "REPLICATION_USER" "Lcom/example/anchorwatch/anchorwatch/config/ConfigKey;" (.ref ck10) := Sta.start ev10 (Or.inr ⟨(hw _ (List.mem_of_getElem? (i := 3) rfl)), (hw _ (List.mem_of_getElem? (i := 25) rfl))⟩)
  have SB11 : Sta s s.heap "com/example/anchorwatch/anchorwatch/config/ConfigKey" "REPLICATION_PASSWORD" "Lcom/example/anchorwatch/anchorwatch/config/ConfigKey;" (.ref ck11) := Sta.start ev11 (Or.inr ⟨(hw _ (List.mem_of_getElem? (i := 3) rfl)), (hw _ (List.mem_of_getElem? (i := 27) rfl))⟩)
  have SB12 : Sta s s.heap "com/example/anchorwatch/anchorwatch/config/ConfigKey" "ROUTER_WRITE" "Lcom/example/anchorwatch/anchorwatch/config/ConfigKey;" (.ref ck12) := Sta.start ev12 (Or.inr ⟨(hw _ (List.mem_of_getElem? (i := 3) rfl)), (hw _ (List.mem_of_getElem? (i := 29) rfl))⟩)
  have SB13 : Sta s s.heap "com/example/anchorwatch/anchorwatch/config/ConfigKey" "ROUTER_READ" "Lcom/example/anchorwatch/anchorwatch/config/ConfigKey;" (.ref ck13) := Sta.start ev13 (Or.inr ⟨(hw _ (List.mem_of_getElem? (i := 3) rfl)), (hw _ (List.mem_of_getElem? (i := 31) rfl))⟩)
  have SB14 : Sta s s.heap "com/example/anchorwatch/anchorwatch/config/ConfigKey" "ROUTER_HOLD_MS" "Lcom/example/anchorwatch/anchorwatch/config/ConfigKey;" (.ref ck14) := Sta.start ev14 (Or.inr ⟨(hw _ (List.mem_of_getElem? (i := 3) rfl)), (hw _ (List.mem_of_getElem? (i := 33) rfl))⟩)
  have SB15 : Sta s s.heap "com/example/anchorwatch/anchorwatch/config/ConfigKey" "ADMIN_ADDRESS" "Lcom/example/anchorwatch/anchorwatch/config/ConfigKey;" (.ref ck15) := Sta.start ev15 (Or.inr ⟨(hw _ (List.mem_of_getElem? (i := 3) rfl)), (hw _ (List.mem_of_getElem? (i := 35) rfl))⟩)
  have SB16 : Sta s s.heap "com/example/anchorwatch/anchorwatch/config/ConfigKey" "SWITCHOVER_DRAIN_MS" "Lcom/example/anchorwatch/anchorwatch/config/ConfigKey;" (.ref ck16) := Sta.start ev16 (Or.inr ⟨(hw _ (List.mem_of_getElem? (i := 3) rfl)), (hw _ (List.mem_of_getElem? (i := 37) rfl))⟩)
  obtain ⟨n, o, h1, h2, h3, _, L, rfl, ⟨rfl, N⟩, hq⟩ := rm0 l s _ hw tables_1 i0 ck0 ck1 ck2 ck3 ck4 ck5 ck6 ck7 ck8 ck9 ck10 ck11 ck12 ck13 ck14 ck15 ck16 dv4 dv5 dv6 dv7 dv8 dv9 dv14 dv15 dv16 s.heap s.heap.size (Nat.le_refl _) (Old.start s) SB0 ⟨EX0, FO0, FV0, FK0⟩ SB1 ⟨EX1, FO1, FV1, FK1⟩ SB2 ⟨EX2, FO2, FV2, FK2⟩ SB3 ⟨EX3, FO3, FV3, FK3⟩ SB4 ⟨EX4, FO4, FV4, FK4⟩ SB5 ⟨EX5, FO5, FV5, FK5⟩ SB6 ⟨EX6, FO6, FV6, FK6⟩ SB7 ⟨EX7, FO7, FV7, FK7⟩ SB8 ⟨EX8, FO8, FV8, FK8⟩ SB9 ⟨EX9, FO9, FV9, FK9⟩ SB10 ⟨EX10, FO10, FV10, FK10⟩ SB11 ⟨EX11, FO11, FV11, FK11⟩ SB12 ⟨EX12, FO12, FV12, FK12⟩ SB13 ⟨EX13, FO13, FV13, FK13⟩ SB14 ⟨EX14, FO14, FV14, FK14⟩ SB15 ⟨EX15, FO15, FV15, FK15⟩ SB16 ⟨EX16, FO16, FV16, FK16⟩ p e ha hc hk s m _ below hf ((Spec.applies_iff_loose hf).mp happ).1 ⟨rfl, State.Warmed39.refl s, rfl⟩ trivial
  refine ⟨n, _, h1, h2, h3, hpost _ _ _ _ _ _ ⟨Cond.after_iff.mpr rfl, Cond.after_iff.mpr (eq_i res_at (Term.int_eval (1)) rfl), trivial⟩ ⟨hq.1, hq.2.1, (hq.2.2.sift fun y hy => Or.inr (N y hy)).mono (by decide) (by decide)⟩⟩
theorem main_1_1 : Claimed_1_1 := comes_1 fun _ _ _ _ _ _ h hF => ⟨h.1, hF⟩
theorem main_1_2 : Claimed_1_2 := comes_1 fun _ _ _ _ _ _ h hF => ⟨h.2.1, hF⟩
end Jvm.Pilot.@@N@@
namespace Jvm.Pilot.@@N@@
open Jvm Jvm.ClassFile Sem Op Lib Jvm.Free Jvm.Stand Jvm.Pilot.@@N@@.Jvm.D
/-! MADE BY PROGRAM (witnessworld.py) out of the Statement's table words and the real class files: 16 classes; the members and pool entries that the words name. The judged class is class 1, her method 1. -/
namespace start1
open Jvm.ClassFile
def u (s : String) : CpInfo := .utf8 (stringToUtf16 s)
/-- a pool by its gaps: so many unusable entries, then the entry; so many at the end -/
def gap : Nat → List CpInfo → List CpInfo
  | 0, r => r
  | n + 1, r => .unusable :: gap n r
def poolList (es : List (Nat × CpInfo)) (last : Nat) : List CpInfo := es.foldr (fun e r => gap e.1 (e.2 :: r)) (gap last [])
def pool (es : List (Nat × CpInfo)) (last : Nat) : Array CpInfo := ⟨poolList es last⟩
def fileOf (pool : Array CpInfo) (this : Nat) (attrs : Array Attribute := #[]) (ms : Array MethodInfo := #[]) (fl : Nat := 33) (sup : Nat := 0) (ifs : Array Nat := #[]) (fds : Array FieldInfo := #[]) : ClassFile where
  minorVersion := 0
  majorVersion := 65
  constantPool := pool
  accessFlags := fl
  thisClass := this
  superClass := sup
  interfaces := ifs
  fields := fds
  methods := ms
  attributes := attrs
def plain (name : String) (sup : Option ClassId) : Class where
  name := name
  kind := .ordinary
  loader := none
  accessFlags := 33
  super := sup
  interfaces := #[]
  cf := none
  fields := #[]
  methods := #[]
  instanceTypes := #[]
  staticTypes := #[]
  resolved := #[]
  callSites := []
  init := .initialized
  statics := none
  mirror := none

def pool0 : Array CpInfo := pool [(5, u "<init>"), (0, u "()V"), (1, .class_ 10), (1, u "java/lang/Object")] 113

def k0m0 : Method := { name := "<init>", desc := "()V", sig := { parameters := [], returnType := none }, accessFlags := 1, code := none }
/-- java/lang/Object -/
def k0 : Class := { plain "java/lang/Object" none with
  accessFlags := 33
  interfaces := #[]
  cf := some (fileOf pool0 8 #[] #[{ accessFlags := 1, nameIndex := 5, descriptorIndex := 6, attributes := #[] }] 33 0 #[] #[])
  fields := #[]
  methods := #[k0m0]
  instanceTypes := #[]
  staticTypes := #[]
  resolved := Array.replicate 124 none
  statics := none }

def pool1 : Array CpInfo := pool [(2, .class_ 4), (1, u "java/lang/Object"), (0, u "<init>"), (0, u "()V"), (0, .class_ 8), (0, u "com/example/anchorwatch/anchorwatch/config/ConfigKey"), (0, .fieldref 7 10), (0, .nameAndType 11 12), (0, u "CLUSTER"), (0, u "Lcom/example/anchorwatch/anchorwatch/config/ConfigKey;"), (0, .fieldref 7 14), (0, .nameAndType 15 12), (0, u "NODES"), (0, .fieldref 7 17), (0, .nameAndType 18 12), (0, u "USER"), (0, .fieldref 7 20), (0, .nameAndType 21 12), (0, u "PASSWORD"), (0, .fieldref 7 23), (0, .nameAndType 24 12), (0, u "CONNECT_TIMEOUT_MS"), (0, .fieldref 7 26), (0, .nameAndType 27 12), (0, u "HEARTBEAT_INTERVAL_MS"), (0, .fieldref 7 29), (0, .nameAndType 30 12), (0, u "HEARTBEAT_MISSES"), (0, .fieldref 7 32), (0, .nameAndType 33 12), (0, u "PROMOTION_APPLY_TIMEOUT_MS"), (0, .fieldref 7 35), (0, .nameAndType 36 12), (0, u "FAILOVER_MIN_REPLICAS"), (0, .fieldref 7 38), (0, .nameAndType 39 12), (0, u "FAILOVER_MIN_INTERVAL_MS"), (0, .fieldref 7 41), (0, .nameAndType 42 12), (0, u "REPLICATION_USER"), (0, .fieldref 7 44), (0, .nameAndType 45 12), (0, u "REPLICATION_PASSWORD"), (0, .fieldref 7 47), (0, .nameAndType 48 12), (0, u "ROUTER_WRITE"), (0, .fieldref 7 50), (0, .nameAndType 51 12), (0, u "ROUTER_READ"), (0, .fieldref 7 53), (0, .nameAndType 54 12), (0, u "ROUTER_HOLD_MS"), (0, .fieldref 7 56), (0, .nameAndType 57 12), (0, u "ADMIN_ADDRESS"), (0, .fieldref 7 59), (0, .nameAndType 60 12), (0, u "SWITCHOVER_DRAIN_MS"), (0, .integer 2147483647), (0, .methodref 7 63), (0, .nameAndType 64 65), (0, u "required"), (0, u "()Z"), (0, .class_ 67), (0, u "com/example/anchorwatch/anchorwatch/config/ConfigKeyRequiredPinLaw"), (2, u "law"), (0, u "(I)Z")] 5

def k1m0 : Method := { name := "<init>", desc := "()V", sig := { parameters := [], returnType := none }, accessFlags := 1, code := none }
def k1c1 : Code := { maxStack := 4, maxLocals := 4, code := code, exceptionTable := #[], attributes := #[] }
def k1m1 : Method := { name := "law", desc := "(I)Z", sig := { parameters := [.int], returnType := some .boolean }, accessFlags := 9, code := some k1c1 }
/-- com/example/anchorwatch/anchorwatch/config/ConfigKeyRequiredPinLaw -/
def k1 : Class := { plain "com/example/anchorwatch/anchorwatch/config/ConfigKeyRequiredPinLaw" (some 0) with
  accessFlags := 49
  interfaces := #[]
  cf := some (fileOf pool1 66 #[] #[{ accessFlags := 1, nameIndex := 5, descriptorIndex := 6, attributes := #[] }, { accessFlags := 9, nameIndex := 70, descriptorIndex := 71, attributes := #[] }] 49 2 #[] #[])
  fields := #[]
  methods := #[k1m0, k1m1]
  instanceTypes := #[]
  staticTypes := #[]
  resolved := Array.replicate 77 none
  statics := none }

def pool2 : Array CpInfo := pool [(1, .class_ 2), (0, u "java/lang/constant/Constable"), (0, .class_ 4), (0, u "java/lang/Object")] 6

/-- java/lang/constant/Constable -/
def k2 : Class := { plain "java/lang/constant/Constable" (some 0) with
  accessFlags := 1537
  interfaces := #[]
  cf := some (fileOf pool2 1 #[] #[] 1537 3 #[] #[])
  fields := #[]
  methods := #[]
  instanceTypes := #[]
  staticTypes := #[]
  resolved := Array.replicate 11 none
  statics := none }

def pool3 : Array CpInfo := pool [(1, .class_ 2), (0, u "java/lang/Comparable"), (0, .class_ 4), (0, u "java/lang/Object")] 7

/-- java/lang/Comparable -/
def k3 : Class := { plain "java/lang/Comparable" (some 0) with
  accessFlags := 1537
  interfaces := #[]
  cf := some (fileOf pool3 1 #[] #[] 1537 3 #[] #[])
  fields := #[]
  methods := #[]
  instanceTypes := #[]
  staticTypes := #[]
  resolved := Array.replicate 12 none
  statics := none }

def pool4 : Array CpInfo := pool [(1, .class_ 2), (0, u "java/io/Serializable"), (0, .class_ 4), (0, u "java/lang/Object")] 2

/-- java/io/Serializable -/
def k4 : Class := { plain "java/io/Serializable" (some 0) with
  accessFlags := 1537
  interfaces := #[]
  cf := some (fileOf pool4 1 #[] #[] 1537 3 #[] #[])
  fields := #[]
  methods := #[]
  instanceTypes := #[]
  staticTypes := #[]
  resolved := Array.replicate 7 none
  statics := none }

def pool5 : Array CpInfo := pool [(2, .class_ 4), (1, u "java/lang/Enum"), (0, u "name"), (0, u "Ljava/lang/String;"), (2, u "ordinal"), (0, u "I"), (1, .class_ 14), (1, u "java/lang/Object"), (4, u "hash"), (86, .class_ 108), (1, u "java/lang/Enum$EnumDesc"), (2, .class_ 112), (0, u "java/lang/constant/Constable"), (0, .class_ 114), (0, u "java/lang/Comparable"), (0, .class_ 116), (0, u "java/io/Serializable")] 87

/-- java/lang/Enum -/
def k5 : Class := { plain "java/lang/Enum" (some 0) with
  accessFlags := 1057
  interfaces := #[2, 3, 4]
  cf := some (fileOf pool5 2 #[.nestMembers #[106]] #[] 1057 12 #[111, 113, 115] #[{ accessFlags := 18, nameIndex := 5, descriptorIndex := 6, attributes := #[] }, { accessFlags := 18, nameIndex := 9, descriptorIndex := 10, attributes := #[] }, { accessFlags := 2, nameIndex := 19, descriptorIndex := 10, attributes := #[] }])
  fields := #[{ name := "name", type := (.object "java/lang/String"), accessFlags := 18, slot := 0, constantValue := 0 }, { name := "ordinal", type := .int, accessFlags := 18, slot := 1, constantValue := 0 }, { name := "hash", type := .int, accessFlags := 2, slot := 2, constantValue := 0 }]
  methods := #[]
  instanceTypes := #[(.object "java/lang/String"), .int, .int]
  staticTypes := #[]
  resolved := Array.replicate 204 none
  statics := none }

def pool6 : Array CpInfo := pool [(1, .class_ 2), (0, u "com/example/anchorwatch/anchorwatch/config/ConfigKey"), (2, u "CLUSTER"), (0, u "Lcom/example/anchorwatch/anchorwatch/config/ConfigKey;"), (2, u "NODES"), (2, u "USER"), (2, u "PASSWORD"), (2, u "CONNECT_TIMEOUT_MS"), (2, u "HEARTBEAT_INTERVAL_MS"), (2, u "HEARTBEAT_MISSES"), (2, u "PROMOTION_APPLY_TIMEOUT_MS"), (2, u "FAILOVER_MIN_REPLICAS"), (2, u "FAILOVER_MIN_INTERVAL_MS"), (2, u "REPLICATION_USER"), (2, u "REPLICATION_PASSWORD"), (2, u "ROUTER_WRITE"), (2, u "ROUTER_READ"), (2, u "ROUTER_HOLD_MS"), (2, u "ADMIN_ADDRESS"), (2, u "SWITCHOVER_DRAIN_MS"), (2, u "$VALUES"), (0, u "[Lcom/example/anchorwatch/anchorwatch/config/ConfigKey;"), (6, .class_ 67), (1, u "java/lang/Enum"), (11, u "key"), (0, u "Ljava/lang/String;"), (0, .fieldref 1 82), (0, .nameAndType 83 80), (0, u "defaultValue"), (0, .fieldref 1 85), (0, .nameAndType 86 6), (0, u "defaultKey"), (0, .fieldref 1 88), (0, .nameAndType 89 90), (0, u "optional"), (0, u "Z"), (112, u "required"), (0, u "()Z")] 9

def k6c0 : Code := { maxStack := 1, maxLocals := 1, code := prog_5_method_9_code, exceptionTable := #[], attributes := #[] }
def k6m0 : Method := { name := "required", desc := "()Z", sig := { parameters := [], returnType := some .boolean }, accessFlags := 1, code := some k6c0 }
/-- com/example/anchorwatch/anchorwatch/config/ConfigKey -/
def k6 : Class := { plain "com/example/anchorwatch/anchorwatch/config/ConfigKey" (some 5) with
  accessFlags := 16433
  interfaces := #[]
  cf := some (fileOf pool6 1 #[] #[{ accessFlags := 1, nameIndex := 203, descriptorIndex := 204, attributes := #[] }] 16433 65 #[] #[{ accessFlags := 16409, nameIndex := 5, descriptorIndex := 6, attributes := #[] }, { accessFlags := 16409, nameIndex := 9, descriptorIndex := 6, attributes := #[] }, { accessFlags := 16409, nameIndex := 12, descriptorIndex := 6, attributes := #[] }, { accessFlags := 16409, nameIndex := 15, descriptorIndex := 6, attributes := #[] }, { accessFlags := 16409, nameIndex := 18, descriptorIndex := 6, attributes := #[] }, { accessFlags := 16409, nameIndex := 21, descriptorIndex := 6, attributes := #[] }, { accessFlags := 16409, nameIndex := 24, descriptorIndex := 6, attributes := #[] }, { accessFlags := 16409, nameIndex := 27, descriptorIndex := 6, attributes := #[] }, { accessFlags := 16409, nameIndex := 30, descriptorIndex := 6, attributes := #[] }, { accessFlags := 16409, nameIndex := 33, descriptorIndex := 6, attributes := #[] }, { accessFlags := 16409, nameIndex := 36, descriptorIndex := 6, attributes := #[] }, { accessFlags := 16409, nameIndex := 39, descriptorIndex := 6, attributes := #[] }, { accessFlags := 16409, nameIndex := 42, descriptorIndex := 6, attributes := #[] }, { accessFlags := 16409, nameIndex := 45, descriptorIndex := 6, attributes := #[] }, { accessFlags := 16409, nameIndex := 48, descriptorIndex := 6, attributes := #[] }, { accessFlags := 16409, nameIndex := 51, descriptorIndex := 6, attributes := #[] }, { accessFlags := 16409, nameIndex := 54, descriptorIndex := 6, attributes := #[] }, { accessFlags := 18, nameIndex := 79, descriptorIndex := 80, attributes := #[] }, { accessFlags := 18, nameIndex := 83, descriptorIndex := 80, attributes := #[] }, { accessFlags := 18, nameIndex := 86, descriptorIndex := 6, attributes := #[] }, { accessFlags := 18, nameIndex := 89, descriptorIndex := 90, attributes := #[] }, { accessFlags := 4122, nameIndex := 57, descriptorIndex := 58, attributes := #[] }])
  fields := #[{ name := "CLUSTER", type := (.object "com/example/anchorwatch/anchorwatch/config/ConfigKey"), accessFlags := 16409, slot := 0, constantValue := 0 }, { name := "NODES", type := (.object "com/example/anchorwatch/anchorwatch/config/ConfigKey"), accessFlags := 16409, slot := 1, constantValue := 0 }, { name := "USER", type := (.object "com/example/anchorwatch/anchorwatch/config/ConfigKey"), accessFlags := 16409, slot := 2, constantValue := 0 }, { name := "PASSWORD", type := (.object "com/example/anchorwatch/anchorwatch/config/ConfigKey"), accessFlags := 16409, slot := 3, constantValue := 0 }, { name := "CONNECT_TIMEOUT_MS", type := (.object "com/example/anchorwatch/anchorwatch/config/ConfigKey"), accessFlags := 16409, slot := 4, constantValue := 0 }, { name := "HEARTBEAT_INTERVAL_MS", type := (.object "com/example/anchorwatch/anchorwatch/config/ConfigKey"), accessFlags := 16409, slot := 5, constantValue := 0 }, { name := "HEARTBEAT_MISSES", type := (.object "com/example/anchorwatch/anchorwatch/config/ConfigKey"), accessFlags := 16409, slot := 6, constantValue := 0 }, { name := "PROMOTION_APPLY_TIMEOUT_MS", type := (.object "com/example/anchorwatch/anchorwatch/config/ConfigKey"), accessFlags := 16409, slot := 7, constantValue := 0 }, { name := "FAILOVER_MIN_REPLICAS", type := (.object "com/example/anchorwatch/anchorwatch/config/ConfigKey"), accessFlags := 16409, slot := 8, constantValue := 0 }, { name := "FAILOVER_MIN_INTERVAL_MS", type := (.object "com/example/anchorwatch/anchorwatch/config/ConfigKey"), accessFlags := 16409, slot := 9, constantValue := 0 }, { name := "REPLICATION_USER", type := (.object "com/example/anchorwatch/anchorwatch/config/ConfigKey"), accessFlags := 16409, slot := 10, constantValue := 0 }, { name := "REPLICATION_PASSWORD", type := (.object "com/example/anchorwatch/anchorwatch/config/ConfigKey"), accessFlags := 16409, slot := 11, constantValue := 0 }, { name := "ROUTER_WRITE", type := (.object "com/example/anchorwatch/anchorwatch/config/ConfigKey"), accessFlags := 16409, slot := 12, constantValue := 0 }, { name := "ROUTER_READ", type := (.object "com/example/anchorwatch/anchorwatch/config/ConfigKey"), accessFlags := 16409, slot := 13, constantValue := 0 }, { name := "ROUTER_HOLD_MS", type := (.object "com/example/anchorwatch/anchorwatch/config/ConfigKey"), accessFlags := 16409, slot := 14, constantValue := 0 }, { name := "ADMIN_ADDRESS", type := (.object "com/example/anchorwatch/anchorwatch/config/ConfigKey"), accessFlags := 16409, slot := 15, constantValue := 0 }, { name := "SWITCHOVER_DRAIN_MS", type := (.object "com/example/anchorwatch/anchorwatch/config/ConfigKey"), accessFlags := 16409, slot := 16, constantValue := 0 }, { name := "key", type := (.object "java/lang/String"), accessFlags := 18, slot := 3, constantValue := 0 }, { name := "defaultValue", type := (.object "java/lang/String"), accessFlags := 18, slot := 4, constantValue := 0 }, { name := "defaultKey", type := (.object "com/example/anchorwatch/anchorwatch/config/ConfigKey"), accessFlags := 18, slot := 5, constantValue := 0 }, { name := "optional", type := .boolean, accessFlags := 18, slot := 6, constantValue := 0 }, { name := "$VALUES", type := (.array (.object "com/example/anchorwatch/anchorwatch/config/ConfigKey")), accessFlags := 4122, slot := 17, constantValue := 0 }]
  methods := #[k6m0]
  instanceTypes := #[(.object "java/lang/String"), .int, .int, (.object "java/lang/String"), (.object "java/lang/String"), (.object "com/example/anchorwatch/anchorwatch/config/ConfigKey"), .boolean]
  staticTypes := #[(.object "com/example/anchorwatch/anchorwatch/config/ConfigKey"), (.object "com/example/anchorwatch/anchorwatch/config/ConfigKey"), (.object "com/example/anchorwatch/anchorwatch/config/ConfigKey"), (.object "com/example/anchorwatch/anchorwatch/config/ConfigKey"), (.object "com/example/anchorwatch/anchorwatch/config/ConfigKey"), (.object "com/example/anchorwatch/anchorwatch/config/ConfigKey"), (.object "com/example/anchorwatch/anchorwatch/config/ConfigKey"), (.object "com/example/anchorwatch/anchorwatch/config/ConfigKey"), (.object "com/example/anchorwatch/anchorwatch/config/ConfigKey"), (.object "com/example/anchorwatch/anchorwatch/config/ConfigKey"), (.object "com/example/anchorwatch/anchorwatch/config/ConfigKey"), (.object "com/example/anchorwatch/anchorwatch/config/ConfigKey"), (.object "com/example/anchorwatch/anchorwatch/config/ConfigKey"), (.object "com/example/anchorwatch/anchorwatch/config/ConfigKey"), (.object "com/example/anchorwatch/anchorwatch/config/ConfigKey"), (.object "com/example/anchorwatch/anchorwatch/config/ConfigKey"), (.object "com/example/anchorwatch/anchorwatch/config/ConfigKey"), (.array (.object "com/example/anchorwatch/anchorwatch/config/ConfigKey"))]
  resolved := Array.replicate 214 none
  statics := some 0 }

def pool7 : Array CpInfo := pool [(2, .class_ 4), (1, u "java/lang/CharSequence"), (42, .class_ 48), (0, u "java/lang/CharSequence$1CodePointIterator"), (10, .class_ 60), (0, u "java/lang/CharSequence$1CharIterator"), (5, .class_ 67), (0, u "java/lang/Object")] 63

/-- java/lang/CharSequence -/
def k7 : Class := { plain "java/lang/CharSequence" (some 0) with
  accessFlags := 1537
  interfaces := #[]
  cf := some (fileOf pool7 2 #[.nestMembers #[47, 59]] #[] 1537 66 #[] #[])
  fields := #[]
  methods := #[]
  instanceTypes := #[]
  staticTypes := #[]
  resolved := Array.replicate 131 none
  statics := none }

def pool8 : Array CpInfo := pool [(1, .class_ 2), (0, u "java/lang/constant/ConstantDesc"), (0, .class_ 4), (0, u "java/lang/Object")] 32

/-- java/lang/constant/ConstantDesc -/
def k8 : Class := { plain "java/lang/constant/ConstantDesc" (some 0) with
  accessFlags := 1537
  interfaces := #[]
  cf := some (fileOf pool8 1 #[] #[] 1537 3 #[] #[])
  fields := #[]
  methods := #[]
  instanceTypes := #[]
  staticTypes := #[]
  resolved := Array.replicate 37 none
  statics := none }

def pool9 : Array CpInfo := pool [(2, .class_ 4), (1, u "java/lang/Object"), (0, u "<init>"), (0, u "()V"), (3, .class_ 12), (1, u "java/lang/String"), (0, u "value"), (0, u "[B"), (2, u "coder"), (0, u "B"), (2, u "hash"), (0, u "I"), (2, u "hashIsZero"), (0, u "Z"), (13, u "COMPACT_STRINGS"), (534, .class_ 576), (0, u "java/lang/CharSequence"), (22, u "CASE_INSENSITIVE_ORDER"), (0, u "Ljava/util/Comparator;"), (500, u "serialPersistentFields"), (0, u "[Ljava/io/ObjectStreamField;"), (0, .class_ 1104), (0, u "java/lang/String$CaseInsensitiveComparator"), (1, .class_ 1107), (0, u "java/io/Serializable"), (0, .class_ 1109), (0, u "java/lang/Comparable"), (0, .class_ 1111), (0, u "java/lang/constant/Constable"), (0, .class_ 1113), (0, u "java/lang/constant/ConstantDesc"), (2, u "serialVersionUID"), (0, u "J"), (3, u "REPL"), (0, u "C"), (2, u "LATIN1"), (1, u "UTF16")] 323

def k9m0 : Method := { name := "<init>", desc := "()V", sig := { parameters := [], returnType := none }, accessFlags := 1, code := none }
/-- java/lang/String -/
def k9 : Class := { plain "java/lang/String" (some 0) with
  accessFlags := 49
  interfaces := #[4, 3, 7, 2, 8]
  cf := some (fileOf pool9 10 #[.nestMembers #[1103]] #[{ accessFlags := 1, nameIndex := 5, descriptorIndex := 6, attributes := #[] }] 49 2 #[1106, 1108, 575, 1110, 1112] #[{ accessFlags := 18, nameIndex := 13, descriptorIndex := 14, attributes := #[] }, { accessFlags := 18, nameIndex := 17, descriptorIndex := 18, attributes := #[] }, { accessFlags := 2, nameIndex := 21, descriptorIndex := 22, attributes := #[] }, { accessFlags := 2, nameIndex := 25, descriptorIndex := 26, attributes := #[] }, { accessFlags := 26, nameIndex := 1116, descriptorIndex := 1117, attributes := #[] }, { accessFlags := 24, nameIndex := 40, descriptorIndex := 26, attributes := #[] }, { accessFlags := 26, nameIndex := 1101, descriptorIndex := 1102, attributes := #[] }, { accessFlags := 26, nameIndex := 1121, descriptorIndex := 1122, attributes := #[] }, { accessFlags := 25, nameIndex := 599, descriptorIndex := 600, attributes := #[] }, { accessFlags := 24, nameIndex := 1125, descriptorIndex := 18, attributes := #[] }, { accessFlags := 24, nameIndex := 1127, descriptorIndex := 18, attributes := #[] }])
  fields := #[{ name := "value", type := (.array .byte), accessFlags := 18, slot := 0, constantValue := 0 }, { name := "coder", type := .byte, accessFlags := 18, slot := 1, constantValue := 0 }, { name := "hash", type := .int, accessFlags := 2, slot := 2, constantValue := 0 }, { name := "hashIsZero", type := .boolean, accessFlags := 2, slot := 3, constantValue := 0 }, { name := "serialVersionUID", type := .long, accessFlags := 26, slot := 0, constantValue := 0 }, { name := "COMPACT_STRINGS", type := .boolean, accessFlags := 24, slot := 1, constantValue := 0 }, { name := "serialPersistentFields", type := (.array (.object "java/io/ObjectStreamField")), accessFlags := 26, slot := 2, constantValue := 0 }, { name := "REPL", type := .char, accessFlags := 26, slot := 3, constantValue := 0 }, { name := "CASE_INSENSITIVE_ORDER", type := (.object "java/util/Comparator"), accessFlags := 25, slot := 4, constantValue := 0 }, { name := "LATIN1", type := .byte, accessFlags := 24, slot := 5, constantValue := 0 }, { name := "UTF16", type := .byte, accessFlags := 24, slot := 6, constantValue := 0 }]
  methods := #[k9m0]
  instanceTypes := #[(.array .byte), .byte, .int, .boolean]
  staticTypes := #[.long, .boolean, (.array (.object "java/io/ObjectStreamField")), .char, (.object "java/util/Comparator"), .byte, .byte]
  resolved := Array.replicate 1451 none
  statics := none }

def pool10 : Array CpInfo := pool [(1, u "java/lang/Cloneable"), (0, .class_ 1), (0, u "java/lang/Object"), (0, .class_ 3)] 3

/-- java/lang/Cloneable -/
def k10 : Class := { plain "java/lang/Cloneable" (some 0) with
  accessFlags := 1537
  interfaces := #[]
  cf := some (fileOf pool10 2 #[] #[] 1537 4 #[] #[])
  fields := #[]
  methods := #[]
  instanceTypes := #[]
  staticTypes := #[]
  resolved := Array.replicate 8 none
  statics := none }

/-- the primitive byte -/
def k11 : Class := { plain "byte" none with kind := .primitive 'B', accessFlags := 0x411 }
/-- [B -/
def k12 : Class := { plain "[B" (some 0) with kind := .array 11 .byte, interfaces := #[10, 4], accessFlags := 1041 }

/-- the primitive int -/
def k13 : Class := { plain "int" none with kind := .primitive 'I', accessFlags := 0x411 }
/-- [I -/
def k14 : Class := { plain "[I" (some 0) with kind := .array 13 .int, interfaces := #[10, 4], accessFlags := 1041 }

/-- [Lcom/example/anchorwatch/anchorwatch/config/ConfigKey; -/
def k15 : Class := { plain "[Lcom/example/anchorwatch/anchorwatch/config/ConfigKey;" (some 0) with kind := .array 6 (.object "com/example/anchorwatch/anchorwatch/config/ConfigKey"), interfaces := #[10, 4], accessFlags := 1041 }

def heap : Heap := #[{ cls := 6, slots := #[.ref 2, .ref 3, .ref 4, .ref 5, .ref 6, .ref 7, .ref 8, .ref 9, .ref 10, .ref 11, .ref 12, .ref 13, .ref 14, .ref 15, .ref 16, .ref 17, .ref 18, .null], vm := .statics 6 },
  { cls := 9, slots := #[.null, .int 0, .int 0, .int 0], vm := .none },
  { cls := 6, slots := #[.null, .int 0, .int 0, .null, .null, .null, .int 0], vm := .none },
  { cls := 6, slots := #[.null, .int 1, .int 0, .null, .null, .null, .int 0], vm := .none },
  { cls := 6, slots := #[.null, .int 2, .int 0, .null, .null, .null, .int 0], vm := .none },
  { cls := 6, slots := #[.null, .int 3, .int 0, .null, .null, .null, .int 0], vm := .none },
  { cls := 6, slots := #[.null, .int 4, .int 0, .null, .ref 1, .null, .int 0], vm := .none },
  { cls := 6, slots := #[.null, .int 5, .int 0, .null, .ref 1, .null, .int 0], vm := .none },
  { cls := 6, slots := #[.null, .int 6, .int 0, .null, .ref 1, .null, .int 0], vm := .none },
  { cls := 6, slots := #[.null, .int 7, .int 0, .null, .ref 1, .null, .int 0], vm := .none },
  { cls := 6, slots := #[.null, .int 8, .int 0, .null, .ref 1, .null, .int 0], vm := .none },
  { cls := 6, slots := #[.null, .int 9, .int 0, .null, .ref 1, .null, .int 0], vm := .none },
  { cls := 6, slots := #[.null, .int 10, .int 0, .null, .null, .ref 4, .int 0], vm := .none },
  { cls := 6, slots := #[.null, .int 11, .int 0, .null, .null, .ref 5, .int 0], vm := .none },
  { cls := 6, slots := #[.null, .int 12, .int 0, .null, .null, .null, .int 1], vm := .none },
  { cls := 6, slots := #[.null, .int 13, .int 0, .null, .null, .null, .int 1], vm := .none },
  { cls := 6, slots := #[.null, .int 14, .int 0, .null, .ref 1, .null, .int 0], vm := .none },
  { cls := 6, slots := #[.null, .int 15, .int 0, .null, .ref 1, .null, .int 0], vm := .none },
  { cls := 6, slots := #[.null, .int 16, .int 0, .null, .ref 1, .null, .int 0], vm := .none }]
def classes : Array Class := #[k0, k1, k2, k3, k4, k5, k6, k7, k8, k9, k10, k11, k12, k13, k14, k15]
def interned : List (Array UInt16 × Addr) := []
def slotsUsed : Nat := 141
def theMethod : MethodId := ⟨1, 1⟩
def args0 : Array Value := #[.int 5]
def aboutOver (below : List Frame) : State where
  vm := { classes := classes, interned := interned.toArray }
  heap := heap
  slotsUsed := slotsUsed
  threads := #[{ frames := .invoking theMethod args0 :: below }]
def below0 : List Frame := [.native { method := ⟨0, 0⟩, args := #[] }]
def about1 : State := aboutOver below0
def p0 : Program := .bare "" "" ""
def e0 : Env := launch0.env 0 0 0
theorem w_frames : about1.frames = Frame.invoking theMethod args0 :: below0 := rfl
set_option maxRecDepth 65536 in
theorem w_args : argsFit about1.vm theMethod args0 = true := by decide +kernel
set_option maxRecDepth 65536 in
theorem w_heap : heapFits about1 = true := by decide +kernel
set_option maxRecDepth 65536 in
theorem w_runnable : about1.curStatus? = some .runnable := by decide +kernel
set_option maxRecDepth 65536 in
theorem w_alone : about1.alone = true := by decide +kernel
set_option maxRecDepth 65536 in
theorem w_named : about1.methodNamed? x = some theMethod := by decide +kernel
set_option maxRecDepth 65536 in
theorem w_hears : about1.hears theMethod below0 = true := by decide +kernel
set_option maxRecDepth 65536 in
theorem w_ripe : about1.ripe theMethod args0 below0 = true := by decide +kernel
theorem w_running : about1.status = .running := rfl
set_option maxRecDepth 65536 in
theorem w_room : about1.hasRoom e0.platform room_1 = true :=
  launch0.hasRoom_least _ room_1 (by decide +kernel) (by decide +kernel) (by decide +kernel) (by decide +kernel) (by decide +kernel) (by decide +kernel)
theorem allAtoms_all (ts : List Jvm.Cond) (a : Array Jvm.Value) (st : Jvm.State) : (allAtoms ts).before a st = ts.all (fun c => c.before a st) := by
  induction ts with
  | nil => rfl
  | cons c t ih =>
    show (Jvm.Cond.and c (allAtoms t)).before a st = _
    rw [Jvm.Cond.before_and, ih, List.all_cons]
def words1 : List Jvm.Cond := Jvm.Cond.code x code maxLocals ret :: tables_1
/-- a 'code' word, met by the world's own term for the bytes: nothing is compared byte by byte -/
theorem code_word {y : MethodName} {bytes : ByteArray} {mx : Nat} {rt : Option FieldType} {a : Array Value} {s : State} {m : MethodId} {meth : Method} {c : Code} (h1 : s.methodNamed? y = some m) (h2 : s.vm.method? m = some meth) (h3 : meth.code = some c) (h4 : c.code = bytes)
    (h5 : (c.maxLocals == mx && c.exceptionTable.isEmpty && decide (c.maxStack ≤ mostOperands) && decide (meth.sig.returnType = rt) && !meth.locks && decide (parseMethodDescriptor y.desc = some meth.sig)) = true) : (Jvm.Cond.code y bytes mx rt).before a s = true := by
  simp only [Bool.and_eq_true, beq_iff_eq, Bool.not_eq_true', decide_eq_true_eq] at h5
  obtain ⟨⟨⟨⟨⟨g1, g2⟩, g3⟩, g4⟩, g5⟩, g6⟩ := h5
  simp [Cond.before, Cond.holds, Cond.value, h1, h2, h3, h4, g1, g2, g3, g4, g5, g6]
def isCode : Jvm.Cond → Bool
  | .code _ _ _ _ => true
  | _ => false
theorem all_split {L : List Jvm.Cond} {P : Jvm.Cond → Bool} (h1 : L.all (fun c => isCode c || P c) = true) (h2 : ∀ c ∈ L.filter isCode, P c = true) : L.all P = true := by
  refine List.all_eq_true.mpr fun c hc => ?_
  have h := List.all_eq_true.mp h1 c hc
  rcases Bool.eq_false_or_eq_true (isCode c) with hi | hi
  · exact h2 c (List.mem_filter.mpr ⟨hc, hi⟩)
  · simpa [hi] using h
set_option maxRecDepth 65536 in
theorem w_c0 : (Jvm.Cond.code x code maxLocals ret).before args0 about1 = true := code_word (m := ⟨1, 1⟩) (meth := k1m1) (c := k1c1) (by decide +kernel) rfl rfl rfl (by decide +kernel)
set_option maxRecDepth 65536 in
theorem w_c1 : (Jvm.Cond.code ({ cls := "com/example/anchorwatch/anchorwatch/config/ConfigKey", name := "required", desc := "()Z" } : Jvm.MethodName) prog_5_method_9_code (1 : Nat) (Option.some Jvm.ClassFile.FieldType.boolean)).before args0 about1 = true := code_word (m := ⟨6, 0⟩) (meth := k6m0) (c := k6c0) (by decide +kernel) rfl rfl rfl (by decide +kernel)
def codes1 : List Jvm.Cond := [Jvm.Cond.code x code maxLocals ret, Jvm.Cond.code ({ cls := "com/example/anchorwatch/anchorwatch/config/ConfigKey", name := "required", desc := "()Z" } : Jvm.MethodName) prog_5_method_9_code (1 : Nat) (Option.some Jvm.ClassFile.FieldType.boolean)]
set_option maxRecDepth 65536 in
theorem codes_eq : words1.filter isCode = codes1 := rfl
theorem w_codes : ∀ c ∈ words1.filter isCode, c.before args0 about1 = true := by
  rw [codes_eq]
  intro c hc
  simp only [codes1, List.mem_cons, List.not_mem_nil, or_false] at hc
  rcases hc with rfl | rfl
  · exact w_c0
  · exact w_c1
set_option maxRecDepth 65536 in
theorem w_t1 : (words1.take 24).all (fun c => isCode c || c.before args0 about1) = true := by decide +kernel
set_option maxRecDepth 65536 in
theorem w_t2 : ((words1.drop 24).take 24).all (fun c => isCode c || c.before args0 about1) = true := by decide +kernel
set_option maxRecDepth 65536 in
theorem w_t3 : ((words1.drop 24).drop 24).all (fun c => isCode c || c.before args0 about1) = true := by decide +kernel
theorem w_tables : (allAtoms (Jvm.Cond.code x code maxLocals ret :: tables_1)).before args0 about1 = true := by
  rw [allAtoms_all]
  show words1.all (fun c => c.before args0 about1) = true
  refine all_split ?_ w_codes
  rw [← List.take_append_drop 24 words1, List.all_append, w_t1, ← List.take_append_drop 24 (words1.drop 24), List.all_append, w_t2, w_t3]
  rfl
set_option maxRecDepth 65536 in
theorem w_case : (Jvm.Cond.and given_1 narrow_1).before args0 about1 = true := by decide +kernel
theorem w_applies : (headSpec (Jvm.Cond.code x code maxLocals ret :: tables_1) room_1).applies x e0.platform about1 = true :=
  (Spec.applies_iff w_frames).mpr ⟨w_running, w_runnable, w_alone, w_named, w_hears, w_ripe, w_room, w_tables⟩
theorem atStart : AtStart classFile x code maxLocals ret World_1 tables_1 room_1 Calls_1 rest_1 Pre_1 launch0 p0 e0 about1 theMethod args0 below0 :=
  ⟨lists_1, trivial, launch0.admits_env _ _ _, launch0.least_env, fairChoices_fair.cas, fairChoices_fair.clock, w_frames, w_args, w_heap, w_applies, trivial, trivial, w_case⟩
end start1
theorem witness_1 : WitnessClaimed_1 := ⟨start1.p0, start1.e0, start1.about1, start1.theMethod, start1.args0, start1.below0, start1.atStart⟩
end Jvm.Pilot.@@N@@
