import JvmDerived
import JvmDerived.Pilot.@@N@@Statement
import JvmDerived.Pilot.@@N@@Code
set_option linter.unusedVariables false
set_option linter.unusedSimpArgs false
namespace Jvm.OwnKit
open Sem ClassFile Op Lib Jvm.Stand Jvm.Free Jvm.LawKit Jvm.RoadKit
section Go
variable {p : Program} {l : Launch} {e : Env} {R : Room} {s : State} {m : MethodId} {args : Array Value} {below : List Frame} {meth : Method} {c : Code} {T T' : State} {locs : List Loc} {cells slots : Nat} {g g' : JFrame} {P : Outcome → State → Prop} {Q : Option Value → Heap → List Loc → Prop} {k n pc : Nat} {Ls : Array Slot} {rest : List Value}
/-- from this state and frame the invocation comes to its end, and the end is as P says -/
def Go (p : Program) (e : Env) (below : List Frame) (T : State) (g : JFrame) (P : Outcome → State → Prop) : Prop :=
  ∃ s₂ o, Steps p.tables e below (T.setTop g) s₂ ∧ s₂.status = .running ∧ Ended s₂ below o ∧ P o s₂
abbrev Po (s : State) (Q : Option Value → Heap → List Loc → Prop) (k n : Nat) : Outcome → State → Prop := fun o U' => ∃ v L, o = .returned v ∧ Q v U'.heap L ∧ FrameEnd s o U' L k n
theorem stp (h : ∀ t, Steps p.tables e below (T'.setTop g') t → Steps p.tables e below (T.setTop g) t) (K : Go p e below T' g' P) : Go p e below T g P := by
  obtain ⟨s2, o, h1, h2⟩ := K
  exact ⟨s2, o, h _ h1, h2⟩
theorem stt (h : Steps p.tables e below (T.setTop g) (T'.setTop g')) (K : Go p e below T' g' P) : Go p e below T g P := by
  obtain ⟨s2, o, h1, h2⟩ := K
  exact ⟨s2, o, h.trans h1, h2⟩
theorem out (X : Stand p l e R s m args below meth c T locs cells slots) {v : Option Value} (hl : meth.locks = false) (hv : meth.sig.returnType = none → v = none)
    (hst : ∀ fs : List Frame, (∀ (f : JFrame) (acts : List Action), f.method = m → f.locked = none → f.entered = [] → (doReturn e (T.setTop f) acts v).1 = T.setFrames fs) → Steps p.tables e below (T.setTop g) (T.setFrames fs))
    (hc : cells ≤ k) (hn : slots ≤ n) (hQ : Q v T.heap locs) : Go p e below T g (Po s Q k n) := by
  obtain ⟨fs, hr, hrun, hended, hW, hsame⟩ := X.leave (v := v) hv hl
  exact ⟨_, _, hst fs hr, hrun, hended, v, locs, rfl, hQ, ⟨_, rfl⟩, hW, hsame.mono hc hn⟩
theorem outN (X : Stand p l e R s m args below meth c T locs cells slots) (hx : p.tables.exec = Jvm.exec) {t : FieldType} {z : Int32} (hret : meth.sig.returnType = some t) (ht : t = .boolean ∨ t = .byte ∨ t = .char ∨ t = .short) (hd : decode c.code pc = .ok (.ireturn, 1)) (hl : meth.locks = false)
    (hc : cells ≤ k) (hn : slots ≤ n) (hQ : Q (some (.int (nar t z))) T.heap locs) : Go p e below T (mkF m pc Ls (.int z :: rest)) (Po s Q k n) :=
  out X hl (fun h => by rw [hret] at h; cases h) (fun fs hr => retN X hx hret ht hd hr) hc hn hQ
theorem outI (X : Stand p l e R s m args below meth c T locs cells slots) (hx : p.tables.exec = Jvm.exec) {z : Int32} (hret : meth.sig.returnType = some .int) (hd : decode c.code pc = .ok (.ireturn, 1)) (hl : meth.locks = false)
    (hc : cells ≤ k) (hn : slots ≤ n) (hQ : Q (some (.int z)) T.heap locs) : Go p e below T (mkF m pc Ls (.int z :: rest)) (Po s Q k n) :=
  out X hl (fun h => by rw [hret] at h; cases h) (fun fs hr => retOut X hx hret rfl (Or.inl ⟨rfl, Or.inl rfl, _, rfl⟩) hd hr) hc hn hQ
theorem outJ (X : Stand p l e R s m args below meth c T locs cells slots) (hx : p.tables.exec = Jvm.exec) {z : Int64} (hret : meth.sig.returnType = some .long) (hd : decode c.code pc = .ok (.lreturn, 1)) (hl : meth.locks = false)
    (hc : cells ≤ k) (hn : slots ≤ n) (hQ : Q (some (.long z)) T.heap locs) : Go p e below T (mkF m pc Ls (.long z :: rest)) (Po s Q k n) :=
  out X hl (fun h => by rw [hret] at h; cases h) (fun fs hr => retOut X hx hret rfl (Or.inr (Or.inl ⟨rfl, rfl, _, rfl⟩)) hd hr) hc hn hQ
theorem outD (X : Stand p l e R s m args below meth c T locs cells slots) (hx : p.tables.exec = Jvm.exec) {w : Value} (hret : meth.sig.returnType = some .double) (hw : ∃ z, w = .double z) (hd : decode c.code pc = .ok (.dreturn, 1)) (hl : meth.locks = false)
    (hc : cells ≤ k) (hn : slots ≤ n) (hQ : Q (some w) T.heap locs) : Go p e below T (mkF m pc Ls (w :: rest)) (Po s Q k n) := by
  obtain ⟨z, rfl⟩ := hw
  exact out X hl (fun h => by rw [hret] at h; cases h) (fun fs hr => retOut X hx hret rfl (Or.inr (Or.inr (Or.inl ⟨rfl, rfl, _, rfl⟩))) hd hr) hc hn hQ
theorem outA (X : Stand p l e R s m args below meth c T locs cells slots) (hx : p.tables.exec = Jvm.exec) {w : Value} {t : FieldType} (hret : meth.sig.returnType = some t) (ht : t.isReference = true) (hw : w.isRef = true) (hd : decode c.code pc = .ok (.areturn, 1)) (hl : meth.locks = false)
    (hc : cells ≤ k) (hn : slots ≤ n) (hQ : Q (some w) T.heap locs) : Go p e below T (mkF m pc Ls (w :: rest)) (Po s Q k n) := by
  refine out X hl (fun h => by rw [hret] at h; cases h) (fun fs hr => retOut X hx hret ?_ (Or.inr (Or.inr (Or.inr (Or.inr ⟨rfl, ht, hw⟩)))) hd hr) hc hn hQ
  rcases ref_cases hw with rfl | ⟨a, rfl⟩ <;> cases t <;> first | rfl | cases ht
theorem outV (X : Stand p l e R s m args below meth c T locs cells slots) (hx : p.tables.exec = Jvm.exec) (hret : meth.sig.returnType = none) (hd : decode c.code pc = .ok (.return_, 1)) (hl : meth.locks = false)
    (hc : cells ≤ k) (hn : slots ≤ n) (hQ : Q none T.heap locs) : Go p e below T (mkF m pc Ls []) (Po s Q k n) :=
  out X hl (fun _ => rfl) (fun fs hr => X.returnOut hx hret hd hr) hc hn hQ
theorem start {y : MethodName} {bytes : ByteArray} {maxL : Nat} {ret : Option FieldType} {ws : List Cond} {rm : Room} {Z : State} {as' : Array Value} {h0 : Heap} (hpl : plainFor y = true)
    (body : ∀ p e s m below meth c T, Stand p l e rm s m as' below meth c T [] 0 0 → p.tables.exec = Jvm.exec → c.code = bytes → c.maxLocals = maxL → s.vm.findClass y.cls = some m.cls → meth.name = y.name → meth.sig.returnType = ret → meth.locks = false → Z.Warmed39 s.vm → T.heap = h0 →
      Go p e below T (entryFrame m as' maxL) (Po s Q k n)) :
    MetFree l y (head1 (Cond.code y bytes maxL ret :: ws) rm) (fun a U => a = as' ∧ Z.Warmed39 U.vm ∧ U.heap = h0) (fun _ _ _ _ _ => True) (fun _ U o U' => ∃ v L, o = .returned v ∧ Q v U'.heap L ∧ FrameEnd U o U' L k n) := by
  refine MetFree.of_bodySF hpl hisR ?_
  intro p e s m args below meth c s₁ Bd hml0 hP hK
  obtain ⟨rfl, hZ, hh⟩ := hP
  exact body p e s m below meth c s₁ (Stand.of_body Bd) Bd.exec Bd.bytes hml0 (findClass_of_methodNamed Bd.named) (name_of_methodNamed Bd.named Bd.method).1 Bd.returns Bd.notSynchronized hZ (by rw [← hh, Bd.state]; rfl)
theorem goAt (q : g = g') (K : Go p e below T g' P) : Go p e below T g P := q ▸ K
end Go
theorem cat_ref {v : Value} (h : v.isRef = true) : v.category = 1 := by cases v <;> simp_all [Value.isRef, Value.category]
section Facts
variable {Z : State} {args : Array Value}
theorem old_le {n0 : Nat} {h : Heap} (O : Old Z n0 h) : n0 ≤ h.size := by
  obtain ⟨rfl, h2⟩ := O
  exact h2.1
theorem fld_of {C n d : String} {t : Term} {a : Addr} {k : Int32} (ev : t.eval args Z none [] Z = some (.ref a)) (h : (Cond.eq (.field t C n d) (.int k)).value args Z none Z [] = some true) : Fld Z Z.heap a C n d (.int k) := by
  obtain ⟨x, y, h1, h2, -, hk⟩ := cmp_v (Or.inl h)
  have h3 : y = .int k := (Option.some.inj h2).symm
  subst h3
  obtain ⟨z, rfl⟩ := hk
  have h4 : z = k := gotT (Cond.eq_ints h1 h2) h
  subst h4
  rw [fld_at ev] at h1
  exact Fld.start h1
theorem fldnull_of {C n d : String} {t : Term} {a : Addr} (ev : t.eval args Z none [] Z = some (.ref a)) (h : (Cond.eq (.field t C n d) .null).value args Z none Z [] = some true) : Fld Z Z.heap a C n d .null := by
  have h1 := null_v h
  rw [fld_at ev] at h1
  exact Fld.start h1
theorem eqint_v {t : Term} {k : Int32} (h : (Cond.eq t (.int k)).value args Z none Z [] = some true) : t.eval args Z none [] Z = some (.int k) := by
  obtain ⟨x, y, h1, h2, -, hk⟩ := cmp_v (Or.inl h)
  have h3 : y = .int k := (Option.some.inj h2).symm
  subst h3
  obtain ⟨z, rfl⟩ := hk
  have h4 : z = k := gotT (Cond.eq_ints h1 h2) h
  subst h4
  exact h1
end Facts
section Small
variable {h h' : Heap} {a : Addr} {sl : Nat} {x : Int32}
theorem ow_wr_char (e : x.toUInt32.toUInt16.toUInt32.toInt32 = x) (W : Wr h h' a sl (.int (nar .char x))) : Wr h h' a sl (.int x) := by rwa [show nar .char x = x from e] at W
theorem ow_fits_char (e : x.toUInt32.toUInt16.toUInt32.toInt32 = x) : fits .char (.int x) = true := by
  have q := fits_nar_char x
  rwa [show nar .char x = x from e] at q
theorem ow_wr_byte (e : x.toInt8.toInt32 = x) (W : Wr h h' a sl (.int (nar .byte x))) : Wr h h' a sl (.int x) := by rwa [show nar .byte x = x from e] at W
theorem ow_fits_byte (e : x.toInt8.toInt32 = x) : fits .byte (.int x) = true := by
  have q := fits_nar_byte x
  rwa [e] at q
theorem char_small (h0 : ¬ x < 0) (h1 : ¬ (65535 : Int32) < x) : x.toUInt32.toUInt16.toUInt32.toInt32 = x := by
  obtain ⟨q1, q2, q3⟩ := c_i2c x
  simp only [Int32.lt_iff_toInt_lt, Int32.reduceToInt] at h0 h1
  exact Int32.toInt_inj.mp (by omega)
theorem char255 (q : ¬ x < 0 ∧ ¬ (255 : Int32) < x) : x.toUInt32.toUInt16.toUInt32.toInt32 = x := char_small q.1 (by
  obtain ⟨q1, q2⟩ := q
  simp only [Int32.lt_iff_toInt_lt, Int32.reduceToInt] at q1 q2 ⊢
  omega)
theorem byte_small (h0 : ¬ x < (-128 : Int32)) (h1 : ¬ (127 : Int32) < x) : x.toInt8.toInt32 = x := by
  obtain ⟨q1, q2, q3⟩ := c_i2b x
  simp only [Int32.lt_iff_toInt_lt, Int32.reduceToInt] at h0 h1
  exact Int32.toInt_inj.mp (by omega)
theorem byte_twice : x.toInt8.toInt32.toInt8.toInt32 = x.toInt8.toInt32 := by simp
theorem and255 (x : Int32) : ¬ (x &&& (255 : Int32)) < 0 ∧ ¬ (255 : Int32) < (x &&& (255 : Int32)) := by
  have h := c_mask x 255 8 (by decide) (by decide)
  simp only [Int32.lt_iff_toInt_lt, Int32.reduceToInt]
  omega
end Small
section Sub
variable {Z : State} {a0 : Array Value}
theorem NSroot {O K : String} {n : Nat} (w : (Cond.noSuperclass O).before a0 Z = true) (wk : (Cond.instantiable K n).before a0 Z = true) (hn : O ≠ K) : NS Z O K := by
  obtain ⟨c, k, h1, h2, h3, -, -⟩ := Cond.noSuperclass_spec w
  obtain ⟨t, kt, g1, -⟩ := Cond.instantiable_spec wk
  have ne := ids_ne h1 g1 hn
  refine ⟨c, t, h1, g1, fun fuel => ?_⟩
  cases fuel with
  | zero => rfl
  | succ f => simp [Vm.isSubclassAux, ne, h2, h3]
theorem NSno {C S K : String} {n : Nat} (w : (Cond.superclass C S).before a0 Z = true) (wk : (Cond.instantiable K n).before a0 Z = true) (N : NS Z C K) (hn : C ≠ K) : ∃ c t, Z.vm.findClass C = some c ∧ Z.vm.findClass K = some t ∧ Z.vm.assignable c t = false := by
  obtain ⟨c, t, h0, g0, n3⟩ := N
  obtain ⟨p, k, kp, h1, h2, h3, h4, h5, -, h7⟩ := Cond.superclass_spec h0 w
  obtain ⟨t', kt, g1, g2, g5, g7, -⟩ := Cond.instantiable_spec wk
  cases g0.symm.trans g1
  rw [Bool.or_eq_false_iff] at g7
  have ne := ids_ne h0 g0 hn
  refine ⟨c, t, h0, g0, ?_⟩
  show Z.vm.assignableAux (255 + 1) c t = false
  simp [Vm.assignableAux, ne, h2, g2, h5, g5, g7.1, Vm.isSubclass, n3]
end Sub
/-- an array of n elements, told by a function -/
def Arf (Z : State) (h : Heap) (a : Addr) (k : ClassId) (ty : FieldType) (n : Nat) (f : Nat → Value) : Prop := ∃ c : Cell, Arr Z h a c ty ∧ c.cls = k ∧ c.slots.size = n ∧ (∀ i, i < n → c.slots[i]? = some (f i)) ∧ ∀ i, i < n → fits ty (f i) = true
section Arf
variable {Z : State} {h h' : Heap} {a b : Addr} {k : ClassId} {ty : FieldType} {n sl : Nat} {f g : Nat → Value} {v : Value} {ws : List Addr} {c : Cell} {j : Int32} {i : Nat}
theorem Arf.lt (F : Arf Z h a k ty n f) : a < h.size := by
  obtain ⟨c, A, -⟩ := F
  exact A.lt
theorem Arf.ext (F : Arf Z h a k ty n f) (E : Ext h h') : Arf Z h' a k ty n f := by
  obtain ⟨c, A, r⟩ := F
  exact ⟨c, A.ext E, r⟩
theorem Arf.other (F : Arf Z h b k ty n f) (W : Wr h h' a sl v) (q : b ≠ a) : Arf Z h' b k ty n f := by
  obtain ⟨c, A, r⟩ := F
  exact ⟨c, A.other W q, r⟩
theorem Arf.keep (F : Arf Z h a k ty n f) (K : Keep h h' ws) (q : a ∉ ws) : Arf Z h' a k ty n f := by
  obtain ⟨c, A, r⟩ := F
  exact ⟨c, ⟨K.2.1 a c A.1 q, A.2⟩, r⟩
theorem Arf.congr (F : Arf Z h a k ty n f) (q : ∀ i, i < n → g i = f i) : Arf Z h a k ty n g := by
  obtain ⟨c, A, r1, r2, H, G⟩ := F
  exact ⟨c, A, r1, r2, fun i hi => by rw [q i hi]; exact H i hi, fun i hi => by rw [q i hi]; exact G i hi⟩
theorem Arf.set (A : Arr Z h a c ty) (q1 : c.cls = k) (S : c.slots.size = n) (H : ∀ i, i < n → c.slots[i]? = some (f i)) (G : ∀ i, i < n → fits ty (f i) = true) (hv : fits ty v = true) (W : Wr h h' a i v) (hi : i < n) : Arf Z h' a k ty n (fun x => if x = i then v else f x) := by
  refine ⟨c.setSlot i v, A.same W, q1, by rw [sz_set]; exact S, fun x hx => ?_, fun x hx => ?_⟩
  · show (c.setSlot i v).slots[x]? = some (if x = i then v else f x)
    by_cases e : x = i
    · subst e
      simp [Cell.setSlot, S, hx]
    · rw [if_neg e, ← H x hx]
      exact Cell.slots_setSlot_ne v (Ne.symm e)
  · by_cases e : x = i
    · simp [e, hv]
    · simp [e, G x hx]
theorem Arv.arf {z : Int32} {vs : List Value} {d : Value} (F : Arv Z h a k ty z vs d) (hz : z.toNatClampNeg = n) : Arf Z h a k ty n (fun i => vs.getD i d) := by
  obtain ⟨c, A, r1, r2, r3, H, G⟩ := F
  exact ⟨c, A, r1, by rw [r2, hz], fun i hi => H i (by rw [r2, hz]; exact hi), fun i hi => G i (by rw [r2, hz]; exact hi)⟩
theorem arf_in (S : c.slots.size = n) (hk : j.toInt = i) (hn : i < n) : ¬ (j < 0 ∨ c.slots.size ≤ j.toNatClampNeg) := by
  simp only [Int32.lt_iff_toInt_lt, Int32.toNatClampNeg, Int32.reduceToInt, S, hk]
  omega
theorem arf_at (H : ∀ i, i < n → c.slots[i]? = some (f i)) (hk : j.toInt = i) (hn : i < n) : c.slots[j.toNatClampNeg]? = some (f i) := by
  have e : j.toNatClampNeg = i := by simp only [Int32.toNatClampNeg, hk]; omega
  rw [e]
  exact H i hn
theorem arf_ix (hk : j.toInt = i) : j.toNatClampNeg = i := by simp only [Int32.toNatClampNeg, hk]; omega
theorem arf_len {z : Int32} (S : c.slots.size = n) (hz : z.toInt = n) : c.slots.size.toInt32 = z := by
  rw [S]
  have h1 := Int32.toInt_lt z
  exact Int32.toInt_inj.mp (by rw [len_toInt (by omega)]; exact hz.symm)
theorem Arf.one (F : Arf Z h a k ty n f) (hi : i < n) : fits ty (f i) = true := by
  obtain ⟨c, A, r1, r2, H, G⟩ := F
  exact G i hi
theorem Arf.new {z : Int32} (A : Arr Z h a (newA k ty z) ty) (q : ¬ z < 0) (hz : z.toNatClampNeg = n) : Arf Z h a k ty n (fun _ => defaultValue ty) := (Arv.arf (Arv.new A q) hz).congr fun i _ => by simp
theorem cloneF {p : Program} {l : Launch} {e : Env} {R : Room} {s : State} {m : MethodId} {args : Array Value} {below : List Frame} {meth : Method} {c : Code} {T : State} {locs : List Loc} {cells slots : Nat} (X : Stand p l e R s m args below meth c T locs cells slots) (hx : p.tables.exec = Jvm.exec) (hZ : Z.Warmed39 s.vm) {a0 : Array Value} {own ad : String} {index : Nat} (hown : s.vm.findClass own = some m.cls)
    (w1 : (Cond.methodLink own index ⟨ad, "clone", "()Ljava/lang/Object;"⟩).before a0 Z = true) (w2 : (Cond.sameMethod ad "java/lang/Object" "clone" "()Ljava/lang/Object;").before a0 Z = true) (w3 : (Cond.native ⟨"java/lang/Object", "clone", "()Ljava/lang/Object;"⟩).before a0 Z = true)
    (w4 : (Cond.instanceMethod ⟨"java/lang/Object", "clone", "()Ljava/lang/Object;"⟩).before a0 Z = true) (w5 : (Cond.selects ad ⟨ad, "clone", "()Ljava/lang/Object;"⟩ ⟨"java/lang/Object", "clone", "()Ljava/lang/Object;"⟩).before a0 Z = true) (w6 : (Cond.castable ad "java/lang/Cloneable").before a0 Z = true)
    (eT : T.heap = h) (F : Arf Z h a k ty n f) (E : Exa Z h a ad) {g : JFrame} (hg : g.method = m) (hsize : g.locals.size = c.maxLocals) {rest : List Value} (hst : g.stack = .ref a :: rest) (hd : decode c.code g.pc = .ok (.invokevirtual index, 3))
    (hf : 1 ≤ R.frames) {W cap : Nat} (hW : 2 * g.monitorRoom + (rest.map fun v => v.category).sum ≤ W) (hl : W + 14 ≤ R.locals) (hcap : n ≤ cap) (hc : cells + 1 ≤ R.cells) (hsl : slots + cap ≤ R.slots) :
    ∃ T' h', Stand p l e R s m args below meth c T' locs (cells + 1) (slots + cap) ∧ T'.heap = h' ∧ Ext h h' ∧ Arf Z h' h.size k ty n f ∧ Exa Z h' h.size ad ∧
      ∀ target, Steps p.tables e below (T'.setTop { g with pc := g.pc + 3, stack := .ref h.size :: rest }) target → Steps p.tables e below (T.setTop g) target := by
  obtain ⟨cl, A, q1, S, H, G⟩ := F
  have FC : FitC Z cl := fitC_of A fun i hi v hv => by rw [H i (S ▸ hi)] at hv; cases hv; exact G i (S ▸ hi)
  obtain ⟨T', h', X', e', ex, A', E', st⟩ := cloneA X hx hZ hown w1 w2 w3 w4 w5 w6 eT A E FC hg hsize hst hd hf hW hl (by rw [S]; exact hcap) hc hsl
  exact ⟨T', h', X', e', ex, ⟨cloneOf cl, A', q1, S, H, G⟩, E', st⟩
end Arf
theorem and1_cases (x : Int32) : x &&& (1 : Int32) = (0 : Int32) ∨ x &&& (1 : Int32) = (1 : Int32) := and_one x
theorem and3_cases (x : Int32) : x &&& (3 : Int32) = (0 : Int32) ∨ x &&& (3 : Int32) = (1 : Int32) ∨ x &&& (3 : Int32) = (2 : Int32) ∨ x &&& (3 : Int32) = (3 : Int32) := by
  have h := c_mask x 3 2 (by decide) (by decide)
  simp only [← Int32.toInt_inj]
  have : (0 : Int32).toInt = 0 := by decide
  have : (1 : Int32).toInt = 1 := by decide
  have : (2 : Int32).toInt = 2 := by decide
  have : (3 : Int32).toInt = 3 := by decide
  omega
end Jvm.OwnKit
namespace Jvm.Pilot.@@N@@
open Jvm Jvm.ClassFile Sem Op Lib Jvm.Free Jvm.Stand Jvm.LawKit Jvm.RoadKit Jvm.OwnKit Bundle Jvm.Pilot.@@N@@.Jvm.D
theorem own_max (x y : Int32) : ¬ (if x < y then y else x) < y := by
  split
  · rw [Int32.lt_iff_toInt_lt]
    omega
  · assumption
theorem own_six {p k : Int32} (hk : k = (p &&& (2147483647 : Int32)) % (6 : Int32)) (h0 : ¬ k = 0) (h1 : ¬ k = 1) (h2 : ¬ k = 2) (h3 : ¬ k = 3) (h4 : ¬ k = 4) : k = 5 := by
  have e1 := c_mask p 2147483647 31 (by decide) (by decide)
  have e2 := (c_irem (p &&& 2147483647) 6 6 (by decide)).1 (by omega)
  rw [← hk] at e2
  simp only [← Int32.toInt_inj] at h0 h1 h2 h3 h4 ⊢
  have : (0 : Int32).toInt = 0 := by decide
  have : (1 : Int32).toInt = 1 := by decide
  have : (2 : Int32).toInt = 2 := by decide
  have : (3 : Int32).toInt = 3 := by decide
  have : (4 : Int32).toInt = 4 := by decide
  have : (5 : Int32).toInt = 5 := by decide
  omega
theorem d1_0 : decode method_2_code 0 = .ok (.iload_n 0, 1) := by decide +kernel
theorem d1_1 : decode method_2_code 1 = .ok (.ifCond .ne 7, 3) := by decide +kernel
theorem d1_4 : decode method_2_code 4 = .ok (.getstatic 7, 3) := by decide +kernel
theorem d1_7 : decode method_2_code 7 = .ok (.areturn, 1) := by decide +kernel
theorem d1_8 : decode method_2_code 8 = .ok (.iload_n 0, 1) := by decide +kernel
theorem d1_9 : decode method_2_code 9 = .ok (.iconst 1, 1) := by decide +kernel
theorem d1_10 : decode method_2_code 10 = .ok (.if_icmp .ne 7, 3) := by decide +kernel
theorem d1_13 : decode method_2_code 13 = .ok (.getstatic 13, 3) := by decide +kernel
theorem d1_16 : decode method_2_code 16 = .ok (.areturn, 1) := by decide +kernel
theorem d1_17 : decode method_2_code 17 = .ok (.iload_n 0, 1) := by decide +kernel
theorem d1_18 : decode method_2_code 18 = .ok (.iconst 2, 1) := by decide +kernel
theorem d1_19 : decode method_2_code 19 = .ok (.if_icmp .ne 7, 3) := by decide +kernel
theorem d1_22 : decode method_2_code 22 = .ok (.getstatic 16, 3) := by decide +kernel
theorem d1_25 : decode method_2_code 25 = .ok (.areturn, 1) := by decide +kernel
theorem d1_26 : decode method_2_code 26 = .ok (.iload_n 0, 1) := by decide +kernel
theorem d1_27 : decode method_2_code 27 = .ok (.iconst 3, 1) := by decide +kernel
theorem d1_28 : decode method_2_code 28 = .ok (.if_icmp .ne 7, 3) := by decide +kernel
theorem d1_31 : decode method_2_code 31 = .ok (.getstatic 19, 3) := by decide +kernel
theorem d1_34 : decode method_2_code 34 = .ok (.areturn, 1) := by decide +kernel
theorem d1_35 : decode method_2_code 35 = .ok (.iload_n 0, 1) := by decide +kernel
theorem d1_36 : decode method_2_code 36 = .ok (.iconst 4, 1) := by decide +kernel
theorem d1_37 : decode method_2_code 37 = .ok (.if_icmp .ne 7, 3) := by decide +kernel
theorem d1_40 : decode method_2_code 40 = .ok (.getstatic 22, 3) := by decide +kernel
theorem d1_43 : decode method_2_code 43 = .ok (.areturn, 1) := by decide +kernel
theorem d1_44 : decode method_2_code 44 = .ok (.getstatic 25, 3) := by decide +kernel
theorem d1_47 : decode method_2_code 47 = .ok (.areturn, 1) := by decide +kernel
theorem ef_rm_pick (m : MethodId) (p0 : Int32)  : entryFrame m #[(.int p0)] 1 = mkF m 0 #[.val (.int p0)] [] := by first | (simp [entryFrame, mkF, argsToLocals, Value.category]; done) | rfl
def Q_rm_pick (Z : State) (p0 : Int32) (gaussian triangle cosine circle passage pagerank r : Addr) (h0 : Heap) (n0 : Nat) (v : Option Value) (h : Heap) (L : List Loc) : Prop := v = some (.ref r) ∧ Fr n0 L ∧ h = h0
theorem pn_0_ : plainName "com/example/heedful_rank/heedfulrank/methods/KernelCheckWidthPinLaw" = true := by first | (simp [plainName, overriddenIn]; done) | decide +kernel
theorem pn_0 : plainFor (⟨"com/example/heedful_rank/heedfulrank/methods/KernelCheckWidthPinLaw", "pick", "(I)Lcom/example/heedful_rank/heedfulrank/methods/Kernel;"⟩ : MethodName) = true := plainFor_of_name pn_0_
set_option maxRecDepth 65536 in
set_option maxHeartbeats 40000000 in
theorem rm_pick (l : Launch) (Z : State) (a0 : Array Value) (hw : ∀ d ∈ tables_1, d.before a0 Z = true) (ws : List Jvm.Cond) (p0 : Int32) (gaussian triangle cosine circle passage pagerank r : Addr) (h0 : Heap) (n0 : Nat) (O0 : Old Z n0 h0) (S_GAUSSIAN : Sta Z Z.heap "com/example/heedful_rank/heedfulrank/methods/Kernel" "GAUSSIAN" "Lcom/example/heedful_rank/heedfulrank/methods/Kernel;" (.ref gaussian)) (S_TRIANGLE : Sta Z Z.heap "com/example/heedful_rank/heedfulrank/methods/Kernel" "TRIANGLE" "Lcom/example/heedful_rank/heedfulrank/methods/Kernel;" (.ref triangle)) (S_COSINE : Sta Z Z.heap "com/example/heedful_rank/heedfulrank/methods/Kernel" "COSINE" "Lcom/example/heedful_rank/heedfulrank/methods/Kernel;" (.ref cosine)) (S_CIRCLE : Sta Z Z.heap "com/example/heedful_rank/heedfulrank/methods/Kernel" "CIRCLE" "Lcom/example/heedful_rank/heedfulrank/methods/Kernel;" (.ref circle)) (S_PASSAGE : Sta Z Z.heap "com/example/heedful_rank/heedfulrank/methods/Kernel" "PASSAGE" "Lcom/example/heedful_rank/heedfulrank/methods/Kernel;" (.ref passage)) (S_PAGERANK : Sta Z Z.heap "com/example/heedful_rank/heedfulrank/methods/Kernel" "PAGERANK" "Lcom/example/heedful_rank/heedfulrank/methods/Kernel;" (.ref pagerank)) (hr : (p0 = 0 → r = gaussian) ∧ (p0 = 1 → r = triangle) ∧ (p0 = 2 → r = cosine) ∧ (p0 = 3 → r = circle) ∧ (p0 = 4 → r = passage) ∧ (¬ p0 = 0 → ¬ p0 = 1 → ¬ p0 = 2 → ¬ p0 = 3 → ¬ p0 = 4 → r = pagerank)) :
    MetFree l (⟨"com/example/heedful_rank/heedfulrank/methods/KernelCheckWidthPinLaw", "pick", "(I)Lcom/example/heedful_rank/heedfulrank/methods/Kernel;"⟩ : MethodName) (head1 (Jvm.Cond.code (⟨"com/example/heedful_rank/heedfulrank/methods/KernelCheckWidthPinLaw", "pick", "(I)Lcom/example/heedful_rank/heedfulrank/methods/Kernel;"⟩ : MethodName) method_2_code 1 (some (.object "com/example/heedful_rank/heedfulrank/methods/Kernel")) :: ws) ({ frames := 0, cells := 0, slots := 0, locals := 0 } : Room)) (fun a U => a = #[(.int p0)] ∧ Z.Warmed39 U.vm ∧ U.heap = h0) (fun _ _ _ _ _ => True) (fun _ U o U' => ∃ v L, o = .returned v ∧ (Q_rm_pick Z p0 gaussian triangle cosine circle passage pagerank r h0 n0) v U'.heap L ∧ FrameEnd U o U' L ({ frames := 0, cells := 0, slots := 0, locals := 0 } : Room).cells ({ frames := 0, cells := 0, slots := 0, locals := 0 } : Room).slots) := by
  refine start (Q := (Q_rm_pick Z p0 gaussian triangle cosine circle passage pagerank r h0 n0)) pn_0 ?_
  intro p e s m below meth c T0 X0 hx hby hml hown hnm hret hlk hZ e0
  replace hown : s.vm.findClass "com/example/heedful_rank/heedfulrank/methods/KernelCheckWidthPinLaw" = some m.cls := hown
  replace hml : c.maxLocals = 1 := hml
  refine goAt (ef_rm_pick m p0 ) ?_
  have N0 := Fr.nil n0
  show Go p e below T0 (mkF m 0 #[.val (.int p0)] []) _
  refine stp (fun _ => XS.iloadN X0.here hx rfl (hb hby d1_0) rfl) ?_
  show Go p e below T0 (mkF m 1 #[.val (.int p0)] [(.int p0)]) _
  by_cases q1_1 : p0 = 0
  · refine stp (fun _ => XS.ifNo X0.here hx rfl (hb hby d1_1) rfl (XT.i0_ne_f q1_1)) ?_
    show Go p e below T0 (mkF m 4 #[.val (.int p0)] []) _
    obtain ⟨T2, X2, e2, st2⟩ := getS2 X0 hx hZ hown (host := "") (Or.inl (hw _ (List.mem_of_getElem? (i := 5) rfl))) Via.refl e0 (S_GAUSSIAN.ext O0.2) (g := (mkF m 4 #[.val (.int p0)] [])) rfl (hb hby d1_4)
    refine stp st2 ?_
    show Go p e below T2 (mkF m 7 #[.val (.int p0)] [(.ref gaussian)]) _
    refine outA X2 hx hret rfl rfl (hb hby d1_7) hlk (by decide) (by decide) ?_
    exact ⟨by rw [hr.1 q1_1], N0, e2⟩
  · refine stp (fun _ => XS.ifYes X0.here hx rfl (pc0 := 1) (pc' := 8) rfl (hb hby d1_1) rfl (XT.i0_ne_t q1_1) (by decide) (by decide)) ?_
    show Go p e below T0 (mkF m 8 #[.val (.int p0)] []) _
    refine stp (fun _ => XS.iloadN X0.here hx rfl (hb hby d1_8) rfl) ?_
    show Go p e below T0 (mkF m 9 #[.val (.int p0)] [(.int p0)]) _
    refine stp (fun _ => XS.iconst X0.here hx rfl (hb hby d1_9)) ?_
    show Go p e below T0 (mkF m 10 #[.val (.int p0)] [(.int (1 : Int32)), (.int p0)]) _
    by_cases q10_3 : p0 = (1 : Int32)
    · refine stp (fun _ => XS.icmpNo X0.here hx rfl (hb hby d1_10) rfl (XT.ii_ne_f q10_3)) ?_
      show Go p e below T0 (mkF m 13 #[.val (.int p0)] []) _
      obtain ⟨T4, X4, e4, st4⟩ := getS2 X0 hx hZ hown (host := "") (Or.inl (hw _ (List.mem_of_getElem? (i := 23) rfl))) Via.refl e0 (S_TRIANGLE.ext O0.2) (g := (mkF m 13 #[.val (.int p0)] [])) rfl (hb hby d1_13)
      refine stp st4 ?_
      show Go p e below T4 (mkF m 16 #[.val (.int p0)] [(.ref triangle)]) _
      refine outA X4 hx hret rfl rfl (hb hby d1_16) hlk (by decide) (by decide) ?_
      exact ⟨by rw [hr.2.1 q10_3], N0, e4⟩
    · refine stp (fun _ => XS.icmpYes X0.here hx rfl (pc0 := 10) (pc' := 17) rfl (hb hby d1_10) rfl (XT.ii_ne_t q10_3) (by decide) (by decide)) ?_
      show Go p e below T0 (mkF m 17 #[.val (.int p0)] []) _
      refine stp (fun _ => XS.iloadN X0.here hx rfl (hb hby d1_17) rfl) ?_
      show Go p e below T0 (mkF m 18 #[.val (.int p0)] [(.int p0)]) _
      refine stp (fun _ => XS.iconst X0.here hx rfl (hb hby d1_18)) ?_
      show Go p e below T0 (mkF m 19 #[.val (.int p0)] [(.int (2 : Int32)), (.int p0)]) _
      by_cases q19_5 : p0 = (2 : Int32)
      · refine stp (fun _ => XS.icmpNo X0.here hx rfl (hb hby d1_19) rfl (XT.ii_ne_f q19_5)) ?_
        show Go p e below T0 (mkF m 22 #[.val (.int p0)] []) _
        obtain ⟨T6, X6, e6, st6⟩ := getS2 X0 hx hZ hown (host := "") (Or.inl (hw _ (List.mem_of_getElem? (i := 19) rfl))) Via.refl e0 (S_COSINE.ext O0.2) (g := (mkF m 22 #[.val (.int p0)] [])) rfl (hb hby d1_22)
        refine stp st6 ?_
        show Go p e below T6 (mkF m 25 #[.val (.int p0)] [(.ref cosine)]) _
        refine outA X6 hx hret rfl rfl (hb hby d1_25) hlk (by decide) (by decide) ?_
        exact ⟨by rw [hr.2.2.1 q19_5], N0, e6⟩
      · refine stp (fun _ => XS.icmpYes X0.here hx rfl (pc0 := 19) (pc' := 26) rfl (hb hby d1_19) rfl (XT.ii_ne_t q19_5) (by decide) (by decide)) ?_
        show Go p e below T0 (mkF m 26 #[.val (.int p0)] []) _
        refine stp (fun _ => XS.iloadN X0.here hx rfl (hb hby d1_26) rfl) ?_
        show Go p e below T0 (mkF m 27 #[.val (.int p0)] [(.int p0)]) _
        refine stp (fun _ => XS.iconst X0.here hx rfl (hb hby d1_27)) ?_
        show Go p e below T0 (mkF m 28 #[.val (.int p0)] [(.int (3 : Int32)), (.int p0)]) _
        by_cases q28_7 : p0 = (3 : Int32)
        · refine stp (fun _ => XS.icmpNo X0.here hx rfl (hb hby d1_28) rfl (XT.ii_ne_f q28_7)) ?_
          show Go p e below T0 (mkF m 31 #[.val (.int p0)] []) _
          obtain ⟨T8, X8, e8, st8⟩ := getS2 X0 hx hZ hown (host := "") (Or.inl (hw _ (List.mem_of_getElem? (i := 26) rfl))) Via.refl e0 (S_CIRCLE.ext O0.2) (g := (mkF m 31 #[.val (.int p0)] [])) rfl (hb hby d1_31)
          refine stp st8 ?_
          show Go p e below T8 (mkF m 34 #[.val (.int p0)] [(.ref circle)]) _
          refine outA X8 hx hret rfl rfl (hb hby d1_34) hlk (by decide) (by decide) ?_
          exact ⟨by rw [hr.2.2.2.1 q28_7], N0, e8⟩
        · refine stp (fun _ => XS.icmpYes X0.here hx rfl (pc0 := 28) (pc' := 35) rfl (hb hby d1_28) rfl (XT.ii_ne_t q28_7) (by decide) (by decide)) ?_
          show Go p e below T0 (mkF m 35 #[.val (.int p0)] []) _
          refine stp (fun _ => XS.iloadN X0.here hx rfl (hb hby d1_35) rfl) ?_
          show Go p e below T0 (mkF m 36 #[.val (.int p0)] [(.int p0)]) _
          refine stp (fun _ => XS.iconst X0.here hx rfl (hb hby d1_36)) ?_
          show Go p e below T0 (mkF m 37 #[.val (.int p0)] [(.int (4 : Int32)), (.int p0)]) _
          by_cases q37_9 : p0 = (4 : Int32)
          · refine stp (fun _ => XS.icmpNo X0.here hx rfl (hb hby d1_37) rfl (XT.ii_ne_f q37_9)) ?_
            show Go p e below T0 (mkF m 40 #[.val (.int p0)] []) _
            obtain ⟨T10, X10, e10, st10⟩ := getS2 X0 hx hZ hown (host := "") (Or.inl (hw _ (List.mem_of_getElem? (i := 21) rfl))) Via.refl e0 (S_PASSAGE.ext O0.2) (g := (mkF m 40 #[.val (.int p0)] [])) rfl (hb hby d1_40)
            refine stp st10 ?_
            show Go p e below T10 (mkF m 43 #[.val (.int p0)] [(.ref passage)]) _
            refine outA X10 hx hret rfl rfl (hb hby d1_43) hlk (by decide) (by decide) ?_
            exact ⟨by rw [hr.2.2.2.2.1 q37_9], N0, e10⟩
          · refine stp (fun _ => XS.icmpYes X0.here hx rfl (pc0 := 37) (pc' := 44) rfl (hb hby d1_37) rfl (XT.ii_ne_t q37_9) (by decide) (by decide)) ?_
            show Go p e below T0 (mkF m 44 #[.val (.int p0)] []) _
            obtain ⟨T11, X11, e11, st11⟩ := getS2 X0 hx hZ hown (host := "") (Or.inl (hw _ (List.mem_of_getElem? (i := 25) rfl))) Via.refl e0 (S_PAGERANK.ext O0.2) (g := (mkF m 44 #[.val (.int p0)] [])) rfl (hb hby d1_44)
            refine stp st11 ?_
            show Go p e below T11 (mkF m 47 #[.val (.int p0)] [(.ref pagerank)]) _
            refine outA X11 hx hret rfl rfl (hb hby d1_47) hlk (by decide) (by decide) ?_
            exact ⟨by rw [hr.2.2.2.2.2 q1_1 q10_3 q19_5 q28_7 q37_9], N0, e11⟩
theorem d2_0 : decode jdk_29_method_65_code 0 = .ok (.iload_n 0, 1) := by decide +kernel
theorem d2_1 : decode jdk_29_method_65_code 1 = .ok (.iload_n 1, 1) := by decide +kernel
theorem d2_2 : decode jdk_29_method_65_code 2 = .ok (.if_icmp .lt 7, 3) := by decide +kernel
theorem d2_9 : decode jdk_29_method_65_code 9 = .ok (.iload_n 1, 1) := by decide +kernel
theorem d2_10 : decode jdk_29_method_65_code 10 = .ok (.ireturn, 1) := by decide +kernel
theorem d2_5 : decode jdk_29_method_65_code 5 = .ok (.iload_n 0, 1) := by decide +kernel
theorem d2_6 : decode jdk_29_method_65_code 6 = .ok (.goto 4, 3) := by decide +kernel
theorem ef_rm_max (m : MethodId) (p0 : Int32) (p1 : Int32)  : entryFrame m #[(.int p0), (.int p1)] 2 = mkF m 0 #[.val (.int p0), .val (.int p1)] [] := by first | (simp [entryFrame, mkF, argsToLocals, Value.category]; done) | rfl
def Q_rm_max (Z : State) (p0 : Int32) (p1 : Int32)  (h0 : Heap) (n0 : Nat) (v : Option Value) (h : Heap) (L : List Loc) : Prop := v = some (.int (if p0 < p1 then p1 else p0)) ∧ Fr n0 L ∧ h = h0
set_option maxRecDepth 65536 in
set_option maxHeartbeats 40000000 in
theorem rm_max (l : Launch) (Z : State) (a0 : Array Value) (hw : ∀ d ∈ tables_1, d.before a0 Z = true) (ws : List Jvm.Cond) (p0 : Int32) (p1 : Int32)  (h0 : Heap) (n0 : Nat) (O0 : Old Z n0 h0)  :
    MetFree l (⟨"java/lang/Math", "max", "(II)I"⟩ : MethodName) (head1 (Jvm.Cond.code (⟨"java/lang/Math", "max", "(II)I"⟩ : MethodName) jdk_29_method_65_code 2 (some .int) :: ws) ({ frames := 0, cells := 0, slots := 0, locals := 0 } : Room)) (fun a U => a = #[(.int p0), (.int p1)] ∧ Z.Warmed39 U.vm ∧ U.heap = h0) (fun _ _ _ _ _ => True) (fun _ U o U' => ∃ v L, o = .returned v ∧ (Q_rm_max Z p0 p1 h0 n0) v U'.heap L ∧ FrameEnd U o U' L ({ frames := 0, cells := 0, slots := 0, locals := 0 } : Room).cells ({ frames := 0, cells := 0, slots := 0, locals := 0 } : Room).slots) := by
  refine start (Q := (Q_rm_max Z p0 p1 h0 n0)) (Jvm.Free.JP.mathPlain rfl (by decide +kernel)) ?_
  intro p e s m below meth c T0 X0 hx hby hml hown hnm hret hlk hZ e0
  replace hown : s.vm.findClass "java/lang/Math" = some m.cls := hown
  replace hml : c.maxLocals = 2 := hml
  refine goAt (ef_rm_max m p0 p1 ) ?_
  have N0 := Fr.nil n0
  show Go p e below T0 (mkF m 0 #[.val (.int p0), .val (.int p1)] []) _
  refine stp (fun _ => XS.iloadN X0.here hx rfl (hb hby d2_0) rfl) ?_
  show Go p e below T0 (mkF m 1 #[.val (.int p0), .val (.int p1)] [(.int p0)]) _
  refine stp (fun _ => XS.iloadN X0.here hx rfl (hb hby d2_1) rfl) ?_
  show Go p e below T0 (mkF m 2 #[.val (.int p0), .val (.int p1)] [(.int p1), (.int p0)]) _
  by_cases q2_1 : p0 < p1
  · refine stp (fun _ => XS.icmpYes X0.here hx rfl (pc0 := 2) (pc' := 9) rfl (hb hby d2_2) rfl (XT.ii_lt_t q2_1) (by decide) (by decide)) ?_
    show Go p e below T0 (mkF m 9 #[.val (.int p0), .val (.int p1)] []) _
    refine stp (fun _ => XS.iloadN X0.here hx rfl (hb hby d2_9) rfl) ?_
    show Go p e below T0 (mkF m 10 #[.val (.int p0), .val (.int p1)] [(.int p1)]) _
    refine outI X0 hx hret (hb hby d2_10) hlk (by decide) (by decide) ?_
    exact ⟨by rw [if_pos q2_1], N0, e0⟩
  · refine stp (fun _ => XS.icmpNo X0.here hx rfl (hb hby d2_2) rfl (XT.ii_lt_f q2_1)) ?_
    show Go p e below T0 (mkF m 5 #[.val (.int p0), .val (.int p1)] []) _
    refine stp (fun _ => XS.iloadN X0.here hx rfl (hb hby d2_5) rfl) ?_
    show Go p e below T0 (mkF m 6 #[.val (.int p0), .val (.int p1)] [(.int p0)]) _
    refine stp (fun _ => XS.goto X0.here hx rfl (pc0 := 6) (pc' := 10) rfl (hb hby d2_6) (by decide) (by decide)) ?_
    show Go p e below T0 (mkF m 10 #[.val (.int p0), .val (.int p1)] [(.int p0)]) _
    refine outI X0 hx hret (hb hby d2_10) hlk (by decide) (by decide) ?_
    exact ⟨by rw [if_neg q2_1], N0, e0⟩
theorem d3_0 : decode prog_16_method_6_code 0 = .ok (.aload_n 0, 1) := by decide +kernel
theorem d3_1 : decode prog_16_method_6_code 1 = .ok (.getstatic 19, 3) := by decide +kernel
theorem d3_4 : decode prog_16_method_6_code 4 = .ok (.if_acmp .ne 7, 3) := by decide +kernel
theorem d3_7 : decode prog_16_method_6_code 7 = .ok (.iconst 2, 1) := by decide +kernel
theorem d3_8 : decode prog_16_method_6_code 8 = .ok (.goto 4, 3) := by decide +kernel
theorem d3_12 : decode prog_16_method_6_code 12 = .ok (.istore_n 2, 1) := by decide +kernel
theorem d3_13 : decode prog_16_method_6_code 13 = .ok (.iload_n 1, 1) := by decide +kernel
theorem d3_14 : decode prog_16_method_6_code 14 = .ok (.iload_n 2, 1) := by decide +kernel
theorem d3_15 : decode prog_16_method_6_code 15 = .ok (.if_icmp .ge 28, 3) := by decide +kernel
theorem d3_43 : decode prog_16_method_6_code 43 = .ok (.return_, 1) := by decide +kernel
theorem d3_11 : decode prog_16_method_6_code 11 = .ok (.iconst 1, 1) := by decide +kernel
theorem ef_rm_cw (m : MethodId) (a0_ : Addr) (p1 : Int32)  : entryFrame m #[(.ref a0_), (.int p1)] 3 = mkF m 0 #[.val (.ref a0_), .val (.int p1), .unset] [] := by first | (simp [entryFrame, mkF, argsToLocals, Value.category]; done) | rfl
def Q_rm_cw (Z : State) (a0_ : Addr) (p1 : Int32) (pagerank : Addr) (h0 : Heap) (n0 : Nat) (v : Option Value) (h : Heap) (L : List Loc) : Prop := v = none ∧ Fr n0 L ∧ h = h0
theorem pn_1_ : plainName "com/example/heedful_rank/heedfulrank/methods/Kernel" = true := by first | (simp [plainName, overriddenIn]; done) | decide +kernel
theorem pn_1 : plainFor (⟨"com/example/heedful_rank/heedfulrank/methods/Kernel", "checkWidth", "(I)V"⟩ : MethodName) = true := plainFor_of_name pn_1_
set_option maxRecDepth 65536 in
set_option maxHeartbeats 40000000 in
theorem rm_cw (l : Launch) (Z : State) (a0 : Array Value) (hw : ∀ d ∈ tables_1, d.before a0 Z = true) (ws : List Jvm.Cond) (a0_ : Addr) (p1 : Int32) (pagerank : Addr) (h0 : Heap) (n0 : Nat) (O0 : Old Z n0 h0) (S_PAGERANK : Sta Z Z.heap "com/example/heedful_rank/heedfulrank/methods/Kernel" "PAGERANK" "Lcom/example/heedful_rank/heedfulrank/methods/Kernel;" (.ref pagerank)) (hw1 : a0_ = pagerank → ¬ p1 < 2) (hw2 : ¬ a0_ = pagerank → ¬ p1 < 1) :
    MetFree l (⟨"com/example/heedful_rank/heedfulrank/methods/Kernel", "checkWidth", "(I)V"⟩ : MethodName) (head1 (Jvm.Cond.code (⟨"com/example/heedful_rank/heedfulrank/methods/Kernel", "checkWidth", "(I)V"⟩ : MethodName) prog_16_method_6_code 3 none :: ws) ({ frames := 0, cells := 0, slots := 0, locals := 0 } : Room)) (fun a U => a = #[(.ref a0_), (.int p1)] ∧ Z.Warmed39 U.vm ∧ U.heap = h0) (fun _ _ _ _ _ => True) (fun _ U o U' => ∃ v L, o = .returned v ∧ (Q_rm_cw Z a0_ p1 pagerank h0 n0) v U'.heap L ∧ FrameEnd U o U' L ({ frames := 0, cells := 0, slots := 0, locals := 0 } : Room).cells ({ frames := 0, cells := 0, slots := 0, locals := 0 } : Room).slots) := by
  refine start (Q := (Q_rm_cw Z a0_ p1 pagerank h0 n0)) pn_1 ?_
  intro p e s m below meth c T0 X0 hx hby hml hown hnm hret hlk hZ e0
  replace hown : s.vm.findClass "com/example/heedful_rank/heedfulrank/methods/Kernel" = some m.cls := hown
  replace hml : c.maxLocals = 3 := hml
  refine goAt (ef_rm_cw m a0_ p1 ) ?_
  have N0 := Fr.nil n0
  show Go p e below T0 (mkF m 0 #[.val (.ref a0_), .val (.int p1), .unset] []) _
  refine stp (fun _ => XS.aloadN X0.here hx rfl (hb hby d3_0) rfl rfl) ?_
  show Go p e below T0 (mkF m 1 #[.val (.ref a0_), .val (.int p1), .unset] [(.ref a0_)]) _
  obtain ⟨T1, X1, e1, st1⟩ := getS2 X0 hx hZ hown (host := "") (Or.inl (hw _ (List.mem_of_getElem? (i := 17) rfl))) Via.refl e0 (S_PAGERANK.ext O0.2) (g := (mkF m 1 #[.val (.ref a0_), .val (.int p1), .unset] [(.ref a0_)])) rfl (hb hby d3_1)
  refine stp st1 ?_
  show Go p e below T1 (mkF m 4 #[.val (.ref a0_), .val (.int p1), .unset] [(.ref pagerank), (.ref a0_)]) _
  by_cases q4_2 : a0_ = pagerank
  · refine stp (fun _ => Jvm.RoadKit.acmp (g := (mkF m 4 #[.val (.ref a0_), .val (.int p1), .unset] [(.ref pagerank), (.ref a0_)])) X1 hx rfl rfl rfl (pc0 := 4) (pc' := 7) (same := true) rfl (hb hby d3_4) rfl (decide_eq_true (congrArg Value.ref q4_2)) (by decide) (by decide)) ?_
    show Go p e below T1 (mkF m 7 #[.val (.ref a0_), .val (.int p1), .unset] []) _
    refine stp (fun _ => XS.iconst X1.here hx rfl (hb hby d3_7)) ?_
    show Go p e below T1 (mkF m 8 #[.val (.ref a0_), .val (.int p1), .unset] [(.int (2 : Int32))]) _
    refine stp (fun _ => XS.goto X1.here hx rfl (pc0 := 8) (pc' := 12) rfl (hb hby d3_8) (by decide) (by decide)) ?_
    show Go p e below T1 (mkF m 12 #[.val (.ref a0_), .val (.int p1), .unset] [(.int (2 : Int32))]) _
    refine stp (fun _ => XS.istoreN X1.here hx rfl (hb hby d3_12) rfl (l' := #[.val (.ref a0_), .val (.int p1), .val (.int (2 : Int32))]) rfl) ?_
    show Go p e below T1 (mkF m 13 #[.val (.ref a0_), .val (.int p1), .val (.int (2 : Int32))] []) _
    refine stp (fun _ => XS.iloadN X1.here hx rfl (hb hby d3_13) rfl) ?_
    show Go p e below T1 (mkF m 14 #[.val (.ref a0_), .val (.int p1), .val (.int (2 : Int32))] [(.int p1)]) _
    refine stp (fun _ => XS.iloadN X1.here hx rfl (hb hby d3_14) rfl) ?_
    show Go p e below T1 (mkF m 15 #[.val (.ref a0_), .val (.int p1), .val (.int (2 : Int32))] [(.int (2 : Int32)), (.int p1)]) _
    refine stp (fun _ => XS.icmpYes X1.here hx rfl (pc0 := 15) (pc' := 43) rfl (hb hby d3_15) rfl (XT.ii_ge_t (hw1 q4_2)) (by decide) (by decide)) ?_
    show Go p e below T1 (mkF m 43 #[.val (.ref a0_), .val (.int p1), .val (.int (2 : Int32))] []) _
    refine outV X1 hx hret (hb hby d3_43) hlk (by decide) (by decide) ?_
    exact ⟨rfl, N0, e1⟩
  · refine stp (fun _ => Jvm.RoadKit.acmp (g := (mkF m 4 #[.val (.ref a0_), .val (.int p1), .unset] [(.ref pagerank), (.ref a0_)])) X1 hx rfl rfl rfl (pc0 := 4) (pc' := 11) (same := false) rfl (hb hby d3_4) rfl (decide_eq_false (fun z => q4_2 (Value.ref.inj z))) (by decide) (by decide)) ?_
    show Go p e below T1 (mkF m 11 #[.val (.ref a0_), .val (.int p1), .unset] []) _
    refine stp (fun _ => XS.iconst X1.here hx rfl (hb hby d3_11)) ?_
    show Go p e below T1 (mkF m 12 #[.val (.ref a0_), .val (.int p1), .unset] [(.int (1 : Int32))]) _
    refine stp (fun _ => XS.istoreN X1.here hx rfl (hb hby d3_12) rfl (l' := #[.val (.ref a0_), .val (.int p1), .val (.int (1 : Int32))]) rfl) ?_
    show Go p e below T1 (mkF m 13 #[.val (.ref a0_), .val (.int p1), .val (.int (1 : Int32))] []) _
    refine stp (fun _ => XS.iloadN X1.here hx rfl (hb hby d3_13) rfl) ?_
    show Go p e below T1 (mkF m 14 #[.val (.ref a0_), .val (.int p1), .val (.int (1 : Int32))] [(.int p1)]) _
    refine stp (fun _ => XS.iloadN X1.here hx rfl (hb hby d3_14) rfl) ?_
    show Go p e below T1 (mkF m 15 #[.val (.ref a0_), .val (.int p1), .val (.int (1 : Int32))] [(.int (1 : Int32)), (.int p1)]) _
    refine stp (fun _ => XS.icmpYes X1.here hx rfl (pc0 := 15) (pc' := 43) rfl (hb hby d3_15) rfl (XT.ii_ge_t (hw2 q4_2)) (by decide) (by decide)) ?_
    show Go p e below T1 (mkF m 43 #[.val (.ref a0_), .val (.int p1), .val (.int (1 : Int32))] []) _
    refine outV X1 hx hret (hb hby d3_43) hlk (by decide) (by decide) ?_
    exact ⟨rfl, N0, e1⟩
theorem pd_0 : parseMethodDescriptor "(I)Lcom/example/heedful_rank/heedfulrank/methods/Kernel;" = some ⟨[.int], some (.object "com/example/heedful_rank/heedfulrank/methods/Kernel")⟩ := by decide +kernel
theorem pd_1 : parseMethodDescriptor "(II)I" = some ⟨[.int, .int], some .int⟩ := by decide +kernel
theorem pd_2 : parseMethodDescriptor "(I)V" = some ⟨[.int], none⟩ := by decide +kernel
theorem ef_rm0 (m : MethodId) (p0 : Int32) (p1 : Int32)  : entryFrame m #[(.int p0), (.int p1)] maxLocals = mkF m 0 #[.val (.int p0), .val (.int p1), .unset, .unset, .unset, .unset] [] := by first | (simp [entryFrame, mkF, argsToLocals, Value.category, maxLocals]; done) | rfl
def Q_rm0 (Z : State) (p0 : Int32) (p1 : Int32) (gaussian triangle cosine circle passage pagerank : Addr) (h0 : Heap) (n0 : Nat) (v : Option Value) (h : Heap) (L : List Loc) : Prop := v = some (.int 1) ∧ Fr n0 L
theorem pn_2_ : plainName "com/example/heedful_rank/heedfulrank/methods/KernelCheckWidthPinLaw" = true := by first | (simp [plainName, overriddenIn]; done) | decide +kernel
theorem pn_2 : plainFor (⟨"com/example/heedful_rank/heedfulrank/methods/KernelCheckWidthPinLaw", "law", "(II)Z"⟩ : MethodName) = true := plainFor_of_name pn_2_
set_option maxRecDepth 65536 in
set_option maxHeartbeats 40000000 in
theorem rm0 (l : Launch) (Z : State) (a0 : Array Value) (hw : ∀ d ∈ tables_1, d.before a0 Z = true) (ws : List Jvm.Cond) (p0 : Int32) (p1 : Int32) (gaussian triangle cosine circle passage pagerank : Addr) (h0 : Heap) (n0 : Nat) (O0 : Old Z n0 h0) (S_GAUSSIAN : Sta Z Z.heap "com/example/heedful_rank/heedfulrank/methods/Kernel" "GAUSSIAN" "Lcom/example/heedful_rank/heedfulrank/methods/Kernel;" (.ref gaussian)) (S_TRIANGLE : Sta Z Z.heap "com/example/heedful_rank/heedfulrank/methods/Kernel" "TRIANGLE" "Lcom/example/heedful_rank/heedfulrank/methods/Kernel;" (.ref triangle)) (S_COSINE : Sta Z Z.heap "com/example/heedful_rank/heedfulrank/methods/Kernel" "COSINE" "Lcom/example/heedful_rank/heedfulrank/methods/Kernel;" (.ref cosine)) (S_CIRCLE : Sta Z Z.heap "com/example/heedful_rank/heedfulrank/methods/Kernel" "CIRCLE" "Lcom/example/heedful_rank/heedfulrank/methods/Kernel;" (.ref circle)) (S_PASSAGE : Sta Z Z.heap "com/example/heedful_rank/heedfulrank/methods/Kernel" "PASSAGE" "Lcom/example/heedful_rank/heedfulrank/methods/Kernel;" (.ref passage)) (S_PAGERANK : Sta Z Z.heap "com/example/heedful_rank/heedfulrank/methods/Kernel" "PAGERANK" "Lcom/example/heedful_rank/heedfulrank/methods/Kernel;" (.ref pagerank)) (E_GAUSSIAN : Exa Z Z.heap gaussian "com/example/heedful_rank/heedfulrank/methods/Kernel") (E_TRIANGLE : Exa Z Z.heap triangle "com/example/heedful_rank/heedfulrank/methods/Kernel") (E_COSINE : Exa Z Z.heap cosine "com/example/heedful_rank/heedfulrank/methods/Kernel") (E_CIRCLE : Exa Z Z.heap circle "com/example/heedful_rank/heedfulrank/methods/Kernel") (E_PASSAGE : Exa Z Z.heap passage "com/example/heedful_rank/heedfulrank/methods/Kernel") (E_PAGERANK : Exa Z Z.heap pagerank "com/example/heedful_rank/heedfulrank/methods/Kernel") (ne_GAUSSIAN : ¬ gaussian = pagerank) (ne_TRIANGLE : ¬ triangle = pagerank) (ne_COSINE : ¬ cosine = pagerank) (ne_CIRCLE : ¬ circle = pagerank) (ne_PASSAGE : ¬ passage = pagerank) :
    MetFree l x (head1 (Jvm.Cond.code x code maxLocals ret :: ws) room_1) (fun a U => a = #[(.int p0), (.int p1)] ∧ Z.Warmed39 U.vm ∧ U.heap = h0) (fun _ _ _ _ _ => True) (fun _ U o U' => ∃ v L, o = .returned v ∧ (Q_rm0 Z p0 p1 gaussian triangle cosine circle passage pagerank h0 n0) v U'.heap L ∧ FrameEnd U o U' L 0 0) := by
  refine start (Q := (Q_rm0 Z p0 p1 gaussian triangle cosine circle passage pagerank h0 n0)) (show plainFor x = true from pn_2) ?_
  intro p e s m below meth c T0 X0 hx hby hml hown hnm hret hlk hZ e0
  replace hown : s.vm.findClass "com/example/heedful_rank/heedfulrank/methods/KernelCheckWidthPinLaw" = some m.cls := hown
  replace hml : c.maxLocals = 6 := hml
  refine goAt (ef_rm0 m p0 p1 ) ?_
  have N0 := Fr.nil n0
  show Go p e below T0 (mkF m 0 #[.val (.int p0), .val (.int p1), .unset, .unset, .unset, .unset] []) _
  refine stp (fun _ => XS.iloadN X0.here hx rfl (hb hby at_0) rfl) ?_
  show Go p e below T0 (mkF m 1 #[.val (.int p0), .val (.int p1), .unset, .unset, .unset, .unset] [(.int p0)]) _
  refine stp (fun _ => X0.ldcInt hx hown (mvT hZ (hw _ (List.mem_of_getElem? (i := 0) rfl))) (g := (mkF m 1 #[.val (.int p0), .val (.int p1), .unset, .unset, .unset, .unset] [(.int p0)])) rfl (hb hby at_1) _) ?_
  show Go p e below T0 (mkF m 3 #[.val (.int p0), .val (.int p1), .unset, .unset, .unset, .unset] [(.int (2147483647 : Int32)), (.int p0)]) _
  refine stp (fun _ => XS.iand X0.here hx rfl (hb hby at_3) rfl) ?_
  show Go p e below T0 (mkF m 4 #[.val (.int p0), .val (.int p1), .unset, .unset, .unset, .unset] [(.int (p0 &&& (2147483647 : Int32)))]) _
  refine stp (fun _ => XS.bipush X0.here hx rfl (hb hby at_4)) ?_
  show Go p e below T0 (mkF m 6 #[.val (.int p0), .val (.int p1), .unset, .unset, .unset, .unset] [(.int (6 : Int32)), (.int (p0 &&& (2147483647 : Int32)))]) _
  refine stp (fun _ => iremM X0 hx rfl (hb hby at_6) rfl (by decide)) ?_
  show Go p e below T0 (mkF m 7 #[.val (.int p0), .val (.int p1), .unset, .unset, .unset, .unset] [(.int ((p0 &&& (2147483647 : Int32)) % (6 : Int32)))]) _
  refine stp (fun _ => XS.istoreN X0.here hx rfl (hb hby at_7) rfl (l' := #[.val (.int p0), .val (.int p1), .val (.int ((p0 &&& (2147483647 : Int32)) % (6 : Int32))), .unset, .unset, .unset]) rfl) ?_
  show Go p e below T0 (mkF m 8 #[.val (.int p0), .val (.int p1), .val (.int ((p0 &&& (2147483647 : Int32)) % (6 : Int32))), .unset, .unset, .unset] []) _
  obtain ⟨k, hk⟩ : ∃ k : Int32, k = ((p0 &&& (2147483647 : Int32)) % (6 : Int32)) := ⟨_, rfl⟩
  rw [← hk]
  by_cases hk0 : k = 0
  · subst hk0
    show Go p e below T0 (mkF m 8 #[.val (.int p0), .val (.int p1), .val (.int (0 : Int32)), .unset, .unset, .unset] []) _
    refine stp (fun _ => XS.iloadN X0.here hx rfl (hb hby at_8) rfl) ?_
    show Go p e below T0 (mkF m 9 #[.val (.int p0), .val (.int p1), .val (.int (0 : Int32)), .unset, .unset, .unset] [(.int (0 : Int32))]) _
    obtain ⟨_, _, ⟨T1, L1, k1, n1⟩, -, X1, ⟨Lc1, hQ1, l1, y1, z1⟩, st1⟩ := Jvm.LawKit.callS X0 hx (y := (⟨"com/example/heedful_rank/heedfulrank/methods/KernelCheckWidthPinLaw", "pick", "(I)Lcom/example/heedful_rank/heedfulrank/methods/Kernel;"⟩ : MethodName)) hown (mvT hZ (hw _ (List.mem_of_getElem? (i := 1) rfl))) (mvT hZ (hw _ (List.mem_of_getElem? (i := 2) rfl))) (mvT hZ (hw _ (List.mem_of_getElem? (i := 3) rfl))) (mvT hZ (hw _ (List.mem_of_getElem? (i := 4) rfl))) (by decide) (backOf (W := 0) (rm_pick l Z a0 hw [] (0 : Int32) gaussian triangle cosine circle passage pagerank gaussian h0 n0 O0 S_GAUSSIAN S_TRIANGLE S_COSINE S_CIRCLE S_PASSAGE S_PAGERANK ⟨fun _ => rfl, fun h => absurd h (by decide), fun h => absurd h (by decide), fun h => absurd h (by decide), fun h => absurd h (by decide), fun h0 h1 h2 h3 h4 => absurd rfl h0⟩) hZ (hw _ (List.mem_of_getElem? (i := 4) rfl)) (hw _ (List.mem_of_getElem? (i := 3) rfl)) (by decide) (by decide)) (g := (mkF m 9 #[.val (.int p0), .val (.int p1), .val (.int (0 : Int32)), .unset, .unset, .unset] [(.int (0 : Int32))])) rfl (by rw [hml]; rfl) (argsL := [(.int (0 : Int32))]) (rest := []) (lenOf pd_0 rfl) rfl (by show 2 * 0 + _ ≤ _; exact Nat.le_of_eq rfl) (hb hby at_9) (fun _ _ => ⟨rfl, e0, (by decide : 0 + 0 ≤ _), (by decide : 0 + 0 ≤ _)⟩)
    dsimp only [Pt.U, Pt.locs, Pt.cells, Pt.slots] at X1 l1 y1 z1 st1 hQ1
    subst l1 y1 z1
    obtain ⟨rfl, N1q, e1⟩ := hQ1
    have N1 := Fr.app N0 N1q
    refine stp st1 ?_
    show Go p e below T1 (mkF m 12 #[.val (.int p0), .val (.int p1), .val (.int (0 : Int32)), .unset, .unset, .unset] [(.ref gaussian)]) _
    refine stp (fun _ => XS.astoreN X1.here hx rfl (hb hby at_12) rfl rfl (l' := #[.val (.int p0), .val (.int p1), .val (.int (0 : Int32)), .val (.ref gaussian), .unset, .unset]) rfl) ?_
    show Go p e below T1 (mkF m 13 #[.val (.int p0), .val (.int p1), .val (.int (0 : Int32)), .val (.ref gaussian), .unset, .unset] []) _
    refine stp (fun _ => XS.iloadN X1.here hx rfl (hb hby at_13) rfl) ?_
    show Go p e below T1 (mkF m 14 #[.val (.int p0), .val (.int p1), .val (.int (0 : Int32)), .val (.ref gaussian), .unset, .unset] [(.int (0 : Int32))]) _
    refine stp (fun _ => XS.iconst X1.here hx rfl (hb hby at_14)) ?_
    show Go p e below T1 (mkF m 15 #[.val (.int p0), .val (.int p1), .val (.int (0 : Int32)), .val (.ref gaussian), .unset, .unset] [(.int (5 : Int32)), (.int (0 : Int32))]) _
    refine stp (fun _ => XS.icmpYes X1.here hx rfl (pc0 := 15) (pc' := 22) rfl (hb hby at_15) rfl (XT.ii_ne_t (by decide)) (by decide) (by decide)) ?_
    show Go p e below T1 (mkF m 22 #[.val (.int p0), .val (.int p1), .val (.int (0 : Int32)), .val (.ref gaussian), .unset, .unset] []) _
    refine stp (fun _ => XS.iconst X1.here hx rfl (hb hby at_22)) ?_
    show Go p e below T1 (mkF m 23 #[.val (.int p0), .val (.int p1), .val (.int (0 : Int32)), .val (.ref gaussian), .unset, .unset] [(.int (1 : Int32))]) _
    refine stp (fun _ => XS.istore X1.here hx rfl (hb hby at_23) rfl (l' := #[.val (.int p0), .val (.int p1), .val (.int (0 : Int32)), .val (.ref gaussian), .val (.int (1 : Int32)), .unset]) rfl) ?_
    show Go p e below T1 (mkF m 25 #[.val (.int p0), .val (.int p1), .val (.int (0 : Int32)), .val (.ref gaussian), .val (.int (1 : Int32)), .unset] []) _
    refine stp (fun _ => XS.iloadN X1.here hx rfl (hb hby at_25) rfl) ?_
    show Go p e below T1 (mkF m 26 #[.val (.int p0), .val (.int p1), .val (.int (0 : Int32)), .val (.ref gaussian), .val (.int (1 : Int32)), .unset] [(.int p1)]) _
    refine stp (fun _ => XS.iload X1.here hx rfl (hb hby at_26) rfl) ?_
    show Go p e below T1 (mkF m 28 #[.val (.int p0), .val (.int p1), .val (.int (0 : Int32)), .val (.ref gaussian), .val (.int (1 : Int32)), .unset] [(.int (1 : Int32)), (.int p1)]) _
    obtain ⟨_, _, ⟨T2, L2, k2, n2⟩, -, X2, ⟨Lc2, hQ2, l2, y2, z2⟩, st2⟩ := Jvm.LawKit.callS X1 hx (y := (⟨"java/lang/Math", "max", "(II)I"⟩ : MethodName)) hown (mvT hZ (hw _ (List.mem_of_getElem? (i := 8) rfl))) (mvT hZ (hw _ (List.mem_of_getElem? (i := 9) rfl))) (mvT hZ (hw _ (List.mem_of_getElem? (i := 10) rfl))) (mvT hZ (hw _ (List.mem_of_getElem? (i := 11) rfl))) (by decide) (backOf (W := 0) (rm_max l Z a0 hw [] p1 (1 : Int32) h0 n0 O0 ) hZ (hw _ (List.mem_of_getElem? (i := 11) rfl)) (hw _ (List.mem_of_getElem? (i := 10) rfl)) (by decide) (by decide)) (g := (mkF m 28 #[.val (.int p0), .val (.int p1), .val (.int (0 : Int32)), .val (.ref gaussian), .val (.int (1 : Int32)), .unset] [(.int (1 : Int32)), (.int p1)])) rfl (by rw [hml]; rfl) (argsL := [(.int p1), (.int (1 : Int32))]) (rest := []) (lenOf pd_1 rfl) rfl (by show 2 * 0 + _ ≤ _; exact Nat.le_of_eq rfl) (hb hby at_28) (fun _ _ => ⟨rfl, e1, (by decide : 0 + 0 ≤ _), (by decide : 0 + 0 ≤ _)⟩)
    dsimp only [Pt.U, Pt.locs, Pt.cells, Pt.slots] at X2 l2 y2 z2 st2 hQ2
    subst l2 y2 z2
    obtain ⟨rfl, N2q, e2⟩ := hQ2
    have N2 := Fr.app N1 N2q
    refine stp st2 ?_
    show Go p e below T2 (mkF m 31 #[.val (.int p0), .val (.int p1), .val (.int (0 : Int32)), .val (.ref gaussian), .val (.int (1 : Int32)), .unset] [(.int (if p1 < (1 : Int32) then (1 : Int32) else p1))]) _
    refine stp (fun _ => XS.istore X2.here hx rfl (hb hby at_31) rfl (l' := #[.val (.int p0), .val (.int p1), .val (.int (0 : Int32)), .val (.ref gaussian), .val (.int (1 : Int32)), .val (.int (if p1 < (1 : Int32) then (1 : Int32) else p1))]) rfl) ?_
    show Go p e below T2 (mkF m 33 #[.val (.int p0), .val (.int p1), .val (.int (0 : Int32)), .val (.ref gaussian), .val (.int (1 : Int32)), .val (.int (if p1 < (1 : Int32) then (1 : Int32) else p1))] []) _
    refine stp (fun _ => XS.aloadN X2.here hx rfl (hb hby at_33) rfl rfl) ?_
    show Go p e below T2 (mkF m 34 #[.val (.int p0), .val (.int p1), .val (.int (0 : Int32)), .val (.ref gaussian), .val (.int (1 : Int32)), .val (.int (if p1 < (1 : Int32) then (1 : Int32) else p1))] [(.ref gaussian)]) _
    refine stp (fun _ => XS.iload X2.here hx rfl (hb hby at_34) rfl) ?_
    show Go p e below T2 (mkF m 36 #[.val (.int p0), .val (.int p1), .val (.int (0 : Int32)), .val (.ref gaussian), .val (.int (1 : Int32)), .val (.int (if p1 < (1 : Int32) then (1 : Int32) else p1))] [(.int (if p1 < (1 : Int32) then (1 : Int32) else p1)), (.ref gaussian)]) _
    obtain ⟨cq3, kq3, q3a, q3b, q3c⟩ := isOf hZ e2 (E_GAUSSIAN.ext O0.2)
    obtain ⟨_, _, ⟨T3, L3, k3, n3⟩, -, X3, ⟨Lc3, hQ3, l3, y3, z3⟩, st3⟩ := X2.virtualBack hx (y := (⟨"com/example/heedful_rank/heedfulrank/methods/Kernel", "checkWidth", "(I)V"⟩ : MethodName)) (z := (⟨"com/example/heedful_rank/heedfulrank/methods/Kernel", "checkWidth", "(I)V"⟩ : MethodName)) hown (mvT hZ (hw _ (List.mem_of_getElem? (i := 12) rfl))) (mvT hZ (hw _ (List.mem_of_getElem? (i := 13) rfl))) (notFace_of_selects (args := #[]) (mvT hZ (hw _ (List.mem_of_getElem? (i := 15) rfl)))) (mvT hZ (hw _ (List.mem_of_getElem? (i := 15) rfl))) (mvT hZ (hw _ (List.mem_of_getElem? (i := 14) rfl))) (by decide) (backOf (W := 0) (rm_cw l Z a0 hw [] gaussian (if p1 < (1 : Int32) then (1 : Int32) else p1) pagerank h0 n0 O0 S_PAGERANK (fun h => absurd h ne_GAUSSIAN) (fun _ => own_max _ _)) hZ (hw _ (List.mem_of_getElem? (i := 16) rfl)) (hw _ (List.mem_of_getElem? (i := 6) rfl)) (by decide) (by decide)) q3a q3c (g := (mkF m 36 #[.val (.int p0), .val (.int p1), .val (.int (0 : Int32)), .val (.ref gaussian), .val (.int (1 : Int32)), .val (.int (if p1 < (1 : Int32) then (1 : Int32) else p1))] [(.int (if p1 < (1 : Int32) then (1 : Int32) else p1)), (.ref gaussian)])) rfl (by rw [hml]; rfl) (Steps.refl _) (argsL := [(.int (if p1 < (1 : Int32) then (1 : Int32) else p1))]) (rest := []) (lenOf pd_2 rfl) rfl (by show 2 * 0 + _ ≤ _; exact Nat.le_of_eq rfl) (hb hby at_36) (fun _ _ => ⟨rfl, e2, (by decide : 0 + 0 ≤ _), (by decide : 0 + 0 ≤ _)⟩)
    dsimp only [Pt.U, Pt.locs, Pt.cells, Pt.slots] at X3 l3 y3 z3 st3 hQ3
    subst l3 y3 z3
    obtain ⟨rfl, N3q, e3⟩ := hQ3
    have N3 := Fr.app N2 N3q
    refine stt st3 ?_
    show Go p e below T3 (mkF m 39 #[.val (.int p0), .val (.int p1), .val (.int (0 : Int32)), .val (.ref gaussian), .val (.int (1 : Int32)), .val (.int (if p1 < (1 : Int32) then (1 : Int32) else p1))] []) _
    refine stp (fun _ => XS.iconst X3.here hx rfl (hb hby at_39)) ?_
    show Go p e below T3 (mkF m 40 #[.val (.int p0), .val (.int p1), .val (.int (0 : Int32)), .val (.ref gaussian), .val (.int (1 : Int32)), .val (.int (if p1 < (1 : Int32) then (1 : Int32) else p1))] [(.int (1 : Int32))]) _
    refine outN X3 hx (t := .boolean) hret (by simp) (hb hby at_40) hlk (by decide) (by decide) ?_
    exact ⟨rfl, N3⟩
  by_cases hk1 : k = 1
  · subst hk1
    show Go p e below T0 (mkF m 8 #[.val (.int p0), .val (.int p1), .val (.int (1 : Int32)), .unset, .unset, .unset] []) _
    refine stp (fun _ => XS.iloadN X0.here hx rfl (hb hby at_8) rfl) ?_
    show Go p e below T0 (mkF m 9 #[.val (.int p0), .val (.int p1), .val (.int (1 : Int32)), .unset, .unset, .unset] [(.int (1 : Int32))]) _
    obtain ⟨_, _, ⟨T4, L4, k4, n4⟩, -, X4, ⟨Lc4, hQ4, l4, y4, z4⟩, st4⟩ := Jvm.LawKit.callS X0 hx (y := (⟨"com/example/heedful_rank/heedfulrank/methods/KernelCheckWidthPinLaw", "pick", "(I)Lcom/example/heedful_rank/heedfulrank/methods/Kernel;"⟩ : MethodName)) hown (mvT hZ (hw _ (List.mem_of_getElem? (i := 1) rfl))) (mvT hZ (hw _ (List.mem_of_getElem? (i := 2) rfl))) (mvT hZ (hw _ (List.mem_of_getElem? (i := 3) rfl))) (mvT hZ (hw _ (List.mem_of_getElem? (i := 4) rfl))) (by decide) (backOf (W := 0) (rm_pick l Z a0 hw [] (1 : Int32) gaussian triangle cosine circle passage pagerank triangle h0 n0 O0 S_GAUSSIAN S_TRIANGLE S_COSINE S_CIRCLE S_PASSAGE S_PAGERANK ⟨fun h => absurd h (by decide), fun _ => rfl, fun h => absurd h (by decide), fun h => absurd h (by decide), fun h => absurd h (by decide), fun h0 h1 h2 h3 h4 => absurd rfl h1⟩) hZ (hw _ (List.mem_of_getElem? (i := 4) rfl)) (hw _ (List.mem_of_getElem? (i := 3) rfl)) (by decide) (by decide)) (g := (mkF m 9 #[.val (.int p0), .val (.int p1), .val (.int (1 : Int32)), .unset, .unset, .unset] [(.int (1 : Int32))])) rfl (by rw [hml]; rfl) (argsL := [(.int (1 : Int32))]) (rest := []) (lenOf pd_0 rfl) rfl (by show 2 * 0 + _ ≤ _; exact Nat.le_of_eq rfl) (hb hby at_9) (fun _ _ => ⟨rfl, e0, (by decide : 0 + 0 ≤ _), (by decide : 0 + 0 ≤ _)⟩)
    dsimp only [Pt.U, Pt.locs, Pt.cells, Pt.slots] at X4 l4 y4 z4 st4 hQ4
    subst l4 y4 z4
    obtain ⟨rfl, N4q, e4⟩ := hQ4
    have N4 := Fr.app N0 N4q
    refine stp st4 ?_
    show Go p e below T4 (mkF m 12 #[.val (.int p0), .val (.int p1), .val (.int (1 : Int32)), .unset, .unset, .unset] [(.ref triangle)]) _
    refine stp (fun _ => XS.astoreN X4.here hx rfl (hb hby at_12) rfl rfl (l' := #[.val (.int p0), .val (.int p1), .val (.int (1 : Int32)), .val (.ref triangle), .unset, .unset]) rfl) ?_
    show Go p e below T4 (mkF m 13 #[.val (.int p0), .val (.int p1), .val (.int (1 : Int32)), .val (.ref triangle), .unset, .unset] []) _
    refine stp (fun _ => XS.iloadN X4.here hx rfl (hb hby at_13) rfl) ?_
    show Go p e below T4 (mkF m 14 #[.val (.int p0), .val (.int p1), .val (.int (1 : Int32)), .val (.ref triangle), .unset, .unset] [(.int (1 : Int32))]) _
    refine stp (fun _ => XS.iconst X4.here hx rfl (hb hby at_14)) ?_
    show Go p e below T4 (mkF m 15 #[.val (.int p0), .val (.int p1), .val (.int (1 : Int32)), .val (.ref triangle), .unset, .unset] [(.int (5 : Int32)), (.int (1 : Int32))]) _
    refine stp (fun _ => XS.icmpYes X4.here hx rfl (pc0 := 15) (pc' := 22) rfl (hb hby at_15) rfl (XT.ii_ne_t (by decide)) (by decide) (by decide)) ?_
    show Go p e below T4 (mkF m 22 #[.val (.int p0), .val (.int p1), .val (.int (1 : Int32)), .val (.ref triangle), .unset, .unset] []) _
    refine stp (fun _ => XS.iconst X4.here hx rfl (hb hby at_22)) ?_
    show Go p e below T4 (mkF m 23 #[.val (.int p0), .val (.int p1), .val (.int (1 : Int32)), .val (.ref triangle), .unset, .unset] [(.int (1 : Int32))]) _
    refine stp (fun _ => XS.istore X4.here hx rfl (hb hby at_23) rfl (l' := #[.val (.int p0), .val (.int p1), .val (.int (1 : Int32)), .val (.ref triangle), .val (.int (1 : Int32)), .unset]) rfl) ?_
    show Go p e below T4 (mkF m 25 #[.val (.int p0), .val (.int p1), .val (.int (1 : Int32)), .val (.ref triangle), .val (.int (1 : Int32)), .unset] []) _
    refine stp (fun _ => XS.iloadN X4.here hx rfl (hb hby at_25) rfl) ?_
    show Go p e below T4 (mkF m 26 #[.val (.int p0), .val (.int p1), .val (.int (1 : Int32)), .val (.ref triangle), .val (.int (1 : Int32)), .unset] [(.int p1)]) _
    refine stp (fun _ => XS.iload X4.here hx rfl (hb hby at_26) rfl) ?_
    show Go p e below T4 (mkF m 28 #[.val (.int p0), .val (.int p1), .val (.int (1 : Int32)), .val (.ref triangle), .val (.int (1 : Int32)), .unset] [(.int (1 : Int32)), (.int p1)]) _
    obtain ⟨_, _, ⟨T5, L5, k5, n5⟩, -, X5, ⟨Lc5, hQ5, l5, y5, z5⟩, st5⟩ := Jvm.LawKit.callS X4 hx (y := (⟨"java/lang/Math", "max", "(II)I"⟩ : MethodName)) hown (mvT hZ (hw _ (List.mem_of_getElem? (i := 8) rfl))) (mvT hZ (hw _ (List.mem_of_getElem? (i := 9) rfl))) (mvT hZ (hw _ (List.mem_of_getElem? (i := 10) rfl))) (mvT hZ (hw _ (List.mem_of_getElem? (i := 11) rfl))) (by decide) (backOf (W := 0) (rm_max l Z a0 hw [] p1 (1 : Int32) h0 n0 O0 ) hZ (hw _ (List.mem_of_getElem? (i := 11) rfl)) (hw _ (List.mem_of_getElem? (i := 10) rfl)) (by decide) (by decide)) (g := (mkF m 28 #[.val (.int p0), .val (.int p1), .val (.int (1 : Int32)), .val (.ref triangle), .val (.int (1 : Int32)), .unset] [(.int (1 : Int32)), (.int p1)])) rfl (by rw [hml]; rfl) (argsL := [(.int p1), (.int (1 : Int32))]) (rest := []) (lenOf pd_1 rfl) rfl (by show 2 * 0 + _ ≤ _; exact Nat.le_of_eq rfl) (hb hby at_28) (fun _ _ => ⟨rfl, e4, (by decide : 0 + 0 ≤ _), (by decide : 0 + 0 ≤ _)⟩)
    dsimp only [Pt.U, Pt.locs, Pt.cells, Pt.slots] at X5 l5 y5 z5 st5 hQ5
    subst l5 y5 z5
    obtain ⟨rfl, N5q, e5⟩ := hQ5
    have N5 := Fr.app N4 N5q
    refine stp st5 ?_
    show Go p e below T5 (mkF m 31 #[.val (.int p0), .val (.int p1), .val (.int (1 : Int32)), .val (.ref triangle), .val (.int (1 : Int32)), .unset] [(.int (if p1 < (1 : Int32) then (1 : Int32) else p1))]) _
    refine stp (fun _ => XS.istore X5.here hx rfl (hb hby at_31) rfl (l' := #[.val (.int p0), .val (.int p1), .val (.int (1 : Int32)), .val (.ref triangle), .val (.int (1 : Int32)), .val (.int (if p1 < (1 : Int32) then (1 : Int32) else p1))]) rfl) ?_
    show Go p e below T5 (mkF m 33 #[.val (.int p0), .val (.int p1), .val (.int (1 : Int32)), .val (.ref triangle), .val (.int (1 : Int32)), .val (.int (if p1 < (1 : Int32) then (1 : Int32) else p1))] []) _
    refine stp (fun _ => XS.aloadN X5.here hx rfl (hb hby at_33) rfl rfl) ?_
    show Go p e below T5 (mkF m 34 #[.val (.int p0), .val (.int p1), .val (.int (1 : Int32)), .val (.ref triangle), .val (.int (1 : Int32)), .val (.int (if p1 < (1 : Int32) then (1 : Int32) else p1))] [(.ref triangle)]) _
    refine stp (fun _ => XS.iload X5.here hx rfl (hb hby at_34) rfl) ?_
    show Go p e below T5 (mkF m 36 #[.val (.int p0), .val (.int p1), .val (.int (1 : Int32)), .val (.ref triangle), .val (.int (1 : Int32)), .val (.int (if p1 < (1 : Int32) then (1 : Int32) else p1))] [(.int (if p1 < (1 : Int32) then (1 : Int32) else p1)), (.ref triangle)]) _
    obtain ⟨cq6, kq6, q6a, q6b, q6c⟩ := isOf hZ e5 (E_TRIANGLE.ext O0.2)
    obtain ⟨_, _, ⟨T6, L6, k6, n6⟩, -, X6, ⟨Lc6, hQ6, l6, y6, z6⟩, st6⟩ := X5.virtualBack hx (y := (⟨"com/example/heedful_rank/heedfulrank/methods/Kernel", "checkWidth", "(I)V"⟩ : MethodName)) (z := (⟨"com/example/heedful_rank/heedfulrank/methods/Kernel", "checkWidth", "(I)V"⟩ : MethodName)) hown (mvT hZ (hw _ (List.mem_of_getElem? (i := 12) rfl))) (mvT hZ (hw _ (List.mem_of_getElem? (i := 13) rfl))) (notFace_of_selects (args := #[]) (mvT hZ (hw _ (List.mem_of_getElem? (i := 15) rfl)))) (mvT hZ (hw _ (List.mem_of_getElem? (i := 15) rfl))) (mvT hZ (hw _ (List.mem_of_getElem? (i := 14) rfl))) (by decide) (backOf (W := 0) (rm_cw l Z a0 hw [] triangle (if p1 < (1 : Int32) then (1 : Int32) else p1) pagerank h0 n0 O0 S_PAGERANK (fun h => absurd h ne_TRIANGLE) (fun _ => own_max _ _)) hZ (hw _ (List.mem_of_getElem? (i := 16) rfl)) (hw _ (List.mem_of_getElem? (i := 6) rfl)) (by decide) (by decide)) q6a q6c (g := (mkF m 36 #[.val (.int p0), .val (.int p1), .val (.int (1 : Int32)), .val (.ref triangle), .val (.int (1 : Int32)), .val (.int (if p1 < (1 : Int32) then (1 : Int32) else p1))] [(.int (if p1 < (1 : Int32) then (1 : Int32) else p1)), (.ref triangle)])) rfl (by rw [hml]; rfl) (Steps.refl _) (argsL := [(.int (if p1 < (1 : Int32) then (1 : Int32) else p1))]) (rest := []) (lenOf pd_2 rfl) rfl (by show 2 * 0 + _ ≤ _; exact Nat.le_of_eq rfl) (hb hby at_36) (fun _ _ => ⟨rfl, e5, (by decide : 0 + 0 ≤ _), (by decide : 0 + 0 ≤ _)⟩)
    dsimp only [Pt.U, Pt.locs, Pt.cells, Pt.slots] at X6 l6 y6 z6 st6 hQ6
    subst l6 y6 z6
    obtain ⟨rfl, N6q, e6⟩ := hQ6
    have N6 := Fr.app N5 N6q
    refine stt st6 ?_
    show Go p e below T6 (mkF m 39 #[.val (.int p0), .val (.int p1), .val (.int (1 : Int32)), .val (.ref triangle), .val (.int (1 : Int32)), .val (.int (if p1 < (1 : Int32) then (1 : Int32) else p1))] []) _
    refine stp (fun _ => XS.iconst X6.here hx rfl (hb hby at_39)) ?_
    show Go p e below T6 (mkF m 40 #[.val (.int p0), .val (.int p1), .val (.int (1 : Int32)), .val (.ref triangle), .val (.int (1 : Int32)), .val (.int (if p1 < (1 : Int32) then (1 : Int32) else p1))] [(.int (1 : Int32))]) _
    refine outN X6 hx (t := .boolean) hret (by simp) (hb hby at_40) hlk (by decide) (by decide) ?_
    exact ⟨rfl, N6⟩
  by_cases hk2 : k = 2
  · subst hk2
    show Go p e below T0 (mkF m 8 #[.val (.int p0), .val (.int p1), .val (.int (2 : Int32)), .unset, .unset, .unset] []) _
    refine stp (fun _ => XS.iloadN X0.here hx rfl (hb hby at_8) rfl) ?_
    show Go p e below T0 (mkF m 9 #[.val (.int p0), .val (.int p1), .val (.int (2 : Int32)), .unset, .unset, .unset] [(.int (2 : Int32))]) _
    obtain ⟨_, _, ⟨T7, L7, k7, n7⟩, -, X7, ⟨Lc7, hQ7, l7, y7, z7⟩, st7⟩ := Jvm.LawKit.callS X0 hx (y := (⟨"com/example/heedful_rank/heedfulrank/methods/KernelCheckWidthPinLaw", "pick", "(I)Lcom/example/heedful_rank/heedfulrank/methods/Kernel;"⟩ : MethodName)) hown (mvT hZ (hw _ (List.mem_of_getElem? (i := 1) rfl))) (mvT hZ (hw _ (List.mem_of_getElem? (i := 2) rfl))) (mvT hZ (hw _ (List.mem_of_getElem? (i := 3) rfl))) (mvT hZ (hw _ (List.mem_of_getElem? (i := 4) rfl))) (by decide) (backOf (W := 0) (rm_pick l Z a0 hw [] (2 : Int32) gaussian triangle cosine circle passage pagerank cosine h0 n0 O0 S_GAUSSIAN S_TRIANGLE S_COSINE S_CIRCLE S_PASSAGE S_PAGERANK ⟨fun h => absurd h (by decide), fun h => absurd h (by decide), fun _ => rfl, fun h => absurd h (by decide), fun h => absurd h (by decide), fun h0 h1 h2 h3 h4 => absurd rfl h2⟩) hZ (hw _ (List.mem_of_getElem? (i := 4) rfl)) (hw _ (List.mem_of_getElem? (i := 3) rfl)) (by decide) (by decide)) (g := (mkF m 9 #[.val (.int p0), .val (.int p1), .val (.int (2 : Int32)), .unset, .unset, .unset] [(.int (2 : Int32))])) rfl (by rw [hml]; rfl) (argsL := [(.int (2 : Int32))]) (rest := []) (lenOf pd_0 rfl) rfl (by show 2 * 0 + _ ≤ _; exact Nat.le_of_eq rfl) (hb hby at_9) (fun _ _ => ⟨rfl, e0, (by decide : 0 + 0 ≤ _), (by decide : 0 + 0 ≤ _)⟩)
    dsimp only [Pt.U, Pt.locs, Pt.cells, Pt.slots] at X7 l7 y7 z7 st7 hQ7
    subst l7 y7 z7
    obtain ⟨rfl, N7q, e7⟩ := hQ7
    have N7 := Fr.app N0 N7q
    refine stp st7 ?_
    show Go p e below T7 (mkF m 12 #[.val (.int p0), .val (.int p1), .val (.int (2 : Int32)), .unset, .unset, .unset] [(.ref cosine)]) _
    refine stp (fun _ => XS.astoreN X7.here hx rfl (hb hby at_12) rfl rfl (l' := #[.val (.int p0), .val (.int p1), .val (.int (2 : Int32)), .val (.ref cosine), .unset, .unset]) rfl) ?_
    show Go p e below T7 (mkF m 13 #[.val (.int p0), .val (.int p1), .val (.int (2 : Int32)), .val (.ref cosine), .unset, .unset] []) _
    refine stp (fun _ => XS.iloadN X7.here hx rfl (hb hby at_13) rfl) ?_
    show Go p e below T7 (mkF m 14 #[.val (.int p0), .val (.int p1), .val (.int (2 : Int32)), .val (.ref cosine), .unset, .unset] [(.int (2 : Int32))]) _
    refine stp (fun _ => XS.iconst X7.here hx rfl (hb hby at_14)) ?_
    show Go p e below T7 (mkF m 15 #[.val (.int p0), .val (.int p1), .val (.int (2 : Int32)), .val (.ref cosine), .unset, .unset] [(.int (5 : Int32)), (.int (2 : Int32))]) _
    refine stp (fun _ => XS.icmpYes X7.here hx rfl (pc0 := 15) (pc' := 22) rfl (hb hby at_15) rfl (XT.ii_ne_t (by decide)) (by decide) (by decide)) ?_
    show Go p e below T7 (mkF m 22 #[.val (.int p0), .val (.int p1), .val (.int (2 : Int32)), .val (.ref cosine), .unset, .unset] []) _
    refine stp (fun _ => XS.iconst X7.here hx rfl (hb hby at_22)) ?_
    show Go p e below T7 (mkF m 23 #[.val (.int p0), .val (.int p1), .val (.int (2 : Int32)), .val (.ref cosine), .unset, .unset] [(.int (1 : Int32))]) _
    refine stp (fun _ => XS.istore X7.here hx rfl (hb hby at_23) rfl (l' := #[.val (.int p0), .val (.int p1), .val (.int (2 : Int32)), .val (.ref cosine), .val (.int (1 : Int32)), .unset]) rfl) ?_
    show Go p e below T7 (mkF m 25 #[.val (.int p0), .val (.int p1), .val (.int (2 : Int32)), .val (.ref cosine), .val (.int (1 : Int32)), .unset] []) _
    refine stp (fun _ => XS.iloadN X7.here hx rfl (hb hby at_25) rfl) ?_
    show Go p e below T7 (mkF m 26 #[.val (.int p0), .val (.int p1), .val (.int (2 : Int32)), .val (.ref cosine), .val (.int (1 : Int32)), .unset] [(.int p1)]) _
    refine stp (fun _ => XS.iload X7.here hx rfl (hb hby at_26) rfl) ?_
    show Go p e below T7 (mkF m 28 #[.val (.int p0), .val (.int p1), .val (.int (2 : Int32)), .val (.ref cosine), .val (.int (1 : Int32)), .unset] [(.int (1 : Int32)), (.int p1)]) _
    obtain ⟨_, _, ⟨T8, L8, k8, n8⟩, -, X8, ⟨Lc8, hQ8, l8, y8, z8⟩, st8⟩ := Jvm.LawKit.callS X7 hx (y := (⟨"java/lang/Math", "max", "(II)I"⟩ : MethodName)) hown (mvT hZ (hw _ (List.mem_of_getElem? (i := 8) rfl))) (mvT hZ (hw _ (List.mem_of_getElem? (i := 9) rfl))) (mvT hZ (hw _ (List.mem_of_getElem? (i := 10) rfl))) (mvT hZ (hw _ (List.mem_of_getElem? (i := 11) rfl))) (by decide) (backOf (W := 0) (rm_max l Z a0 hw [] p1 (1 : Int32) h0 n0 O0 ) hZ (hw _ (List.mem_of_getElem? (i := 11) rfl)) (hw _ (List.mem_of_getElem? (i := 10) rfl)) (by decide) (by decide)) (g := (mkF m 28 #[.val (.int p0), .val (.int p1), .val (.int (2 : Int32)), .val (.ref cosine), .val (.int (1 : Int32)), .unset] [(.int (1 : Int32)), (.int p1)])) rfl (by rw [hml]; rfl) (argsL := [(.int p1), (.int (1 : Int32))]) (rest := []) (lenOf pd_1 rfl) rfl (by show 2 * 0 + _ ≤ _; exact Nat.le_of_eq rfl) (hb hby at_28) (fun _ _ => ⟨rfl, e7, (by decide : 0 + 0 ≤ _), (by decide : 0 + 0 ≤ _)⟩)
    dsimp only [Pt.U, Pt.locs, Pt.cells, Pt.slots] at X8 l8 y8 z8 st8 hQ8
    subst l8 y8 z8
    obtain ⟨rfl, N8q, e8⟩ := hQ8
    have N8 := Fr.app N7 N8q
    refine stp st8 ?_
    show Go p e below T8 (mkF m 31 #[.val (.int p0), .val (.int p1), .val (.int (2 : Int32)), .val (.ref cosine), .val (.int (1 : Int32)), .unset] [(.int (if p1 < (1 : Int32) then (1 : Int32) else p1))]) _
    refine stp (fun _ => XS.istore X8.here hx rfl (hb hby at_31) rfl (l' := #[.val (.int p0), .val (.int p1), .val (.int (2 : Int32)), .val (.ref cosine), .val (.int (1 : Int32)), .val (.int (if p1 < (1 : Int32) then (1 : Int32) else p1))]) rfl) ?_
    show Go p e below T8 (mkF m 33 #[.val (.int p0), .val (.int p1), .val (.int (2 : Int32)), .val (.ref cosine), .val (.int (1 : Int32)), .val (.int (if p1 < (1 : Int32) then (1 : Int32) else p1))] []) _
    refine stp (fun _ => XS.aloadN X8.here hx rfl (hb hby at_33) rfl rfl) ?_
    show Go p e below T8 (mkF m 34 #[.val (.int p0), .val (.int p1), .val (.int (2 : Int32)), .val (.ref cosine), .val (.int (1 : Int32)), .val (.int (if p1 < (1 : Int32) then (1 : Int32) else p1))] [(.ref cosine)]) _
    refine stp (fun _ => XS.iload X8.here hx rfl (hb hby at_34) rfl) ?_
    show Go p e below T8 (mkF m 36 #[.val (.int p0), .val (.int p1), .val (.int (2 : Int32)), .val (.ref cosine), .val (.int (1 : Int32)), .val (.int (if p1 < (1 : Int32) then (1 : Int32) else p1))] [(.int (if p1 < (1 : Int32) then (1 : Int32) else p1)), (.ref cosine)]) _
    obtain ⟨cq9, kq9, q9a, q9b, q9c⟩ := isOf hZ e8 (E_COSINE.ext O0.2)
    obtain ⟨_, _, ⟨T9, L9, k9, n9⟩, -, X9, ⟨Lc9, hQ9, l9, y9, z9⟩, st9⟩ := X8.virtualBack hx (y := (⟨"com/example/heedful_rank/heedfulrank/methods/Kernel", "checkWidth", "(I)V"⟩ : MethodName)) (z := (⟨"com/example/heedful_rank/heedfulrank/methods/Kernel", "checkWidth", "(I)V"⟩ : MethodName)) hown (mvT hZ (hw _ (List.mem_of_getElem? (i := 12) rfl))) (mvT hZ (hw _ (List.mem_of_getElem? (i := 13) rfl))) (notFace_of_selects (args := #[]) (mvT hZ (hw _ (List.mem_of_getElem? (i := 15) rfl)))) (mvT hZ (hw _ (List.mem_of_getElem? (i := 15) rfl))) (mvT hZ (hw _ (List.mem_of_getElem? (i := 14) rfl))) (by decide) (backOf (W := 0) (rm_cw l Z a0 hw [] cosine (if p1 < (1 : Int32) then (1 : Int32) else p1) pagerank h0 n0 O0 S_PAGERANK (fun h => absurd h ne_COSINE) (fun _ => own_max _ _)) hZ (hw _ (List.mem_of_getElem? (i := 16) rfl)) (hw _ (List.mem_of_getElem? (i := 6) rfl)) (by decide) (by decide)) q9a q9c (g := (mkF m 36 #[.val (.int p0), .val (.int p1), .val (.int (2 : Int32)), .val (.ref cosine), .val (.int (1 : Int32)), .val (.int (if p1 < (1 : Int32) then (1 : Int32) else p1))] [(.int (if p1 < (1 : Int32) then (1 : Int32) else p1)), (.ref cosine)])) rfl (by rw [hml]; rfl) (Steps.refl _) (argsL := [(.int (if p1 < (1 : Int32) then (1 : Int32) else p1))]) (rest := []) (lenOf pd_2 rfl) rfl (by show 2 * 0 + _ ≤ _; exact Nat.le_of_eq rfl) (hb hby at_36) (fun _ _ => ⟨rfl, e8, (by decide : 0 + 0 ≤ _), (by decide : 0 + 0 ≤ _)⟩)
    dsimp only [Pt.U, Pt.locs, Pt.cells, Pt.slots] at X9 l9 y9 z9 st9 hQ9
    subst l9 y9 z9
    obtain ⟨rfl, N9q, e9⟩ := hQ9
    have N9 := Fr.app N8 N9q
    refine stt st9 ?_
    show Go p e below T9 (mkF m 39 #[.val (.int p0), .val (.int p1), .val (.int (2 : Int32)), .val (.ref cosine), .val (.int (1 : Int32)), .val (.int (if p1 < (1 : Int32) then (1 : Int32) else p1))] []) _
    refine stp (fun _ => XS.iconst X9.here hx rfl (hb hby at_39)) ?_
    show Go p e below T9 (mkF m 40 #[.val (.int p0), .val (.int p1), .val (.int (2 : Int32)), .val (.ref cosine), .val (.int (1 : Int32)), .val (.int (if p1 < (1 : Int32) then (1 : Int32) else p1))] [(.int (1 : Int32))]) _
    refine outN X9 hx (t := .boolean) hret (by simp) (hb hby at_40) hlk (by decide) (by decide) ?_
    exact ⟨rfl, N9⟩
  by_cases hk3 : k = 3
  · subst hk3
    show Go p e below T0 (mkF m 8 #[.val (.int p0), .val (.int p1), .val (.int (3 : Int32)), .unset, .unset, .unset] []) _
    refine stp (fun _ => XS.iloadN X0.here hx rfl (hb hby at_8) rfl) ?_
    show Go p e below T0 (mkF m 9 #[.val (.int p0), .val (.int p1), .val (.int (3 : Int32)), .unset, .unset, .unset] [(.int (3 : Int32))]) _
    obtain ⟨_, _, ⟨T10, L10, k10, n10⟩, -, X10, ⟨Lc10, hQ10, l10, y10, z10⟩, st10⟩ := Jvm.LawKit.callS X0 hx (y := (⟨"com/example/heedful_rank/heedfulrank/methods/KernelCheckWidthPinLaw", "pick", "(I)Lcom/example/heedful_rank/heedfulrank/methods/Kernel;"⟩ : MethodName)) hown (mvT hZ (hw _ (List.mem_of_getElem? (i := 1) rfl))) (mvT hZ (hw _ (List.mem_of_getElem? (i := 2) rfl))) (mvT hZ (hw _ (List.mem_of_getElem? (i := 3) rfl))) (mvT hZ (hw _ (List.mem_of_getElem? (i := 4) rfl))) (by decide) (backOf (W := 0) (rm_pick l Z a0 hw [] (3 : Int32) gaussian triangle cosine circle passage pagerank circle h0 n0 O0 S_GAUSSIAN S_TRIANGLE S_COSINE S_CIRCLE S_PASSAGE S_PAGERANK ⟨fun h => absurd h (by decide), fun h => absurd h (by decide), fun h => absurd h (by decide), fun _ => rfl, fun h => absurd h (by decide), fun h0 h1 h2 h3 h4 => absurd rfl h3⟩) hZ (hw _ (List.mem_of_getElem? (i := 4) rfl)) (hw _ (List.mem_of_getElem? (i := 3) rfl)) (by decide) (by decide)) (g := (mkF m 9 #[.val (.int p0), .val (.int p1), .val (.int (3 : Int32)), .unset, .unset, .unset] [(.int (3 : Int32))])) rfl (by rw [hml]; rfl) (argsL := [(.int (3 : Int32))]) (rest := []) (lenOf pd_0 rfl) rfl (by show 2 * 0 + _ ≤ _; exact Nat.le_of_eq rfl) (hb hby at_9) (fun _ _ => ⟨rfl, e0, (by decide : 0 + 0 ≤ _), (by decide : 0 + 0 ≤ _)⟩)
    dsimp only [Pt.U, Pt.locs, Pt.cells, Pt.slots] at X10 l10 y10 z10 st10 hQ10
    subst l10 y10 z10
    obtain ⟨rfl, N10q, e10⟩ := hQ10
    have N10 := Fr.app N0 N10q
    refine stp st10 ?_
    show Go p e below T10 (mkF m 12 #[.val (.int p0), .val (.int p1), .val (.int (3 : Int32)), .unset, .unset, .unset] [(.ref circle)]) _
    refine stp (fun _ => XS.astoreN X10.here hx rfl (hb hby at_12) rfl rfl (l' := #[.val (.int p0), .val (.int p1), .val (.int (3 : Int32)), .val (.ref circle), .unset, .unset]) rfl) ?_
    show Go p e below T10 (mkF m 13 #[.val (.int p0), .val (.int p1), .val (.int (3 : Int32)), .val (.ref circle), .unset, .unset] []) _
    refine stp (fun _ => XS.iloadN X10.here hx rfl (hb hby at_13) rfl) ?_
    show Go p e below T10 (mkF m 14 #[.val (.int p0), .val (.int p1), .val (.int (3 : Int32)), .val (.ref circle), .unset, .unset] [(.int (3 : Int32))]) _
    refine stp (fun _ => XS.iconst X10.here hx rfl (hb hby at_14)) ?_
    show Go p e below T10 (mkF m 15 #[.val (.int p0), .val (.int p1), .val (.int (3 : Int32)), .val (.ref circle), .unset, .unset] [(.int (5 : Int32)), (.int (3 : Int32))]) _
    refine stp (fun _ => XS.icmpYes X10.here hx rfl (pc0 := 15) (pc' := 22) rfl (hb hby at_15) rfl (XT.ii_ne_t (by decide)) (by decide) (by decide)) ?_
    show Go p e below T10 (mkF m 22 #[.val (.int p0), .val (.int p1), .val (.int (3 : Int32)), .val (.ref circle), .unset, .unset] []) _
    refine stp (fun _ => XS.iconst X10.here hx rfl (hb hby at_22)) ?_
    show Go p e below T10 (mkF m 23 #[.val (.int p0), .val (.int p1), .val (.int (3 : Int32)), .val (.ref circle), .unset, .unset] [(.int (1 : Int32))]) _
    refine stp (fun _ => XS.istore X10.here hx rfl (hb hby at_23) rfl (l' := #[.val (.int p0), .val (.int p1), .val (.int (3 : Int32)), .val (.ref circle), .val (.int (1 : Int32)), .unset]) rfl) ?_
    show Go p e below T10 (mkF m 25 #[.val (.int p0), .val (.int p1), .val (.int (3 : Int32)), .val (.ref circle), .val (.int (1 : Int32)), .unset] []) _
    refine stp (fun _ => XS.iloadN X10.here hx rfl (hb hby at_25) rfl) ?_
    show Go p e below T10 (mkF m 26 #[.val (.int p0), .val (.int p1), .val (.int (3 : Int32)), .val (.ref circle), .val (.int (1 : Int32)), .unset] [(.int p1)]) _
    refine stp (fun _ => XS.iload X10.here hx rfl (hb hby at_26) rfl) ?_
    show Go p e below T10 (mkF m 28 #[.val (.int p0), .val (.int p1), .val (.int (3 : Int32)), .val (.ref circle), .val (.int (1 : Int32)), .unset] [(.int (1 : Int32)), (.int p1)]) _
    obtain ⟨_, _, ⟨T11, L11, k11, n11⟩, -, X11, ⟨Lc11, hQ11, l11, y11, z11⟩, st11⟩ := Jvm.LawKit.callS X10 hx (y := (⟨"java/lang/Math", "max", "(II)I"⟩ : MethodName)) hown (mvT hZ (hw _ (List.mem_of_getElem? (i := 8) rfl))) (mvT hZ (hw _ (List.mem_of_getElem? (i := 9) rfl))) (mvT hZ (hw _ (List.mem_of_getElem? (i := 10) rfl))) (mvT hZ (hw _ (List.mem_of_getElem? (i := 11) rfl))) (by decide) (backOf (W := 0) (rm_max l Z a0 hw [] p1 (1 : Int32) h0 n0 O0 ) hZ (hw _ (List.mem_of_getElem? (i := 11) rfl)) (hw _ (List.mem_of_getElem? (i := 10) rfl)) (by decide) (by decide)) (g := (mkF m 28 #[.val (.int p0), .val (.int p1), .val (.int (3 : Int32)), .val (.ref circle), .val (.int (1 : Int32)), .unset] [(.int (1 : Int32)), (.int p1)])) rfl (by rw [hml]; rfl) (argsL := [(.int p1), (.int (1 : Int32))]) (rest := []) (lenOf pd_1 rfl) rfl (by show 2 * 0 + _ ≤ _; exact Nat.le_of_eq rfl) (hb hby at_28) (fun _ _ => ⟨rfl, e10, (by decide : 0 + 0 ≤ _), (by decide : 0 + 0 ≤ _)⟩)
    dsimp only [Pt.U, Pt.locs, Pt.cells, Pt.slots] at X11 l11 y11 z11 st11 hQ11
    subst l11 y11 z11
    obtain ⟨rfl, N11q, e11⟩ := hQ11
    have N11 := Fr.app N10 N11q
    refine stp st11 ?_
    show Go p e below T11 (mkF m 31 #[.val (.int p0), .val (.int p1), .val (.int (3 : Int32)), .val (.ref circle), .val (.int (1 : Int32)), .unset] [(.int (if p1 < (1 : Int32) then (1 : Int32) else p1))]) _
    refine stp (fun _ => XS.istore X11.here hx rfl (hb hby at_31) rfl (l' := #[.val (.int p0), .val (.int p1), .val (.int (3 : Int32)), .val (.ref circle), .val (.int (1 : Int32)), .val (.int (if p1 < (1 : Int32) then (1 : Int32) else p1))]) rfl) ?_
    show Go p e below T11 (mkF m 33 #[.val (.int p0), .val (.int p1), .val (.int (3 : Int32)), .val (.ref circle), .val (.int (1 : Int32)), .val (.int (if p1 < (1 : Int32) then (1 : Int32) else p1))] []) _
    refine stp (fun _ => XS.aloadN X11.here hx rfl (hb hby at_33) rfl rfl) ?_
    show Go p e below T11 (mkF m 34 #[.val (.int p0), .val (.int p1), .val (.int (3 : Int32)), .val (.ref circle), .val (.int (1 : Int32)), .val (.int (if p1 < (1 : Int32) then (1 : Int32) else p1))] [(.ref circle)]) _
    refine stp (fun _ => XS.iload X11.here hx rfl (hb hby at_34) rfl) ?_
    show Go p e below T11 (mkF m 36 #[.val (.int p0), .val (.int p1), .val (.int (3 : Int32)), .val (.ref circle), .val (.int (1 : Int32)), .val (.int (if p1 < (1 : Int32) then (1 : Int32) else p1))] [(.int (if p1 < (1 : Int32) then (1 : Int32) else p1)), (.ref circle)]) _
    obtain ⟨cq12, kq12, q12a, q12b, q12c⟩ := isOf hZ e11 (E_CIRCLE.ext O0.2)
    obtain ⟨_, _, ⟨T12, L12, k12, n12⟩, -, X12, ⟨Lc12, hQ12, l12, y12, z12⟩, st12⟩ := X11.virtualBack hx (y := (⟨"com/example/heedful_rank/heedfulrank/methods/Kernel", "checkWidth", "(I)V"⟩ : MethodName)) (z := (⟨"com/example/heedful_rank/heedfulrank/methods/Kernel", "checkWidth", "(I)V"⟩ : MethodName)) hown (mvT hZ (hw _ (List.mem_of_getElem? (i := 12) rfl))) (mvT hZ (hw _ (List.mem_of_getElem? (i := 13) rfl))) (notFace_of_selects (args := #[]) (mvT hZ (hw _ (List.mem_of_getElem? (i := 15) rfl)))) (mvT hZ (hw _ (List.mem_of_getElem? (i := 15) rfl))) (mvT hZ (hw _ (List.mem_of_getElem? (i := 14) rfl))) (by decide) (backOf (W := 0) (rm_cw l Z a0 hw [] circle (if p1 < (1 : Int32) then (1 : Int32) else p1) pagerank h0 n0 O0 S_PAGERANK (fun h => absurd h ne_CIRCLE) (fun _ => own_max _ _)) hZ (hw _ (List.mem_of_getElem? (i := 16) rfl)) (hw _ (List.mem_of_getElem? (i := 6) rfl)) (by decide) (by decide)) q12a q12c (g := (mkF m 36 #[.val (.int p0), .val (.int p1), .val (.int (3 : Int32)), .val (.ref circle), .val (.int (1 : Int32)), .val (.int (if p1 < (1 : Int32) then (1 : Int32) else p1))] [(.int (if p1 < (1 : Int32) then (1 : Int32) else p1)), (.ref circle)])) rfl (by rw [hml]; rfl) (Steps.refl _) (argsL := [(.int (if p1 < (1 : Int32) then (1 : Int32) else p1))]) (rest := []) (lenOf pd_2 rfl) rfl (by show 2 * 0 + _ ≤ _; exact Nat.le_of_eq rfl) (hb hby at_36) (fun _ _ => ⟨rfl, e11, (by decide : 0 + 0 ≤ _), (by decide : 0 + 0 ≤ _)⟩)
    dsimp only [Pt.U, Pt.locs, Pt.cells, Pt.slots] at X12 l12 y12 z12 st12 hQ12
    subst l12 y12 z12
    obtain ⟨rfl, N12q, e12⟩ := hQ12
    have N12 := Fr.app N11 N12q
    refine stt st12 ?_
    show Go p e below T12 (mkF m 39 #[.val (.int p0), .val (.int p1), .val (.int (3 : Int32)), .val (.ref circle), .val (.int (1 : Int32)), .val (.int (if p1 < (1 : Int32) then (1 : Int32) else p1))] []) _
    refine stp (fun _ => XS.iconst X12.here hx rfl (hb hby at_39)) ?_
    show Go p e below T12 (mkF m 40 #[.val (.int p0), .val (.int p1), .val (.int (3 : Int32)), .val (.ref circle), .val (.int (1 : Int32)), .val (.int (if p1 < (1 : Int32) then (1 : Int32) else p1))] [(.int (1 : Int32))]) _
    refine outN X12 hx (t := .boolean) hret (by simp) (hb hby at_40) hlk (by decide) (by decide) ?_
    exact ⟨rfl, N12⟩
  by_cases hk4 : k = 4
  · subst hk4
    show Go p e below T0 (mkF m 8 #[.val (.int p0), .val (.int p1), .val (.int (4 : Int32)), .unset, .unset, .unset] []) _
    refine stp (fun _ => XS.iloadN X0.here hx rfl (hb hby at_8) rfl) ?_
    show Go p e below T0 (mkF m 9 #[.val (.int p0), .val (.int p1), .val (.int (4 : Int32)), .unset, .unset, .unset] [(.int (4 : Int32))]) _
    obtain ⟨_, _, ⟨T13, L13, k13, n13⟩, -, X13, ⟨Lc13, hQ13, l13, y13, z13⟩, st13⟩ := Jvm.LawKit.callS X0 hx (y := (⟨"com/example/heedful_rank/heedfulrank/methods/KernelCheckWidthPinLaw", "pick", "(I)Lcom/example/heedful_rank/heedfulrank/methods/Kernel;"⟩ : MethodName)) hown (mvT hZ (hw _ (List.mem_of_getElem? (i := 1) rfl))) (mvT hZ (hw _ (List.mem_of_getElem? (i := 2) rfl))) (mvT hZ (hw _ (List.mem_of_getElem? (i := 3) rfl))) (mvT hZ (hw _ (List.mem_of_getElem? (i := 4) rfl))) (by decide) (backOf (W := 0) (rm_pick l Z a0 hw [] (4 : Int32) gaussian triangle cosine circle passage pagerank passage h0 n0 O0 S_GAUSSIAN S_TRIANGLE S_COSINE S_CIRCLE S_PASSAGE S_PAGERANK ⟨fun h => absurd h (by decide), fun h => absurd h (by decide), fun h => absurd h (by decide), fun h => absurd h (by decide), fun _ => rfl, fun h0 h1 h2 h3 h4 => absurd rfl h4⟩) hZ (hw _ (List.mem_of_getElem? (i := 4) rfl)) (hw _ (List.mem_of_getElem? (i := 3) rfl)) (by decide) (by decide)) (g := (mkF m 9 #[.val (.int p0), .val (.int p1), .val (.int (4 : Int32)), .unset, .unset, .unset] [(.int (4 : Int32))])) rfl (by rw [hml]; rfl) (argsL := [(.int (4 : Int32))]) (rest := []) (lenOf pd_0 rfl) rfl (by show 2 * 0 + _ ≤ _; exact Nat.le_of_eq rfl) (hb hby at_9) (fun _ _ => ⟨rfl, e0, (by decide : 0 + 0 ≤ _), (by decide : 0 + 0 ≤ _)⟩)
    dsimp only [Pt.U, Pt.locs, Pt.cells, Pt.slots] at X13 l13 y13 z13 st13 hQ13
    subst l13 y13 z13
    obtain ⟨rfl, N13q, e13⟩ := hQ13
    have N13 := Fr.app N0 N13q
    refine stp st13 ?_
    show Go p e below T13 (mkF m 12 #[.val (.int p0), .val (.int p1), .val (.int (4 : Int32)), .unset, .unset, .unset] [(.ref passage)]) _
    refine stp (fun _ => XS.astoreN X13.here hx rfl (hb hby at_12) rfl rfl (l' := #[.val (.int p0), .val (.int p1), .val (.int (4 : Int32)), .val (.ref passage), .unset, .unset]) rfl) ?_
    show Go p e below T13 (mkF m 13 #[.val (.int p0), .val (.int p1), .val (.int (4 : Int32)), .val (.ref passage), .unset, .unset] []) _
    refine stp (fun _ => XS.iloadN X13.here hx rfl (hb hby at_13) rfl) ?_
    show Go p e below T13 (mkF m 14 #[.val (.int p0), .val (.int p1), .val (.int (4 : Int32)), .val (.ref passage), .unset, .unset] [(.int (4 : Int32))]) _
    refine stp (fun _ => XS.iconst X13.here hx rfl (hb hby at_14)) ?_
    show Go p e below T13 (mkF m 15 #[.val (.int p0), .val (.int p1), .val (.int (4 : Int32)), .val (.ref passage), .unset, .unset] [(.int (5 : Int32)), (.int (4 : Int32))]) _
    refine stp (fun _ => XS.icmpYes X13.here hx rfl (pc0 := 15) (pc' := 22) rfl (hb hby at_15) rfl (XT.ii_ne_t (by decide)) (by decide) (by decide)) ?_
    show Go p e below T13 (mkF m 22 #[.val (.int p0), .val (.int p1), .val (.int (4 : Int32)), .val (.ref passage), .unset, .unset] []) _
    refine stp (fun _ => XS.iconst X13.here hx rfl (hb hby at_22)) ?_
    show Go p e below T13 (mkF m 23 #[.val (.int p0), .val (.int p1), .val (.int (4 : Int32)), .val (.ref passage), .unset, .unset] [(.int (1 : Int32))]) _
    refine stp (fun _ => XS.istore X13.here hx rfl (hb hby at_23) rfl (l' := #[.val (.int p0), .val (.int p1), .val (.int (4 : Int32)), .val (.ref passage), .val (.int (1 : Int32)), .unset]) rfl) ?_
    show Go p e below T13 (mkF m 25 #[.val (.int p0), .val (.int p1), .val (.int (4 : Int32)), .val (.ref passage), .val (.int (1 : Int32)), .unset] []) _
    refine stp (fun _ => XS.iloadN X13.here hx rfl (hb hby at_25) rfl) ?_
    show Go p e below T13 (mkF m 26 #[.val (.int p0), .val (.int p1), .val (.int (4 : Int32)), .val (.ref passage), .val (.int (1 : Int32)), .unset] [(.int p1)]) _
    refine stp (fun _ => XS.iload X13.here hx rfl (hb hby at_26) rfl) ?_
    show Go p e below T13 (mkF m 28 #[.val (.int p0), .val (.int p1), .val (.int (4 : Int32)), .val (.ref passage), .val (.int (1 : Int32)), .unset] [(.int (1 : Int32)), (.int p1)]) _
    obtain ⟨_, _, ⟨T14, L14, k14, n14⟩, -, X14, ⟨Lc14, hQ14, l14, y14, z14⟩, st14⟩ := Jvm.LawKit.callS X13 hx (y := (⟨"java/lang/Math", "max", "(II)I"⟩ : MethodName)) hown (mvT hZ (hw _ (List.mem_of_getElem? (i := 8) rfl))) (mvT hZ (hw _ (List.mem_of_getElem? (i := 9) rfl))) (mvT hZ (hw _ (List.mem_of_getElem? (i := 10) rfl))) (mvT hZ (hw _ (List.mem_of_getElem? (i := 11) rfl))) (by decide) (backOf (W := 0) (rm_max l Z a0 hw [] p1 (1 : Int32) h0 n0 O0 ) hZ (hw _ (List.mem_of_getElem? (i := 11) rfl)) (hw _ (List.mem_of_getElem? (i := 10) rfl)) (by decide) (by decide)) (g := (mkF m 28 #[.val (.int p0), .val (.int p1), .val (.int (4 : Int32)), .val (.ref passage), .val (.int (1 : Int32)), .unset] [(.int (1 : Int32)), (.int p1)])) rfl (by rw [hml]; rfl) (argsL := [(.int p1), (.int (1 : Int32))]) (rest := []) (lenOf pd_1 rfl) rfl (by show 2 * 0 + _ ≤ _; exact Nat.le_of_eq rfl) (hb hby at_28) (fun _ _ => ⟨rfl, e13, (by decide : 0 + 0 ≤ _), (by decide : 0 + 0 ≤ _)⟩)
    dsimp only [Pt.U, Pt.locs, Pt.cells, Pt.slots] at X14 l14 y14 z14 st14 hQ14
    subst l14 y14 z14
    obtain ⟨rfl, N14q, e14⟩ := hQ14
    have N14 := Fr.app N13 N14q
    refine stp st14 ?_
    show Go p e below T14 (mkF m 31 #[.val (.int p0), .val (.int p1), .val (.int (4 : Int32)), .val (.ref passage), .val (.int (1 : Int32)), .unset] [(.int (if p1 < (1 : Int32) then (1 : Int32) else p1))]) _
    refine stp (fun _ => XS.istore X14.here hx rfl (hb hby at_31) rfl (l' := #[.val (.int p0), .val (.int p1), .val (.int (4 : Int32)), .val (.ref passage), .val (.int (1 : Int32)), .val (.int (if p1 < (1 : Int32) then (1 : Int32) else p1))]) rfl) ?_
    show Go p e below T14 (mkF m 33 #[.val (.int p0), .val (.int p1), .val (.int (4 : Int32)), .val (.ref passage), .val (.int (1 : Int32)), .val (.int (if p1 < (1 : Int32) then (1 : Int32) else p1))] []) _
    refine stp (fun _ => XS.aloadN X14.here hx rfl (hb hby at_33) rfl rfl) ?_
    show Go p e below T14 (mkF m 34 #[.val (.int p0), .val (.int p1), .val (.int (4 : Int32)), .val (.ref passage), .val (.int (1 : Int32)), .val (.int (if p1 < (1 : Int32) then (1 : Int32) else p1))] [(.ref passage)]) _
    refine stp (fun _ => XS.iload X14.here hx rfl (hb hby at_34) rfl) ?_
    show Go p e below T14 (mkF m 36 #[.val (.int p0), .val (.int p1), .val (.int (4 : Int32)), .val (.ref passage), .val (.int (1 : Int32)), .val (.int (if p1 < (1 : Int32) then (1 : Int32) else p1))] [(.int (if p1 < (1 : Int32) then (1 : Int32) else p1)), (.ref passage)]) _
    obtain ⟨cq15, kq15, q15a, q15b, q15c⟩ := isOf hZ e14 (E_PASSAGE.ext O0.2)
    obtain ⟨_, _, ⟨T15, L15, k15, n15⟩, -, X15, ⟨Lc15, hQ15, l15, y15, z15⟩, st15⟩ := X14.virtualBack hx (y := (⟨"com/example/heedful_rank/heedfulrank/methods/Kernel", "checkWidth", "(I)V"⟩ : MethodName)) (z := (⟨"com/example/heedful_rank/heedfulrank/methods/Kernel", "checkWidth", "(I)V"⟩ : MethodName)) hown (mvT hZ (hw _ (List.mem_of_getElem? (i := 12) rfl))) (mvT hZ (hw _ (List.mem_of_getElem? (i := 13) rfl))) (notFace_of_selects (args := #[]) (mvT hZ (hw _ (List.mem_of_getElem? (i := 15) rfl)))) (mvT hZ (hw _ (List.mem_of_getElem? (i := 15) rfl))) (mvT hZ (hw _ (List.mem_of_getElem? (i := 14) rfl))) (by decide) (backOf (W := 0) (rm_cw l Z a0 hw [] passage (if p1 < (1 : Int32) then (1 : Int32) else p1) pagerank h0 n0 O0 S_PAGERANK (fun h => absurd h ne_PASSAGE) (fun _ => own_max _ _)) hZ (hw _ (List.mem_of_getElem? (i := 16) rfl)) (hw _ (List.mem_of_getElem? (i := 6) rfl)) (by decide) (by decide)) q15a q15c (g := (mkF m 36 #[.val (.int p0), .val (.int p1), .val (.int (4 : Int32)), .val (.ref passage), .val (.int (1 : Int32)), .val (.int (if p1 < (1 : Int32) then (1 : Int32) else p1))] [(.int (if p1 < (1 : Int32) then (1 : Int32) else p1)), (.ref passage)])) rfl (by rw [hml]; rfl) (Steps.refl _) (argsL := [(.int (if p1 < (1 : Int32) then (1 : Int32) else p1))]) (rest := []) (lenOf pd_2 rfl) rfl (by show 2 * 0 + _ ≤ _; exact Nat.le_of_eq rfl) (hb hby at_36) (fun _ _ => ⟨rfl, e14, (by decide : 0 + 0 ≤ _), (by decide : 0 + 0 ≤ _)⟩)
    dsimp only [Pt.U, Pt.locs, Pt.cells, Pt.slots] at X15 l15 y15 z15 st15 hQ15
    subst l15 y15 z15
    obtain ⟨rfl, N15q, e15⟩ := hQ15
    have N15 := Fr.app N14 N15q
    refine stt st15 ?_
    show Go p e below T15 (mkF m 39 #[.val (.int p0), .val (.int p1), .val (.int (4 : Int32)), .val (.ref passage), .val (.int (1 : Int32)), .val (.int (if p1 < (1 : Int32) then (1 : Int32) else p1))] []) _
    refine stp (fun _ => XS.iconst X15.here hx rfl (hb hby at_39)) ?_
    show Go p e below T15 (mkF m 40 #[.val (.int p0), .val (.int p1), .val (.int (4 : Int32)), .val (.ref passage), .val (.int (1 : Int32)), .val (.int (if p1 < (1 : Int32) then (1 : Int32) else p1))] [(.int (1 : Int32))]) _
    refine outN X15 hx (t := .boolean) hret (by simp) (hb hby at_40) hlk (by decide) (by decide) ?_
    exact ⟨rfl, N15⟩
  have hk5 : k = 5 := own_six hk hk0 hk1 hk2 hk3 hk4
  show Go p e below T0 (mkF m 8 #[.val (.int p0), .val (.int p1), .val (.int k), .unset, .unset, .unset] []) _
  refine stp (fun _ => XS.iloadN X0.here hx rfl (hb hby at_8) rfl) ?_
  show Go p e below T0 (mkF m 9 #[.val (.int p0), .val (.int p1), .val (.int k), .unset, .unset, .unset] [(.int k)]) _
  obtain ⟨_, _, ⟨T16, L16, k16, n16⟩, -, X16, ⟨Lc16, hQ16, l16, y16, z16⟩, st16⟩ := Jvm.LawKit.callS X0 hx (y := (⟨"com/example/heedful_rank/heedfulrank/methods/KernelCheckWidthPinLaw", "pick", "(I)Lcom/example/heedful_rank/heedfulrank/methods/Kernel;"⟩ : MethodName)) hown (mvT hZ (hw _ (List.mem_of_getElem? (i := 1) rfl))) (mvT hZ (hw _ (List.mem_of_getElem? (i := 2) rfl))) (mvT hZ (hw _ (List.mem_of_getElem? (i := 3) rfl))) (mvT hZ (hw _ (List.mem_of_getElem? (i := 4) rfl))) (by decide) (backOf (W := 0) (rm_pick l Z a0 hw [] k gaussian triangle cosine circle passage pagerank pagerank h0 n0 O0 S_GAUSSIAN S_TRIANGLE S_COSINE S_CIRCLE S_PASSAGE S_PAGERANK ⟨fun h => absurd h hk0, fun h => absurd h hk1, fun h => absurd h hk2, fun h => absurd h hk3, fun h => absurd h hk4, fun _ _ _ _ _ => rfl⟩) hZ (hw _ (List.mem_of_getElem? (i := 4) rfl)) (hw _ (List.mem_of_getElem? (i := 3) rfl)) (by decide) (by decide)) (g := (mkF m 9 #[.val (.int p0), .val (.int p1), .val (.int k), .unset, .unset, .unset] [(.int k)])) rfl (by rw [hml]; rfl) (argsL := [(.int k)]) (rest := []) (lenOf pd_0 rfl) rfl (by show 2 * 0 + _ ≤ _; exact Nat.le_of_eq rfl) (hb hby at_9) (fun _ _ => ⟨rfl, e0, (by decide : 0 + 0 ≤ _), (by decide : 0 + 0 ≤ _)⟩)
  dsimp only [Pt.U, Pt.locs, Pt.cells, Pt.slots] at X16 l16 y16 z16 st16 hQ16
  subst l16 y16 z16
  obtain ⟨rfl, N16q, e16⟩ := hQ16
  have N16 := Fr.app N0 N16q
  refine stp st16 ?_
  show Go p e below T16 (mkF m 12 #[.val (.int p0), .val (.int p1), .val (.int k), .unset, .unset, .unset] [(.ref pagerank)]) _
  refine stp (fun _ => XS.astoreN X16.here hx rfl (hb hby at_12) rfl rfl (l' := #[.val (.int p0), .val (.int p1), .val (.int k), .val (.ref pagerank), .unset, .unset]) rfl) ?_
  show Go p e below T16 (mkF m 13 #[.val (.int p0), .val (.int p1), .val (.int k), .val (.ref pagerank), .unset, .unset] []) _
  refine stp (fun _ => XS.iloadN X16.here hx rfl (hb hby at_13) rfl) ?_
  show Go p e below T16 (mkF m 14 #[.val (.int p0), .val (.int p1), .val (.int k), .val (.ref pagerank), .unset, .unset] [(.int k)]) _
  refine stp (fun _ => XS.iconst X16.here hx rfl (hb hby at_14)) ?_
  show Go p e below T16 (mkF m 15 #[.val (.int p0), .val (.int p1), .val (.int k), .val (.ref pagerank), .unset, .unset] [(.int (5 : Int32)), (.int k)]) _
  refine stp (fun _ => XS.icmpNo X16.here hx rfl (hb hby at_15) rfl (XT.ii_ne_f hk5)) ?_
  show Go p e below T16 (mkF m 18 #[.val (.int p0), .val (.int p1), .val (.int k), .val (.ref pagerank), .unset, .unset] []) _
  refine stp (fun _ => XS.iconst X16.here hx rfl (hb hby at_18)) ?_
  show Go p e below T16 (mkF m 19 #[.val (.int p0), .val (.int p1), .val (.int k), .val (.ref pagerank), .unset, .unset] [(.int (2 : Int32))]) _
  refine stp (fun _ => XS.goto X16.here hx rfl (pc0 := 19) (pc' := 23) rfl (hb hby at_19) (by decide) (by decide)) ?_
  show Go p e below T16 (mkF m 23 #[.val (.int p0), .val (.int p1), .val (.int k), .val (.ref pagerank), .unset, .unset] [(.int (2 : Int32))]) _
  refine stp (fun _ => XS.istore X16.here hx rfl (hb hby at_23) rfl (l' := #[.val (.int p0), .val (.int p1), .val (.int k), .val (.ref pagerank), .val (.int (2 : Int32)), .unset]) rfl) ?_
  show Go p e below T16 (mkF m 25 #[.val (.int p0), .val (.int p1), .val (.int k), .val (.ref pagerank), .val (.int (2 : Int32)), .unset] []) _
  refine stp (fun _ => XS.iloadN X16.here hx rfl (hb hby at_25) rfl) ?_
  show Go p e below T16 (mkF m 26 #[.val (.int p0), .val (.int p1), .val (.int k), .val (.ref pagerank), .val (.int (2 : Int32)), .unset] [(.int p1)]) _
  refine stp (fun _ => XS.iload X16.here hx rfl (hb hby at_26) rfl) ?_
  show Go p e below T16 (mkF m 28 #[.val (.int p0), .val (.int p1), .val (.int k), .val (.ref pagerank), .val (.int (2 : Int32)), .unset] [(.int (2 : Int32)), (.int p1)]) _
  obtain ⟨_, _, ⟨T17, L17, k17, n17⟩, -, X17, ⟨Lc17, hQ17, l17, y17, z17⟩, st17⟩ := Jvm.LawKit.callS X16 hx (y := (⟨"java/lang/Math", "max", "(II)I"⟩ : MethodName)) hown (mvT hZ (hw _ (List.mem_of_getElem? (i := 8) rfl))) (mvT hZ (hw _ (List.mem_of_getElem? (i := 9) rfl))) (mvT hZ (hw _ (List.mem_of_getElem? (i := 10) rfl))) (mvT hZ (hw _ (List.mem_of_getElem? (i := 11) rfl))) (by decide) (backOf (W := 0) (rm_max l Z a0 hw [] p1 (2 : Int32) h0 n0 O0 ) hZ (hw _ (List.mem_of_getElem? (i := 11) rfl)) (hw _ (List.mem_of_getElem? (i := 10) rfl)) (by decide) (by decide)) (g := (mkF m 28 #[.val (.int p0), .val (.int p1), .val (.int k), .val (.ref pagerank), .val (.int (2 : Int32)), .unset] [(.int (2 : Int32)), (.int p1)])) rfl (by rw [hml]; rfl) (argsL := [(.int p1), (.int (2 : Int32))]) (rest := []) (lenOf pd_1 rfl) rfl (by show 2 * 0 + _ ≤ _; exact Nat.le_of_eq rfl) (hb hby at_28) (fun _ _ => ⟨rfl, e16, (by decide : 0 + 0 ≤ _), (by decide : 0 + 0 ≤ _)⟩)
  dsimp only [Pt.U, Pt.locs, Pt.cells, Pt.slots] at X17 l17 y17 z17 st17 hQ17
  subst l17 y17 z17
  obtain ⟨rfl, N17q, e17⟩ := hQ17
  have N17 := Fr.app N16 N17q
  refine stp st17 ?_
  show Go p e below T17 (mkF m 31 #[.val (.int p0), .val (.int p1), .val (.int k), .val (.ref pagerank), .val (.int (2 : Int32)), .unset] [(.int (if p1 < (2 : Int32) then (2 : Int32) else p1))]) _
  refine stp (fun _ => XS.istore X17.here hx rfl (hb hby at_31) rfl (l' := #[.val (.int p0), .val (.int p1), .val (.int k), .val (.ref pagerank), .val (.int (2 : Int32)), .val (.int (if p1 < (2 : Int32) then (2 : Int32) else p1))]) rfl) ?_
  show Go p e below T17 (mkF m 33 #[.val (.int p0), .val (.int p1), .val (.int k), .val (.ref pagerank), .val (.int (2 : Int32)), .val (.int (if p1 < (2 : Int32) then (2 : Int32) else p1))] []) _
  refine stp (fun _ => XS.aloadN X17.here hx rfl (hb hby at_33) rfl rfl) ?_
  show Go p e below T17 (mkF m 34 #[.val (.int p0), .val (.int p1), .val (.int k), .val (.ref pagerank), .val (.int (2 : Int32)), .val (.int (if p1 < (2 : Int32) then (2 : Int32) else p1))] [(.ref pagerank)]) _
  refine stp (fun _ => XS.iload X17.here hx rfl (hb hby at_34) rfl) ?_
  show Go p e below T17 (mkF m 36 #[.val (.int p0), .val (.int p1), .val (.int k), .val (.ref pagerank), .val (.int (2 : Int32)), .val (.int (if p1 < (2 : Int32) then (2 : Int32) else p1))] [(.int (if p1 < (2 : Int32) then (2 : Int32) else p1)), (.ref pagerank)]) _
  obtain ⟨cq18, kq18, q18a, q18b, q18c⟩ := isOf hZ e17 (E_PAGERANK.ext O0.2)
  obtain ⟨_, _, ⟨T18, L18, k18, n18⟩, -, X18, ⟨Lc18, hQ18, l18, y18, z18⟩, st18⟩ := X17.virtualBack hx (y := (⟨"com/example/heedful_rank/heedfulrank/methods/Kernel", "checkWidth", "(I)V"⟩ : MethodName)) (z := (⟨"com/example/heedful_rank/heedfulrank/methods/Kernel", "checkWidth", "(I)V"⟩ : MethodName)) hown (mvT hZ (hw _ (List.mem_of_getElem? (i := 12) rfl))) (mvT hZ (hw _ (List.mem_of_getElem? (i := 13) rfl))) (notFace_of_selects (args := #[]) (mvT hZ (hw _ (List.mem_of_getElem? (i := 15) rfl)))) (mvT hZ (hw _ (List.mem_of_getElem? (i := 15) rfl))) (mvT hZ (hw _ (List.mem_of_getElem? (i := 14) rfl))) (by decide) (backOf (W := 0) (rm_cw l Z a0 hw [] pagerank (if p1 < (2 : Int32) then (2 : Int32) else p1) pagerank h0 n0 O0 S_PAGERANK (fun _ => own_max _ _) (fun h => absurd rfl h)) hZ (hw _ (List.mem_of_getElem? (i := 16) rfl)) (hw _ (List.mem_of_getElem? (i := 6) rfl)) (by decide) (by decide)) q18a q18c (g := (mkF m 36 #[.val (.int p0), .val (.int p1), .val (.int k), .val (.ref pagerank), .val (.int (2 : Int32)), .val (.int (if p1 < (2 : Int32) then (2 : Int32) else p1))] [(.int (if p1 < (2 : Int32) then (2 : Int32) else p1)), (.ref pagerank)])) rfl (by rw [hml]; rfl) (Steps.refl _) (argsL := [(.int (if p1 < (2 : Int32) then (2 : Int32) else p1))]) (rest := []) (lenOf pd_2 rfl) rfl (by show 2 * 0 + _ ≤ _; exact Nat.le_of_eq rfl) (hb hby at_36) (fun _ _ => ⟨rfl, e17, (by decide : 0 + 0 ≤ _), (by decide : 0 + 0 ≤ _)⟩)
  dsimp only [Pt.U, Pt.locs, Pt.cells, Pt.slots] at X18 l18 y18 z18 st18 hQ18
  subst l18 y18 z18
  obtain ⟨rfl, N18q, e18⟩ := hQ18
  have N18 := Fr.app N17 N18q
  refine stt st18 ?_
  show Go p e below T18 (mkF m 39 #[.val (.int p0), .val (.int p1), .val (.int k), .val (.ref pagerank), .val (.int (2 : Int32)), .val (.int (if p1 < (2 : Int32) then (2 : Int32) else p1))] []) _
  refine stp (fun _ => XS.iconst X18.here hx rfl (hb hby at_39)) ?_
  show Go p e below T18 (mkF m 40 #[.val (.int p0), .val (.int p1), .val (.int k), .val (.ref pagerank), .val (.int (2 : Int32)), .val (.int (if p1 < (2 : Int32) then (2 : Int32) else p1))] [(.int (1 : Int32))]) _
  refine outN X18 hx (t := .boolean) hret (by simp) (hb hby at_40) hlk (by decide) (by decide) ?_
  exact ⟨rfl, N18⟩
set_option maxRecDepth 65536 in
set_option maxHeartbeats 40000000 in
theorem comes_1 {Post : Tables → Env → Array Value → State → Outcome → State → Prop} (hpost : ∀ tb e args s v u, (limb_1_1.after args s (.returned v) u = true ∧ limb_1_2.after args s (.returned v) u = true ∧ True) → FrameEnd s (.returned v) u (Jvm.fieldLocs frame_1_writes args s ++ Jvm.arrayLocs frame_1_arrays args s ++ Jvm.staticLocs frame_1_statics s) 0 0 → Post tb e args s (.returned v) u) :
    ArmFor flags0 classFile x code maxLocals ret World_1 tables_1 room_1 Calls_1 rest_1 Pre_1 Post := by
  intro l hfl _ _ p e ha hc hk s m args below hf hA hF happ hP
  obtain ⟨hcalls, hrest, hpre⟩ := hP
  obtain ⟨-, -, -, hnamed, -, -, -, hat⟩ := (Spec.applies_iff hf).mp happ
  obtain ⟨hg, hn⟩ := and_e (Cond.before_iff.mp (show (Jvm.Cond.and given_1 narrow_1).before args s = true from hpre))
  obtain ⟨g1, g2⟩ := and_e hg
  obtain ⟨g3, g4⟩ := and_e g2
  obtain ⟨w0, w1, rfl⟩ : ∃ w0 w1 : Value, args = #[w0, w1] := by
    have hs : args.size = 2 := by simpa [Cond.value, given_1] using g1
    obtain ⟨L⟩ := args
    match L, hs with
    | [w0, w1], _ => exact ⟨w0, w1, rfl⟩
  have hw := fun d (hd : d ∈ tables_1) => atoms_spec (ws := Jvm.Cond.code x code maxLocals ret :: tables_1) hat d (List.mem_cons_of_mem _ hd)
  have hfit : Fit s := fun {y c} hc i hi => by
    obtain ⟨ha, rfl⟩ := Array.getElem?_eq_some_iff.mp hc
    have q := List.all_eq_true.mp ((Array.all_eq_true_iff_forall_mem.mp hF) _ (Array.getElem_mem ha)) i (List.mem_range.mpr hi)
    simpa [Array.getElem?_eq_getElem hi] using q
  obtain ⟨i0, ei0⟩ := is_v g3
  obtain rfl : w0 = (.int i0) := Option.some.inj ei0
  obtain ⟨i1, ei1⟩ := is_v g4
  obtain rfl : w1 = (.int i1) := Option.some.inj ei1
  obtain ⟨g5, g6⟩ := and_e hn
  obtain ⟨a_GAUSSIAN, ev_a_GAUSSIAN⟩ := exa_v g5
  have S_a_GAUSSIAN := Sta.start ev_a_GAUSSIAN (Or.inr ⟨(hw _ (List.mem_of_getElem? (i := 6) rfl)), (hw _ (List.mem_of_getElem? (i := 7) rfl))⟩)
  have E_a_GAUSSIAN := Exa.start ev_a_GAUSSIAN g5
  obtain ⟨g7, g8⟩ := and_e g6
  obtain ⟨a_PAGERANK, ev_a_PAGERANK⟩ := exa_v g7
  have S_a_PAGERANK := Sta.start ev_a_PAGERANK (Or.inr ⟨(hw _ (List.mem_of_getElem? (i := 6) rfl)), (hw _ (List.mem_of_getElem? (i := 18) rfl))⟩)
  have E_a_PAGERANK := Exa.start ev_a_PAGERANK g7
  obtain ⟨g9, g10⟩ := and_e g8
  obtain ⟨g11, g12⟩ := and_e g10
  obtain ⟨g13, g14⟩ := and_e g12
  obtain ⟨a_COSINE, ev_a_COSINE⟩ := exa_v g13
  have S_a_COSINE := Sta.start ev_a_COSINE (Or.inr ⟨(hw _ (List.mem_of_getElem? (i := 6) rfl)), (hw _ (List.mem_of_getElem? (i := 20) rfl))⟩)
  have E_a_COSINE := Exa.start ev_a_COSINE g13
  obtain ⟨g15, g16⟩ := and_e g14
  obtain ⟨g17, g18⟩ := and_e g16
  obtain ⟨a_PASSAGE, ev_a_PASSAGE⟩ := exa_v g17
  have S_a_PASSAGE := Sta.start ev_a_PASSAGE (Or.inr ⟨(hw _ (List.mem_of_getElem? (i := 6) rfl)), (hw _ (List.mem_of_getElem? (i := 22) rfl))⟩)
  have E_a_PASSAGE := Exa.start ev_a_PASSAGE g17
  obtain ⟨g19, g20⟩ := and_e g18
  obtain ⟨g21, g22⟩ := and_e g20
  obtain ⟨a_TRIANGLE, ev_a_TRIANGLE⟩ := exa_v g21
  have S_a_TRIANGLE := Sta.start ev_a_TRIANGLE (Or.inr ⟨(hw _ (List.mem_of_getElem? (i := 6) rfl)), (hw _ (List.mem_of_getElem? (i := 24) rfl))⟩)
  have E_a_TRIANGLE := Exa.start ev_a_TRIANGLE g21
  obtain ⟨g23, g24⟩ := and_e g22
  obtain ⟨g25, g26⟩ := and_e g24
  obtain ⟨a_CIRCLE, ev_a_CIRCLE⟩ := exa_v g25
  have S_a_CIRCLE := Sta.start ev_a_CIRCLE (Or.inr ⟨(hw _ (List.mem_of_getElem? (i := 6) rfl)), (hw _ (List.mem_of_getElem? (i := 27) rfl))⟩)
  have E_a_CIRCLE := Exa.start ev_a_CIRCLE g25
  have F_ordinal_a_GAUSSIAN := fld_of ev_a_GAUSSIAN g9
  have F_ordinal_a_PAGERANK := fld_of ev_a_PAGERANK g11
  have F_ordinal_a_COSINE := fld_of ev_a_COSINE g15
  have F_ordinal_a_PASSAGE := fld_of ev_a_PASSAGE g19
  have F_ordinal_a_TRIANGLE := fld_of ev_a_TRIANGLE g23
  have F_ordinal_a_CIRCLE := fld_of ev_a_CIRCLE g26
  obtain ⟨n, o, h1, h2, h3, _, L, rfl, ⟨rfl, N⟩, hq⟩ := rm0 l s _ hw tables_1 i0 i1 a_GAUSSIAN a_TRIANGLE a_COSINE a_CIRCLE a_PASSAGE a_PAGERANK s.heap s.heap.size (Old.start s) S_a_GAUSSIAN S_a_TRIANGLE S_a_COSINE S_a_CIRCLE S_a_PASSAGE S_a_PAGERANK E_a_GAUSSIAN E_a_TRIANGLE E_a_COSINE E_a_CIRCLE E_a_PASSAGE E_a_PAGERANK (F_ordinal_a_GAUSSIAN.ne F_ordinal_a_PAGERANK (by decide)) (F_ordinal_a_TRIANGLE.ne F_ordinal_a_PAGERANK (by decide)) (F_ordinal_a_COSINE.ne F_ordinal_a_PAGERANK (by decide)) (F_ordinal_a_CIRCLE.ne F_ordinal_a_PAGERANK (by decide)) (F_ordinal_a_PASSAGE.ne F_ordinal_a_PAGERANK (by decide)) p e ha hc hk s m _ below hf ((Spec.applies_iff_loose hf).mp happ).1 ⟨rfl, State.Warmed39.refl s, rfl⟩ trivial
  refine ⟨n, _, h1, h2, h3, hpost _ _ _ _ _ _ ⟨Cond.after_iff.mpr rfl, Cond.after_iff.mpr (eq_i res_at (Term.int_eval (1)) rfl), trivial⟩ ⟨hq.1, hq.2.1, (hq.2.2.sift fun y hy => Or.inr (N y hy)).mono (by decide) (by decide)⟩⟩
theorem main_1_1 : Claimed_1_1 := comes_1 fun _ _ _ _ _ _ h hF => ⟨h.1, hF⟩
theorem main_1_2 : Claimed_1_2 := comes_1 fun _ _ _ _ _ _ h hF => ⟨h.2.1, hF⟩
end Jvm.Pilot.@@N@@
namespace Jvm.Pilot.@@N@@
open Jvm Jvm.ClassFile Sem Op Lib Jvm.Free Jvm.Stand Jvm.Pilot.@@N@@.Jvm.D
/-! MADE BY PROGRAM (witnessworld.py) out of the Statement's table words and the real class files: 13 classes; the members and pool entries that the words name. The judged class is class 1, her method 2. -/
namespace start1
open Jvm.ClassFile
def u (s : String) : CpInfo := .utf8 (stringToUtf16 s)
/-- a pool by its gaps: so many unusable entries, then the entry; so many at the end -/
def gap : Nat → List CpInfo → List CpInfo
  | 0, r => r
  | n + 1, r => .unusable :: gap n r
def poolList (es : List (Nat × CpInfo)) (last : Nat) : List CpInfo := es.foldr (fun e r => gap e.1 (e.2 :: r)) (gap last [])
def pool (es : List (Nat × CpInfo)) (last : Nat) : Array CpInfo := ⟨poolList es last⟩
def fileOf (pool : Array CpInfo) (this : Nat) (attrs : Array Attribute := #[]) (ms : Array MethodInfo := #[]) (fl : Nat := 33) (sup : Nat := 0) (ifs : Array Nat := #[]) (fds : Array FieldInfo := #[]) : ClassFile where
  minorVersion := 0
  majorVersion := 65
  constantPool := pool
  accessFlags := fl
  thisClass := this
  superClass := sup
  interfaces := ifs
  fields := fds
  methods := ms
  attributes := attrs
def plain (name : String) (sup : Option ClassId) : Class where
  name := name
  kind := .ordinary
  loader := none
  accessFlags := 33
  super := sup
  interfaces := #[]
  cf := none
  fields := #[]
  methods := #[]
  instanceTypes := #[]
  staticTypes := #[]
  resolved := #[]
  callSites := []
  init := .initialized
  statics := none
  mirror := none

def pool0 : Array CpInfo := pool [(5, u "<init>"), (0, u "()V"), (1, .class_ 10), (1, u "java/lang/Object")] 113

def k0m0 : Method := { name := "<init>", desc := "()V", sig := { parameters := [], returnType := none }, accessFlags := 1, code := none }
/-- java/lang/Object -/
def k0 : Class := { plain "java/lang/Object" none with
  accessFlags := 33
  interfaces := #[]
  cf := some (fileOf pool0 8 #[] #[{ accessFlags := 1, nameIndex := 5, descriptorIndex := 6, attributes := #[] }] 33 0 #[] #[])
  fields := #[]
  methods := #[k0m0]
  instanceTypes := #[]
  staticTypes := #[]
  resolved := Array.replicate 124 none
  statics := none }

def pool1 : Array CpInfo := pool [(2, .class_ 4), (1, u "java/lang/Object"), (0, u "<init>"), (0, u "()V"), (0, .fieldref 8 9), (0, .class_ 10), (0, .nameAndType 11 12), (0, u "com/example/heedful_rank/heedfulrank/methods/Kernel"), (0, u "GAUSSIAN"), (0, u "Lcom/example/heedful_rank/heedfulrank/methods/Kernel;"), (0, .fieldref 8 14), (0, .nameAndType 15 12), (0, u "TRIANGLE"), (0, .fieldref 8 17), (0, .nameAndType 18 12), (0, u "COSINE"), (0, .fieldref 8 20), (0, .nameAndType 21 12), (0, u "CIRCLE"), (0, .fieldref 8 23), (0, .nameAndType 24 12), (0, u "PASSAGE"), (0, .fieldref 8 26), (0, .nameAndType 27 12), (0, u "PAGERANK"), (0, .integer 2147483647), (0, .methodref 30 31), (0, .class_ 32), (0, .nameAndType 33 34), (0, u "com/example/heedful_rank/heedfulrank/methods/KernelCheckWidthPinLaw"), (0, u "pick"), (0, u "(I)Lcom/example/heedful_rank/heedfulrank/methods/Kernel;"), (0, .methodref 36 37), (0, .class_ 38), (0, .nameAndType 39 40), (0, u "java/lang/Math"), (0, u "max"), (0, u "(II)I"), (0, .methodref 8 42), (0, .nameAndType 43 44), (0, u "checkWidth"), (0, u "(I)V"), (3, u "law"), (0, u "(II)Z")] 2

def k1m0 : Method := { name := "<init>", desc := "()V", sig := { parameters := [], returnType := none }, accessFlags := 1, code := none }
def k1c1 : Code := { maxStack := 2, maxLocals := 1, code := method_2_code, exceptionTable := #[], attributes := #[] }
def k1m1 : Method := { name := "pick", desc := "(I)Lcom/example/heedful_rank/heedfulrank/methods/Kernel;", sig := { parameters := [.int], returnType := some (.object "com/example/heedful_rank/heedfulrank/methods/Kernel") }, accessFlags := 10, code := some k1c1 }
def k1c2 : Code := { maxStack := 2, maxLocals := 6, code := code, exceptionTable := #[], attributes := #[] }
def k1m2 : Method := { name := "law", desc := "(II)Z", sig := { parameters := [.int, .int], returnType := some .boolean }, accessFlags := 9, code := some k1c2 }
/-- com/example/heedful_rank/heedfulrank/methods/KernelCheckWidthPinLaw -/
def k1 : Class := { plain "com/example/heedful_rank/heedfulrank/methods/KernelCheckWidthPinLaw" (some 0) with
  accessFlags := 49
  interfaces := #[]
  cf := some (fileOf pool1 30 #[] #[{ accessFlags := 1, nameIndex := 5, descriptorIndex := 6, attributes := #[] }, { accessFlags := 10, nameIndex := 33, descriptorIndex := 34, attributes := #[] }, { accessFlags := 9, nameIndex := 48, descriptorIndex := 49, attributes := #[] }] 49 2 #[] #[])
  fields := #[]
  methods := #[k1m0, k1m1, k1m2]
  instanceTypes := #[]
  staticTypes := #[]
  resolved := Array.replicate 52 none
  statics := none }

def pool2 : Array CpInfo := pool [(1, .class_ 2), (0, u "java/lang/constant/Constable"), (0, .class_ 4), (0, u "java/lang/Object")] 6

/-- java/lang/constant/Constable -/
def k2 : Class := { plain "java/lang/constant/Constable" (some 0) with
  accessFlags := 1537
  interfaces := #[]
  cf := some (fileOf pool2 1 #[] #[] 1537 3 #[] #[])
  fields := #[]
  methods := #[]
  instanceTypes := #[]
  staticTypes := #[]
  resolved := Array.replicate 11 none
  statics := none }

def pool3 : Array CpInfo := pool [(1, .class_ 2), (0, u "java/lang/Comparable"), (0, .class_ 4), (0, u "java/lang/Object")] 7

/-- java/lang/Comparable -/
def k3 : Class := { plain "java/lang/Comparable" (some 0) with
  accessFlags := 1537
  interfaces := #[]
  cf := some (fileOf pool3 1 #[] #[] 1537 3 #[] #[])
  fields := #[]
  methods := #[]
  instanceTypes := #[]
  staticTypes := #[]
  resolved := Array.replicate 12 none
  statics := none }

def pool4 : Array CpInfo := pool [(1, .class_ 2), (0, u "java/io/Serializable"), (0, .class_ 4), (0, u "java/lang/Object")] 2

/-- java/io/Serializable -/
def k4 : Class := { plain "java/io/Serializable" (some 0) with
  accessFlags := 1537
  interfaces := #[]
  cf := some (fileOf pool4 1 #[] #[] 1537 3 #[] #[])
  fields := #[]
  methods := #[]
  instanceTypes := #[]
  staticTypes := #[]
  resolved := Array.replicate 7 none
  statics := none }

def pool5 : Array CpInfo := pool [(2, .class_ 4), (1, u "java/lang/Enum"), (0, u "name"), (0, u "Ljava/lang/String;"), (2, u "ordinal"), (0, u "I"), (1, .class_ 14), (1, u "java/lang/Object"), (4, u "hash"), (86, .class_ 108), (1, u "java/lang/Enum$EnumDesc"), (2, .class_ 112), (0, u "java/lang/constant/Constable"), (0, .class_ 114), (0, u "java/lang/Comparable"), (0, .class_ 116), (0, u "java/io/Serializable")] 87

/-- java/lang/Enum -/
def k5 : Class := { plain "java/lang/Enum" (some 0) with
  accessFlags := 1057
  interfaces := #[2, 3, 4]
  cf := some (fileOf pool5 2 #[.nestMembers #[106]] #[] 1057 12 #[111, 113, 115] #[{ accessFlags := 18, nameIndex := 5, descriptorIndex := 6, attributes := #[] }, { accessFlags := 18, nameIndex := 9, descriptorIndex := 10, attributes := #[] }, { accessFlags := 2, nameIndex := 19, descriptorIndex := 10, attributes := #[] }])
  fields := #[{ name := "name", type := (.object "java/lang/String"), accessFlags := 18, slot := 0, constantValue := 0 }, { name := "ordinal", type := .int, accessFlags := 18, slot := 1, constantValue := 0 }, { name := "hash", type := .int, accessFlags := 2, slot := 2, constantValue := 0 }]
  methods := #[]
  instanceTypes := #[(.object "java/lang/String"), .int, .int]
  staticTypes := #[]
  resolved := Array.replicate 204 none
  statics := none }

def pool6 : Array CpInfo := pool [(1, .class_ 2), (0, u "com/example/heedful_rank/heedfulrank/methods/Kernel"), (2, u "GAUSSIAN"), (0, u "Lcom/example/heedful_rank/heedfulrank/methods/Kernel;"), (2, u "TRIANGLE"), (2, u "COSINE"), (2, u "CIRCLE"), (2, u "PASSAGE"), (0, .fieldref 1 20), (0, .nameAndType 21 6), (0, u "PAGERANK"), (2, u "$VALUES"), (0, u "[Lcom/example/heedful_rank/heedfulrank/methods/Kernel;"), (6, .class_ 34), (1, u "java/lang/Enum"), (81, u "PAGERANK_SAME"), (0, u "D"), (1, u "PAGERANK_OTHERS"), (10, u "checkWidth"), (0, u "(I)V")] 19

def k6c0 : Code := { maxStack := 6, maxLocals := 3, code := prog_16_method_6_code, exceptionTable := #[], attributes := #[] }
def k6m0 : Method := { name := "checkWidth", desc := "(I)V", sig := { parameters := [.int], returnType := none }, accessFlags := 1, code := some k6c0 }
/-- com/example/heedful_rank/heedfulrank/methods/Kernel -/
def k6 : Class := { plain "com/example/heedful_rank/heedfulrank/methods/Kernel" (some 5) with
  accessFlags := 16433
  interfaces := #[]
  cf := some (fileOf pool6 1 #[] #[{ accessFlags := 1, nameIndex := 130, descriptorIndex := 131, attributes := #[] }] 16433 32 #[] #[{ accessFlags := 16409, nameIndex := 5, descriptorIndex := 6, attributes := #[] }, { accessFlags := 16409, nameIndex := 9, descriptorIndex := 6, attributes := #[] }, { accessFlags := 16409, nameIndex := 12, descriptorIndex := 6, attributes := #[] }, { accessFlags := 16409, nameIndex := 15, descriptorIndex := 6, attributes := #[] }, { accessFlags := 16409, nameIndex := 18, descriptorIndex := 6, attributes := #[] }, { accessFlags := 16409, nameIndex := 21, descriptorIndex := 6, attributes := #[] }, { accessFlags := 26, nameIndex := 116, descriptorIndex := 117, attributes := #[] }, { accessFlags := 26, nameIndex := 119, descriptorIndex := 117, attributes := #[] }, { accessFlags := 4122, nameIndex := 24, descriptorIndex := 25, attributes := #[] }])
  fields := #[{ name := "GAUSSIAN", type := (.object "com/example/heedful_rank/heedfulrank/methods/Kernel"), accessFlags := 16409, slot := 0, constantValue := 0 }, { name := "TRIANGLE", type := (.object "com/example/heedful_rank/heedfulrank/methods/Kernel"), accessFlags := 16409, slot := 1, constantValue := 0 }, { name := "COSINE", type := (.object "com/example/heedful_rank/heedfulrank/methods/Kernel"), accessFlags := 16409, slot := 2, constantValue := 0 }, { name := "CIRCLE", type := (.object "com/example/heedful_rank/heedfulrank/methods/Kernel"), accessFlags := 16409, slot := 3, constantValue := 0 }, { name := "PASSAGE", type := (.object "com/example/heedful_rank/heedfulrank/methods/Kernel"), accessFlags := 16409, slot := 4, constantValue := 0 }, { name := "PAGERANK", type := (.object "com/example/heedful_rank/heedfulrank/methods/Kernel"), accessFlags := 16409, slot := 5, constantValue := 0 }, { name := "PAGERANK_SAME", type := .double, accessFlags := 26, slot := 6, constantValue := 0 }, { name := "PAGERANK_OTHERS", type := .double, accessFlags := 26, slot := 7, constantValue := 0 }, { name := "$VALUES", type := (.array (.object "com/example/heedful_rank/heedfulrank/methods/Kernel")), accessFlags := 4122, slot := 8, constantValue := 0 }]
  methods := #[k6m0]
  instanceTypes := #[(.object "java/lang/String"), .int, .int]
  staticTypes := #[(.object "com/example/heedful_rank/heedfulrank/methods/Kernel"), (.object "com/example/heedful_rank/heedfulrank/methods/Kernel"), (.object "com/example/heedful_rank/heedfulrank/methods/Kernel"), (.object "com/example/heedful_rank/heedfulrank/methods/Kernel"), (.object "com/example/heedful_rank/heedfulrank/methods/Kernel"), (.object "com/example/heedful_rank/heedfulrank/methods/Kernel"), .double, .double, (.array (.object "com/example/heedful_rank/heedfulrank/methods/Kernel"))]
  resolved := Array.replicate 151 none
  statics := some 0 }

def pool7 : Array CpInfo := pool [(1, .class_ 2), (0, u "java/lang/Math"), (1, .class_ 6), (1, u "java/lang/Object"), (0, u "<init>"), (0, u "()V"), (89, .class_ 100), (1, u "java/lang/Math$RandomNumberGeneratorHolder"), (71, u "negativeZeroFloatBits"), (0, u "J"), (2, u "negativeZeroDoubleBits"), (21, u "max"), (46, u "$assertionsDisabled"), (0, u "Z"), (88, u "(II)I"), (2, u "twoToTheDoubleScaleDown"), (0, u "D"), (4, u "twoToTheDoubleScaleUp"), (9, u "E"), (3, u "PI"), (2, u "TAU"), (2, u "DEGREES_TO_RADIANS"), (0, u "RADIANS_TO_DEGREES")] 94

def k7m0 : Method := { name := "<init>", desc := "()V", sig := { parameters := [], returnType := none }, accessFlags := 2, code := none }
def k7c1 : Code := { maxStack := 2, maxLocals := 2, code := jdk_29_method_65_code, exceptionTable := #[], attributes := #[] }
def k7m1 : Method := { name := "max", desc := "(II)I", sig := { parameters := [.int, .int], returnType := some .int }, accessFlags := 9, code := some k7c1 }
/-- java/lang/Math -/
def k7 : Class := { plain "java/lang/Math" (some 0) with
  accessFlags := 49
  interfaces := #[]
  cf := some (fileOf pool7 1 #[.nestMembers #[98]] #[{ accessFlags := 2, nameIndex := 7, descriptorIndex := 8, attributes := #[] }, { accessFlags := 9, nameIndex := 198, descriptorIndex := 335, attributes := #[] }] 49 4 #[] #[{ accessFlags := 25, nameIndex := 354, descriptorIndex := 339, attributes := #[] }, { accessFlags := 25, nameIndex := 358, descriptorIndex := 339, attributes := #[] }, { accessFlags := 25, nameIndex := 361, descriptorIndex := 339, attributes := #[] }, { accessFlags := 26, nameIndex := 364, descriptorIndex := 339, attributes := #[] }, { accessFlags := 26, nameIndex := 365, descriptorIndex := 339, attributes := #[] }, { accessFlags := 26, nameIndex := 172, descriptorIndex := 173, attributes := #[] }, { accessFlags := 26, nameIndex := 176, descriptorIndex := 173, attributes := #[] }, { accessFlags := 8, nameIndex := 344, descriptorIndex := 339, attributes := #[] }, { accessFlags := 8, nameIndex := 338, descriptorIndex := 339, attributes := #[] }, { accessFlags := 4120, nameIndex := 245, descriptorIndex := 246, attributes := #[] }])
  fields := #[{ name := "E", type := .double, accessFlags := 25, slot := 0, constantValue := 0 }, { name := "PI", type := .double, accessFlags := 25, slot := 1, constantValue := 0 }, { name := "TAU", type := .double, accessFlags := 25, slot := 2, constantValue := 0 }, { name := "DEGREES_TO_RADIANS", type := .double, accessFlags := 26, slot := 3, constantValue := 0 }, { name := "RADIANS_TO_DEGREES", type := .double, accessFlags := 26, slot := 4, constantValue := 0 }, { name := "negativeZeroFloatBits", type := .long, accessFlags := 26, slot := 5, constantValue := 0 }, { name := "negativeZeroDoubleBits", type := .long, accessFlags := 26, slot := 6, constantValue := 0 }, { name := "twoToTheDoubleScaleUp", type := .double, accessFlags := 8, slot := 7, constantValue := 0 }, { name := "twoToTheDoubleScaleDown", type := .double, accessFlags := 8, slot := 8, constantValue := 0 }, { name := "$assertionsDisabled", type := .boolean, accessFlags := 4120, slot := 9, constantValue := 0 }]
  methods := #[k7m0, k7m1]
  instanceTypes := #[]
  staticTypes := #[.double, .double, .double, .double, .double, .long, .long, .double, .double, .boolean]
  resolved := Array.replicate 460 none
  statics := none }

def pool8 : Array CpInfo := pool [(1, u "java/lang/Cloneable"), (0, .class_ 1), (0, u "java/lang/Object"), (0, .class_ 3)] 3

/-- java/lang/Cloneable -/
def k8 : Class := { plain "java/lang/Cloneable" (some 0) with
  accessFlags := 1537
  interfaces := #[]
  cf := some (fileOf pool8 2 #[] #[] 1537 4 #[] #[])
  fields := #[]
  methods := #[]
  instanceTypes := #[]
  staticTypes := #[]
  resolved := Array.replicate 8 none
  statics := none }

/-- the primitive byte -/
def k9 : Class := { plain "byte" none with kind := .primitive 'B', accessFlags := 0x411 }
/-- [B -/
def k10 : Class := { plain "[B" (some 0) with kind := .array 9 .byte, interfaces := #[8, 4], accessFlags := 1041 }

/-- the primitive int -/
def k11 : Class := { plain "int" none with kind := .primitive 'I', accessFlags := 0x411 }
/-- [I -/
def k12 : Class := { plain "[I" (some 0) with kind := .array 11 .int, interfaces := #[8, 4], accessFlags := 1041 }

def heap : Heap := #[{ cls := 6, slots := #[.ref 1, .ref 5, .ref 3, .ref 6, .ref 4, .ref 2, .double 0, .double 0, .null], vm := .statics 6 },
  { cls := 6, slots := #[.null, .int 0, .int 0], vm := .none },
  { cls := 6, slots := #[.null, .int 5, .int 0], vm := .none },
  { cls := 6, slots := #[.null, .int 2, .int 0], vm := .none },
  { cls := 6, slots := #[.null, .int 4, .int 0], vm := .none },
  { cls := 6, slots := #[.null, .int 1, .int 0], vm := .none },
  { cls := 6, slots := #[.null, .int 3, .int 0], vm := .none }]
def classes : Array Class := #[k0, k1, k2, k3, k4, k5, k6, k7, k8, k9, k10, k11, k12]
def interned : List (Array UInt16 × Addr) := []
def slotsUsed : Nat := 27
def theMethod : MethodId := ⟨1, 2⟩
def args0 : Array Value := #[.int 5, .int 3]
def aboutOver (below : List Frame) : State where
  vm := { classes := classes, interned := interned.toArray }
  heap := heap
  slotsUsed := slotsUsed
  threads := #[{ frames := .invoking theMethod args0 :: below }]
def below0 : List Frame := [.native { method := ⟨0, 0⟩, args := #[] }]
def about1 : State := aboutOver below0
def p0 : Program := .bare "" "" ""
def e0 : Env := launch0.env 0 0 0
theorem w_frames : about1.frames = Frame.invoking theMethod args0 :: below0 := rfl
set_option maxRecDepth 65536 in
theorem w_args : argsFit about1.vm theMethod args0 = true := by decide +kernel
set_option maxRecDepth 65536 in
theorem w_heap : heapFits about1 = true := by decide +kernel
set_option maxRecDepth 65536 in
theorem w_runnable : about1.curStatus? = some .runnable := by decide +kernel
set_option maxRecDepth 65536 in
theorem w_alone : about1.alone = true := by decide +kernel
set_option maxRecDepth 65536 in
theorem w_named : about1.methodNamed? x = some theMethod := by decide +kernel
set_option maxRecDepth 65536 in
theorem w_hears : about1.hears theMethod below0 = true := by decide +kernel
set_option maxRecDepth 65536 in
theorem w_ripe : about1.ripe theMethod args0 below0 = true := by decide +kernel
theorem w_running : about1.status = .running := rfl
set_option maxRecDepth 65536 in
theorem w_room : about1.hasRoom e0.platform room_1 = true :=
  launch0.hasRoom_least _ room_1 (by decide +kernel) (by decide +kernel) (by decide +kernel) (by decide +kernel) (by decide +kernel) (by decide +kernel)
theorem allAtoms_all (ts : List Jvm.Cond) (a : Array Jvm.Value) (st : Jvm.State) : (allAtoms ts).before a st = ts.all (fun c => c.before a st) := by
  induction ts with
  | nil => rfl
  | cons c t ih =>
    show (Jvm.Cond.and c (allAtoms t)).before a st = _
    rw [Jvm.Cond.before_and, ih, List.all_cons]
def words1 : List Jvm.Cond := Jvm.Cond.code x code maxLocals ret :: tables_1
/-- a 'code' word, met by the world's own term for the bytes: nothing is compared byte by byte -/
theorem code_word {y : MethodName} {bytes : ByteArray} {mx : Nat} {rt : Option FieldType} {a : Array Value} {s : State} {m : MethodId} {meth : Method} {c : Code} (h1 : s.methodNamed? y = some m) (h2 : s.vm.method? m = some meth) (h3 : meth.code = some c) (h4 : c.code = bytes)
    (h5 : (c.maxLocals == mx && c.exceptionTable.isEmpty && decide (c.maxStack ≤ mostOperands) && decide (meth.sig.returnType = rt) && !meth.locks && decide (parseMethodDescriptor y.desc = some meth.sig)) = true) : (Jvm.Cond.code y bytes mx rt).before a s = true := by
  simp only [Bool.and_eq_true, beq_iff_eq, Bool.not_eq_true', decide_eq_true_eq] at h5
  obtain ⟨⟨⟨⟨⟨g1, g2⟩, g3⟩, g4⟩, g5⟩, g6⟩ := h5
  simp [Cond.before, Cond.holds, Cond.value, h1, h2, h3, h4, g1, g2, g3, g4, g5, g6]
def isCode : Jvm.Cond → Bool
  | .code _ _ _ _ => true
  | _ => false
theorem all_split {L : List Jvm.Cond} {P : Jvm.Cond → Bool} (h1 : L.all (fun c => isCode c || P c) = true) (h2 : ∀ c ∈ L.filter isCode, P c = true) : L.all P = true := by
  refine List.all_eq_true.mpr fun c hc => ?_
  have h := List.all_eq_true.mp h1 c hc
  rcases Bool.eq_false_or_eq_true (isCode c) with hi | hi
  · exact h2 c (List.mem_filter.mpr ⟨hc, hi⟩)
  · simpa [hi] using h
set_option maxRecDepth 65536 in
theorem w_c0 : (Jvm.Cond.code x code maxLocals ret).before args0 about1 = true := code_word (m := ⟨1, 2⟩) (meth := k1m2) (c := k1c2) (by decide +kernel) rfl rfl rfl (by decide +kernel)
set_option maxRecDepth 65536 in
theorem w_c1 : (Jvm.Cond.code ({ cls := "com/example/heedful_rank/heedfulrank/methods/KernelCheckWidthPinLaw", name := "pick", desc := "(I)Lcom/example/heedful_rank/heedfulrank/methods/Kernel;" } : Jvm.MethodName) method_2_code (1 : Nat) (Option.some (Jvm.ClassFile.FieldType.object "com/example/heedful_rank/heedfulrank/methods/Kernel"))).before args0 about1 = true := code_word (m := ⟨1, 1⟩) (meth := k1m1) (c := k1c1) (by decide +kernel) rfl rfl rfl (by decide +kernel)
set_option maxRecDepth 65536 in
theorem w_c2 : (Jvm.Cond.code ({ cls := "java/lang/Math", name := "max", desc := "(II)I" } : Jvm.MethodName) jdk_29_method_65_code (2 : Nat) (Option.some Jvm.ClassFile.FieldType.int)).before args0 about1 = true := code_word (m := ⟨7, 1⟩) (meth := k7m1) (c := k7c1) (by decide +kernel) rfl rfl rfl (by decide +kernel)
set_option maxRecDepth 65536 in
theorem w_c3 : (Jvm.Cond.code ({ cls := "com/example/heedful_rank/heedfulrank/methods/Kernel", name := "checkWidth", desc := "(I)V" } : Jvm.MethodName) prog_16_method_6_code (3 : Nat) (Option.none : Option Jvm.ClassFile.FieldType)).before args0 about1 = true := code_word (m := ⟨6, 0⟩) (meth := k6m0) (c := k6c0) (by decide +kernel) rfl rfl rfl (by decide +kernel)
def codes1 : List Jvm.Cond := [Jvm.Cond.code x code maxLocals ret, Jvm.Cond.code ({ cls := "com/example/heedful_rank/heedfulrank/methods/KernelCheckWidthPinLaw", name := "pick", desc := "(I)Lcom/example/heedful_rank/heedfulrank/methods/Kernel;" } : Jvm.MethodName) method_2_code (1 : Nat) (Option.some (Jvm.ClassFile.FieldType.object "com/example/heedful_rank/heedfulrank/methods/Kernel")), Jvm.Cond.code ({ cls := "java/lang/Math", name := "max", desc := "(II)I" } : Jvm.MethodName) jdk_29_method_65_code (2 : Nat) (Option.some Jvm.ClassFile.FieldType.int), Jvm.Cond.code ({ cls := "com/example/heedful_rank/heedfulrank/methods/Kernel", name := "checkWidth", desc := "(I)V" } : Jvm.MethodName) prog_16_method_6_code (3 : Nat) (Option.none : Option Jvm.ClassFile.FieldType)]
set_option maxRecDepth 65536 in
theorem codes_eq : words1.filter isCode = codes1 := rfl
theorem w_codes : ∀ c ∈ words1.filter isCode, c.before args0 about1 = true := by
  rw [codes_eq]
  intro c hc
  simp only [codes1, List.mem_cons, List.not_mem_nil, or_false] at hc
  rcases hc with rfl | rfl | rfl | rfl
  · exact w_c0
  · exact w_c1
  · exact w_c2
  · exact w_c3
set_option maxRecDepth 65536 in
theorem w_t1 : (words1.take 24).all (fun c => isCode c || c.before args0 about1) = true := by decide +kernel
set_option maxRecDepth 65536 in
theorem w_t2 : (words1.drop 24).all (fun c => isCode c || c.before args0 about1) = true := by decide +kernel
theorem w_tables : (allAtoms (Jvm.Cond.code x code maxLocals ret :: tables_1)).before args0 about1 = true := by
  rw [allAtoms_all]
  show words1.all (fun c => c.before args0 about1) = true
  refine all_split ?_ w_codes
  rw [← List.take_append_drop 24 words1, List.all_append, w_t1, w_t2]
  rfl
set_option maxRecDepth 65536 in
theorem w_case : (Jvm.Cond.and given_1 narrow_1).before args0 about1 = true := by decide +kernel
theorem w_applies : (headSpec (Jvm.Cond.code x code maxLocals ret :: tables_1) room_1).applies x e0.platform about1 = true :=
  (Spec.applies_iff w_frames).mpr ⟨w_running, w_runnable, w_alone, w_named, w_hears, w_ripe, w_room, w_tables⟩
theorem atStart : AtStart classFile x code maxLocals ret World_1 tables_1 room_1 Calls_1 rest_1 Pre_1 launch0 p0 e0 about1 theMethod args0 below0 :=
  ⟨lists_1, trivial, launch0.admits_env _ _ _, launch0.least_env, fairChoices_fair.cas, fairChoices_fair.clock, w_frames, w_args, w_heap, w_applies, trivial, trivial, w_case⟩
end start1
theorem witness_1 : WitnessClaimed_1 := ⟨start1.p0, start1.e0, start1.about1, start1.theMethod, start1.args0, start1.below0, start1.atStart⟩
end Jvm.Pilot.@@N@@
