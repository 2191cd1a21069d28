import JvmDerived
import JvmDerived.Pilot.@@N@@Statement
import JvmDerived.Pilot.@@N@@Code
set_option linter.unusedVariables false
set_option linter.unusedSimpArgs false

namespace Jvm.OwnW
open Sem ClassFile Op Lib Jvm.Stand Jvm.Free Jvm.LawKit Jvm.RoadKit
/-! THE LAYER: a walk's state is (cells, slots, what is known of the new cells, pc, locals, stack); 'Go' says that from there the body returns with Q. -/
abbrev Fds := List (String × String × String × Value)
abbrev Desc := (String × Fds) ⊕ (FieldType × List Value)
abbrev Mem := List (Addr × Desc)
abbrev Bdy := MethodName × ByteArray × Nat × Option FieldType × Room
abbrev ob (a : Addr) (C : String) (fs : Fds) : Addr × Desc := (a, .inl (C, fs))
abbrev ar (a : Addr) (ty : FieldType) (vs : List Value) : Addr × Desc := (a, .inr (ty, vs))
def Holds (Z : State) (a0 : Array Value) (h : Heap) (a : Addr) : Desc → Prop
  | .inl (C, fs) => Exa Z h a C ∧ (∀ f ∈ fs, Fld Z h a f.1 f.2.1 f.2.2.1 f.2.2.2 ∧ Laid Z a0 C f.1 f.2.1 f.2.2.1 ∧ ∃ ty, parseFieldDescriptor f.2.2.1 = some ty) ∧ (fs.map (·.2.1)).Nodup
  | .inr (ty, vs) => ∃ c : Cell, Arr Z h a c ty ∧ c.slots.toList = vs ∧ (∀ C, ty = .object C → Ovr Z c.cls C)
def Mo (Z : State) (a0 : Array Value) (h0 : Heap) (ds : Mem) (h : Heap) : Prop :=
  Ext h0 h ∧ (∀ q ∈ ds, h0.size ≤ q.1 ∧ Holds Z a0 h q.1 q.2) ∧ ds.Pairwise (fun q r => q.1 ≠ r.1)
section Facts
variable {Z : State} {a0 : Array Value} {h h' h0 : Heap} {a b : Addr} {D D' : Desc} {ds : Mem} {i : Nat} {sl : Nat} {v : Value}
theorem Holds.lt (H : Holds Z a0 h a D) : a < h.size := by
  rcases D with ⟨C, fs⟩ | ⟨ty, vs⟩
  · exact H.1.lt
  · obtain ⟨c, A, -⟩ := H; exact A.lt
theorem Holds.ext (E : Ext h h') (H : Holds Z a0 h a D) : Holds Z a0 h' a D := by
  rcases D with ⟨C, fs⟩ | ⟨ty, vs⟩
  · exact ⟨H.1.ext E, fun f hf => ⟨(H.2.1 f hf).1.ext E, (H.2.1 f hf).2⟩, H.2.2⟩
  · obtain ⟨c, A, r⟩ := H; exact ⟨c, A.ext E, r⟩
theorem Holds.other (W : Wr h h' a sl v) (H : Holds Z a0 h b D) (q : b ≠ a) : Holds Z a0 h' b D := by
  rcases D with ⟨C, fs⟩ | ⟨ty, vs⟩
  · exact ⟨H.1.wr W, fun f hf => ⟨(H.2.1 f hf).1.other W (Or.inl q), (H.2.1 f hf).2⟩, H.2.2⟩
  · obtain ⟨c, A, r⟩ := H; exact ⟨c, A.other W q, r⟩
theorem Holds.frame {as : List Addr} (K : ∀ (x : Addr) (c : Cell), h[x]? = some c → x ∉ as → h'[x]? = some c) (q : a ∉ as) (H : Holds Z a0 h a D) : Holds Z a0 h' a D := by
  rcases D with ⟨C, fs⟩ | ⟨ty, vs⟩
  · obtain ⟨⟨cell, k, h1, r⟩, F, nd⟩ := H
    refine ⟨⟨cell, k, K _ _ h1 q, r⟩, fun f hf => ?_, nd⟩
    obtain ⟨⟨cell, cf, k, i, f', g1, g⟩, L⟩ := F f hf
    exact ⟨⟨cell, cf, k, i, f', K _ _ g1 q, g⟩, L⟩
  · obtain ⟨c, A, r⟩ := H; exact ⟨c, ⟨K _ _ A.1 q, A.2⟩, r⟩
theorem Ext.refl (h : Heap) : Ext h h := ⟨Nat.le_refl _, fun _ _ q => q⟩
theorem Ext.trans {h1 h2 h3 : Heap} (E : Ext h1 h2) (F : Ext h2 h3) : Ext h1 h3 := ⟨Nat.le_trans E.1 F.1, fun x c q => F.2 x c (E.2 x c q)⟩
theorem Mo.start (Z : State) (a0 : Array Value) (h : Heap) : Mo Z a0 h [] h := ⟨Ext.refl h, fun _ q => (nomatch q), List.Pairwise.nil⟩
theorem Mo.ext (M : Mo Z a0 h0 ds h) (E : Ext h h') : Mo Z a0 h0 ds h' := ⟨Ext.trans M.1 E, fun q hq => ⟨(M.2.1 q hq).1, (M.2.1 q hq).2.ext E⟩, M.2.2⟩
theorem Mo.add (M : Mo Z a0 h0 ds h) (E : Ext h h') (H : Holds Z a0 h' h.size D) : Mo Z a0 h0 (ds ++ [(h.size, D)]) h' := by
  have M' := M.ext E
  refine ⟨M'.1, fun q hq => ?_, List.pairwise_append.mpr ⟨M.2.2, List.pairwise_singleton _ _, fun q hq r hr => ?_⟩⟩
  · rcases List.mem_append.mp hq with hq | hq
    · exact M'.2.1 q hq
    · cases List.mem_singleton.mp hq; exact ⟨M.1.1, H⟩
  · cases List.mem_singleton.mp hr
    exact Nat.ne_of_lt (M.2.1 q hq).2.lt
theorem Mo.at (M : Mo Z a0 h0 ds h) (hi : ds[i]? = some (a, D)) : Holds Z a0 h a D := (M.2.1 _ (List.mem_of_getElem? hi)).2
theorem Mo.new (M : Mo Z a0 h0 ds h) (hi : ds[i]? = some (a, D)) : h0.size ≤ a := (M.2.1 _ (List.mem_of_getElem? hi)).1
theorem Mo.ne (M : Mo Z a0 h0 ds h) {j : Nat} (hi : ds[i]? = some (a, D)) (hj : ds[j]? = some (b, D')) (q : i ≠ j) : a ≠ b := by
  obtain ⟨li, ei⟩ := List.getElem?_eq_some_iff.mp hi
  obtain ⟨lj, ej⟩ := List.getElem?_eq_some_iff.mp hj
  have P := List.pairwise_iff_getElem.mp M.2.2
  rcases Nat.lt_or_gt_of_ne q with q | q
  · have := P i j li lj q; rw [ei, ej] at this; exact this
  · have := P j i lj li q; rw [ei, ej] at this; exact this.symm
theorem Mo.exa {C : String} {fs : Fds} (hi : ds[i]? = some (a, .inl (C, fs))) : ∀ h, Mo Z a0 h0 ds h → Exa Z h a C := fun h M => (M.at hi).1
theorem Mo.wr (M : Mo Z a0 h0 ds h) (hi : ds[i]? = some (a, D)) (W : Wr h h' a sl v) (H : Holds Z a0 h' a D') : Mo Z a0 h0 (ds.set i (a, D')) h' := by
  have n0 := M.new hi
  refine ⟨⟨by rw [W.size]; exact M.1.1, fun x c q => ?_⟩, fun q hq => ?_, ?_⟩
  · obtain ⟨c', e1, -, -, -, e5, -⟩ := wr_at W (M.1.2 x c q)
    rw [← e5 (Nat.ne_of_lt (Nat.lt_of_lt_of_le (Array.getElem?_eq_some_iff.mp q).1 n0))]; exact e1
  · obtain ⟨j, hj⟩ := List.getElem?_of_mem hq
    by_cases e : i = j
    · subst e
      rw [List.getElem?_set_self (List.getElem?_eq_some_iff.mp hi).1] at hj
      cases hj; exact ⟨n0, H⟩
    · rw [List.getElem?_set_ne e] at hj
      exact ⟨M.new hj, (M.at hj).other W (M.ne hj hi (Ne.symm e))⟩
  · refine List.pairwise_iff_getElem.mpr fun j j' l1 l2 q => ?_
    rw [List.length_set] at l1 l2
    have P := List.pairwise_iff_getElem.mp M.2.2 j j' l1 l2 q
    obtain ⟨li, ei⟩ := List.getElem?_eq_some_iff.mp hi
    rw [List.getElem_set, List.getElem_set]
    split
    · rename_i e; subst e
      rw [if_neg (Nat.ne_of_lt q)]
      rw [ei] at P; exact P
    · split
      · rename_i e; subst e; rw [ei] at P; exact P
      · exact P
/-- what has been touched since hs: of its cells at most those in 'as' -/
def Tr (hs : Heap) (as : List Addr) (ds : Mem) (h : Heap) : Prop :=
  hs.size ≤ h.size ∧ (∀ (x : Addr) (c : Cell), hs[x]? = some c → x ∉ as → h[x]? = some c) ∧ ∀ q ∈ ds, q.1 ∈ as ∨ hs.size ≤ q.1
theorem Tr.start (h : Heap) (ds : Mem) : Tr h (ds.map (·.1)) ds h := ⟨Nat.le_refl _, fun _ _ q _ => q, fun q hq => Or.inl (List.mem_map.mpr ⟨q, hq, rfl⟩)⟩
section Trs
variable {hs : Heap} {as : List Addr}
theorem Tr.ext (R : Tr hs as ds h) (E : Ext h h') : Tr hs as ds h' := ⟨Nat.le_trans R.1 E.1, fun x c q r => E.2 x c (R.2.1 x c q r), R.2.2⟩
theorem Tr.add (R : Tr hs as ds h) (E : Ext h h') : Tr hs as (ds ++ [(h.size, D)]) h' := ⟨Nat.le_trans R.1 E.1, fun x c q r => E.2 x c (R.2.1 x c q r), fun q hq => by
  rcases List.mem_append.mp hq with hq | hq
  · exact R.2.2 q hq
  · cases List.mem_singleton.mp hq; exact Or.inr R.1⟩
theorem Tr.out (R : Tr hs as ds h) {q : Addr × Desc} (hq : q ∈ ds) {x : Addr} {c : Cell} (hx : hs[x]? = some c) (hn : x ∉ as) : x ≠ q.1 := fun e => by
  rcases R.2.2 q hq with r | r
  · exact hn (e ▸ r)
  · exact absurd (Array.getElem?_eq_some_iff.mp hx).1 (Nat.not_lt.mpr (e ▸ r))
theorem Tr.wr (R : Tr hs as ds h) (hi : ds[i]? = some (a, D)) (W : Wr h h' a sl v) : Tr hs as (ds.set i (a, D')) h' := by
  refine ⟨by rw [W.size]; exact R.1, fun x c q r => ?_, fun q hq => ?_⟩
  · obtain ⟨c', e1, -, -, -, e5, -⟩ := wr_at W (R.2.1 x c q r)
    rw [← e5 (R.out (List.mem_of_getElem? hi) q r)]; exact e1
  · obtain ⟨j, hj⟩ := List.getElem?_of_mem hq
    by_cases e : i = j
    · subst e
      rw [List.getElem?_set_self (List.getElem?_eq_some_iff.mp hi).1] at hj
      cases hj; exact R.2.2 (a, D) (List.mem_of_getElem? hi)
    · rw [List.getElem?_set_ne e] at hj; exact R.2.2 _ (List.mem_of_getElem? hj)
theorem Tr.call {ds' : Mem} (R : Tr hs as ds h) (R' : Tr h (ds.map (·.1)) ds' h') : Tr hs as ds' h' := by
  refine ⟨Nat.le_trans R.1 R'.1, fun x c q r => R'.2.1 x c (R.2.1 x c q r) fun m => ?_, fun q hq => ?_⟩
  · obtain ⟨e, he, rfl⟩ := List.mem_map.mp m; exact R.out he q r rfl
  · rcases R'.2.2 q hq with m | m
    · obtain ⟨e, he, e2⟩ := List.mem_map.mp m; rw [← e2]; exact R.2.2 e he
    · exact Or.inr (Nat.le_trans R.1 m)
end Trs
end Facts
def LaidL (Z : State) (a0 : Array Value) (C : String) : Fds → Prop
  | [] => True
  | f :: r => (Laid Z a0 C f.1 f.2.1 f.2.2.1 ∧ ∃ ty, parseFieldDescriptor f.2.2.1 = some ty ∧ defaultValue ty = f.2.2.2) ∧ LaidL Z a0 C r
theorem LaidL.mem {Z : State} {a0 : Array Value} {C : String} : ∀ {fs : Fds}, LaidL Z a0 C fs → ∀ f ∈ fs, Laid Z a0 C f.1 f.2.1 f.2.2.1 ∧ ∃ ty, parseFieldDescriptor f.2.2.1 = some ty ∧ defaultValue ty = f.2.2.2
  | [], _, _, hf => (nomatch hf)
  | g :: r, H, f, hf => by
    rcases List.mem_cons.mp hf with rfl | hf
    · exact H.1
    · exact LaidL.mem H.2 f hf
theorem wd {ws : List Jvm.Cond} {a0 : Array Value} {Z : State} (hw : ∀ d ∈ ws, d.before a0 Z = true) (i : Nat) {d : Jvm.Cond} (h : ws[i]? = some d) : d.before a0 Z = true := hw d (List.mem_of_getElem? h)
def Cx (B : Bdy) (Z : State) (p : Program) (s : State) (m : MethodId) (meth : Method) (c : Code) : Prop :=
  p.tables.exec = Jvm.exec ∧ Z.Warmed39 s.vm ∧ c.code = B.2.1 ∧ c.maxLocals = B.2.2.1 ∧ s.vm.findClass B.1.cls = some m.cls ∧ meth.sig.returnType = B.2.2.2.1 ∧ meth.locks = false ∧ meth.name = B.1.name
def Ends (B : Bdy) (Z : State) (a0 : Array Value) (h0 : Heap) (hs : Heap) (as : List Addr) (Q : Option Value → Mem → Prop) (p : Program) (e : Env) (below : List Frame) (s u : State) : Prop :=
  ∃ s₂ v L ds, Steps p.tables e below u s₂ ∧ s₂.status = .running ∧ Ended s₂ below (.returned v) ∧ Mo Z a0 h0 ds s₂.heap ∧ Tr hs as ds s₂.heap ∧ Q v ds ∧ Fr h0.size L ∧ FrameEnd s (.returned v) s₂ L B.2.2.2.2.cells B.2.2.2.2.slots
def Go (B : Bdy) (Z : State) (a0 : Array Value) (h0 : Heap) (Q : Option Value → Mem → Prop) (k n : Nat) (ds : Mem) (pc : Nat) (ls : Array Slot) (st : List Value) : Prop :=
  ∀ (p : Program) (l : Launch) (e : Env) (s : State) (m : MethodId) (args : Array Value) (below : List Frame) (meth : Method) (c : Code) (T : State) (locs : List Loc) (hs : Heap) (as : List Addr),
    Cx B Z p s m meth c → Stand p l e B.2.2.2.2 s m args below meth c T locs k n → Fr h0.size locs → Mo Z a0 h0 ds T.heap → Tr hs as ds T.heap → Ends B Z a0 h0 hs as Q p e below s (T.setTop (mkF m pc ls st))
/-- a callee's answer: this value, this memory -/
def Ret (v0 : Option Value) (ds0 : Mem) (v : Option Value) (ds : Mem) : Prop := v = v0 ∧ ds0 = ds
/-- a yes or no, the memory as it was -/
def Qz (P : Prop) (ds0 : Mem) (v : Option Value) (ds : Mem) : Prop := ∃ z : Int32, v = some (.int z) ∧ ds0 = ds ∧ (z.toInt = 1 ∧ P ∨ z.toInt = 0 ∧ ¬ P)
def MQ (Z : State) (a0 : Array Value) (h0 h : Heap) (as : List Addr) (Q : Option Value → Mem → Prop) (v : Option Value) (h' : Heap) (L : List Loc) : Prop := Fr h0.size L ∧ ∃ ds', Mo Z a0 h0 ds' h' ∧ Tr h as ds' h' ∧ Q v ds'
def Met (B : Bdy) (Z : State) (a0 : Array Value) (h0 : Heap) (as : Array Value) (ds : Mem) (Q : Option Value → Mem → Prop) : Prop :=
  ∀ (l : Launch) (ws : List Jvm.Cond) (h : Heap), Mo Z a0 h0 ds h → MetFree l B.1 (head1 (Jvm.Cond.code B.1 B.2.1 B.2.2.1 B.2.2.2.1 :: ws) B.2.2.2.2) (fun a U => a = as ∧ Z.Warmed39 U.vm ∧ U.heap = h) (fun _ _ _ _ _ => True)
    (fun _ U o U' => ∃ v L, o = .returned v ∧ MQ Z a0 h0 h (ds.map (·.1)) Q v U'.heap L ∧ FrameEnd U o U' L B.2.2.2.2.cells B.2.2.2.2.slots)
section Start
variable {args : Array Value} {s : State} {t : Term}
theorem eqI_v {k : Int32} {idx : List Nat} (h : (Jvm.Cond.eq t (.int k)).value args s none s idx = some true) : t.eval args s none idx s = some (.int k) := by
  have e : (Term.int k).eval args s none idx s = some (.int k) := rfl
  simp only [Cond.value, e] at h
  cases ht : t.eval args s none idx s with
  | none => simp [ht] at h
  | some x => cases x <;> simp [ht] at h ⊢; exact h
theorem eqJ_v {k : Int64} {idx : List Nat} (h : (Jvm.Cond.eq t (.long k)).value args s none s idx = some true) : t.eval args s none idx s = some (.long k) := by
  have e : (Term.long k).eval args s none idx s = some (.long k) := rfl
  simp only [Cond.value, e] at h
  cases ht : t.eval args s none idx s with
  | none => simp [ht] at h
  | some x => cases x <;> simp [ht] at h ⊢; exact h
theorem elem_ix {a : Addr} {cl : Cell} {i : Nat} (ev : ∀ idx, t.eval args s none idx s = some (.ref a)) (ha : s.arrayAt? a = some cl) (hi : i < 2 ^ 31) : (Term.elem t (.index 0)).eval args s none [i] s = cl.slots[i]? := by
  have q : i.toInt32.toInt = i := len_toInt hi
  have q2 : i.toInt32.toNatClampNeg = i := by simp only [Int32.toNatClampNeg, q]; rfl
  rw [elem_f (ev _) (j := i.toInt32) rfl ha (by rw [Int32.lt_iff_toInt_lt, q]; exact Int.not_lt.mpr (Int.natCast_nonneg i)), q2]
theorem eq_ix {a : Addr} {cl : Cell} {i : Nat} {v : Int32} (ev : ∀ idx, t.eval args s none idx s = some (.ref a)) (ha : s.arrayAt? a = some cl) (hi : i < 2 ^ 31) (h : (Jvm.Cond.eq (.elem t (.index 0)) (.int v)).value args s none s [i] = some true) : cl.slots[i]? = some (.int v) :=
  (elem_ix ev ha hi).symm.trans (eqI_v h)
theorem or_ix {G X : Jvm.Cond} {P : Prop} [Decidable P] {i : Nat} (h : (Jvm.Cond.or G X).value args s none s [i] = some true) (hG : G.value args s none s [i] = some (decide P)) (hp : ¬ P) : X.value args s none s [i] = some true := by
  rwa [Cond.or_of_right (nay hG hp)] at h
theorem le_ix {i : Nat} {k : Int32} : (Jvm.Cond.le (.int k) (.index 0)).value args s none s [i] = some (decide (k ≤ i.toInt32)) := by simp [Cond.value, Term.eval]
theorem lt_ix {i : Nat} {k : Int32} : (Jvm.Cond.lt (.index 0) (.int k)).value args s none s [i] = some (decide (i.toInt32 < k)) := by simp [Cond.value, Term.eval]
theorem one_ix {a : Addr} {cl : Cell} {k v : Int32} {i : Nat} (ev : t.eval args s none [] s = some (.ref a)) (hc : s.heap[a]? = some cl) (hi : k.toNatClampNeg = i) (h : (Jvm.Cond.eq (.elem t (.int k)) (.int v)).value args s none s [] = some true) : cl.slots[i]? = some (.int v) := by
  have q := (elem_in (eqI_v h) ev rfl hc).2
  rwa [hi] at q
theorem oneJ_ix {a : Addr} {cl : Cell} {k : Int32} {v : Int64} {i : Nat} (ev : t.eval args s none [] s = some (.ref a)) (hc : s.heap[a]? = some cl) (hi : k.toNatClampNeg = i) (h : (Jvm.Cond.eq (.elem t (.int k)) (.long v)).value args s none s [] = some true) : cl.slots[i]? = some (.long v) := by
  have q := (elem_in (eqJ_v h) ev rfl hc).2
  rwa [hi] at q
theorem len_ix {a : Addr} {cl : Cell} {k : Int32} (ev : t.eval args s none [] s = some (.ref a)) (ha : s.arrayAt? a = some cl) (hk : ¬ k < 0) (h : (Jvm.Cond.eq (.length t) (.int k)).value args s none s [] = some true) : cl.slots.size = k.toNatClampNeg ∧ cl.slots.size < 2 ^ 31 := by
  have q := eqI_v h
  simp only [Term.eval, ev, ha, Option.bind_eq_bind, Option.bind_some] at q
  split at q
  · rename_i hl
    have e : cl.slots.size.toInt32 = k := by simpa using q
    have l : cl.slots.size < 2 ^ 31 := by simpa using hl
    refine ⟨?_, l⟩
    rw [← e]; simp only [Int32.toNatClampNeg, len_toInt l]; rfl
  · simp at q
end Start
theorem cat1 {v : Value} (h : v.isRef = true) : v.category = 1 := by rcases ref_cases h with rfl | ⟨x, rfl⟩ <;> rfl
theorem mvR {Z s : State} {a0 args : Array Value} {cls : String} {idx : Nat} {y : MethodName} (hZ : Z.Warmed39 s.vm) (hy : y.cls ≠ "java/lang/invoke/MethodHandle" ∧ y.cls ≠ "java/lang/invoke/VarHandle") (wi : (Jvm.Cond.instanceMethod y).before a0 Z = true) (w : (Jvm.Cond.methodRef cls idx y).before a0 Z = true) : (Jvm.Cond.methodRef cls idx y).before args s = true := by
  obtain ⟨obj, methO, hnO, -⟩ := Jvm.Cond.instanceMethod_spec wi
  have h := Jvm.Cond.methodRef_warmed39 hZ hnO hy w
  have e : (Jvm.Cond.methodRef cls idx y).before a0 (Z.setVm s.vm) = (Jvm.Cond.methodRef cls idx y).before args (s.setVm s.vm) := rfl
  exact e.symm.trans h
theorem initRefArgs {tb : Tables} [Ours tb] {e : Env} {below : List Frame} {s U : State} {mm : MethodId} {cc : Code} (h : At U mm cc below) (hexec : tb.exec = Jvm.exec) (hW : s.WarmedH U.vm)
    {own : String} (hown : s.vm.findClass own = some mm.cls) {idx : Nat} {t : MethodName} (ht1 : t.name = "<init>")
    (hnot : t.cls ≠ "java/lang/invoke/MethodHandle" ∧ t.cls ≠ "java/lang/invoke/VarHandle") {args : Array Value} {bytes : ByteArray} {maxL : Nat}
    (href : (Jvm.Cond.methodRef own idx t).before args s = true) (hinst : (Jvm.Cond.instanceMethod t).before args s = true) (hcode : (Jvm.Cond.code t bytes maxL none).before args s = true)
    {f : JFrame} (hf : f.method = mm) {a : Addr} {argsL rest : List Value} (hlen : ∀ sig, parseMethodDescriptor t.desc = some sig → argsL.length = sig.parameters.length) (hstack : f.stack = argsL.reverse ++ .ref a :: rest) (hd : decode cc.code f.pc = .ok (.invokespecial idx, 3)) :
    ∃ tm, s.methodNamed? t = some tm ∧ ∀ target, (∀ acts, Steps tb e below (doInvoke e (U.setTop { f with stack := rest }) acts tm (.ref a :: argsL).toArray).1 target) → Steps tb e below (U.setTop f) target := by
  subst hf
  obtain ⟨obj, methO, hnO, hmO, hstO, habO⟩ := Jvm.Cond.instanceMethod_spec hinst
  obtain ⟨methO', cO, hmO', hcO, hbO, hlO, -, hlockO, -, hsigO⟩ := Jvm.Cond.code_spec hnO hcode
  cases hmO.symm.trans hmO'
  obtain ⟨kO, hkO, hnameO⟩ := className_of_methodNamed hnO
  obtain ⟨hnameMO, hdescO⟩ := name_of_methodNamed hnO hmO
  have hr2 := Jvm.Cond.methodRef_warmed hW hnO hnot href
  have hown2 : (s.setVm U.vm).vm.findClass own = some f.method.cls := by show U.vm.findClass own = _; rw [hW.alike.findClass]; exact hown
  obtain ⟨m2, c2, hf2, hready, hfind2, hnamed⟩ := Jvm.Cond.methodRef_named e hown2 hr2
  have hf3 : (s.setVm U.vm).methodFound? t.cls t.name t.desc = s.methodFound? t.cls t.name t.desc := State.methodFound?_setVm_of_named hW.alike hnO hnot
  cases ((State.methodFound?_of_named hnO hnot).symm.trans hf3.symm).trans hf2
  have hc2 : c2 = obj.cls := by
    have q : U.vm.findClass t.cls = some c2 := hfind2
    rw [hW.alike.findClass, findClass_of_methodNamed hnO] at q
    exact (Option.some.inj q).symm
  subst hc2
  obtain ⟨kO₂, hkO₂, heO₂⟩ := hW.alike.2.2 _ _ hkO
  have hmO₂ : U.vm.method? obj = some methO := by rw [hW.alike.method?]; exact hmO
  have hfound : lookupSpecial U.vm obj.cls "<init>" methO.desc = .method obj := by
    rw [hW.alike.lookupSpecial, hdescO, ← ht1]; exact lookupSpecial_of_named hnO hmO hstO
  refine ⟨obj, hnO, fun target hrest => ?_⟩
  jvm_step h [hexec, hd, 
    invokespecial.wp_init (e := e) (s := U) (k := kO₂) (meth := methO) (m := obj) (a := a) (args := argsL) (rest := rest) (f := f)
      h.top hnamed hready hkO₂ hmO₂ (by rw [hnameMO]; exact ht1) hstO habO hfound (hlen _ hsigO) hstack]
  exact hrest
theorem specialBackR {p : Program} {l : Launch} {e : Env} {R : Room} {s : State} {m : MethodId} {args : Array Value} {below : List Frame} {meth : Method} {c : Code} {T : State} {locs : List Loc} {cells slots : Nat} (X : Stand p l e R s m args below meth c T locs cells slots) (hexec : p.tables.exec = Jvm.exec) {own : String} {index : Nat} {y : MethodName} (hy1 : y.name = "<init>")
    (hown : s.vm.findClass own = some m.cls) (hlink : (Jvm.Cond.methodRef own index y).before args s = true) (hinst : (Jvm.Cond.instanceMethod y).before args s = true)
    {bytes : ByteArray} {maxL : Nat} (hcode : (Jvm.Cond.code y bytes maxL none).before args s = true)
    (hy : y.cls ≠ "java/lang/invoke/MethodHandle" ∧ y.cls ≠ "java/lang/invoke/VarHandle")
    {W : Nat} {Pre : Pt → Array Value → Prop} {Post : Pt → Array Value → Option Value → Pt → Prop} (hK : Back l R p e below s args y 3 W Pre Post)
    {g : JFrame} (hg : g.method = m) (hsize : g.locals.size = c.maxLocals) {s₀ : State} (hcome : Steps p.tables e below s₀ (T.setTop g)) {a : Addr} {argsL rest : List Value}
    (hlen : ∀ sig, parseMethodDescriptor y.desc = some sig → argsL.length = sig.parameters.length) (hstack : g.stack = argsL.reverse ++ .ref a :: rest) (hW : 2 * g.monitorRoom + (rest.map fun v => v.category).sum ≤ W)
    (hdg : decode c.code g.pc = .ok (.invokespecial index, 3)) (hpre : ∀ vm₁, s.WarmedH vm₁ → Pre ⟨T.setVm vm₁, locs, cells, slots⟩ (.ref a :: argsL).toArray) :
    ∃ (v : Option Value) (vm₁ : Vm) (B : Pt), s.WarmedH vm₁ ∧ Stand p l e R s m args below meth c B.U B.locs B.cells B.slots ∧ Post ⟨T.setVm vm₁, locs, cells, slots⟩ (.ref a :: argsL).toArray v B ∧
      Steps p.tables e below s₀ (B.U.setTop { g with pc := g.pc + 3, stack := v.toList ++ rest }) := by
  obtain ⟨mk, hnamed, hstep₁⟩ := initRefArgs (e := e) X.here hexec X.warmed hown hy1 hy hlink hinst hcode (f := g) hg hlen hstack hdg
  obtain ⟨v, B, X', hpost, hsteps⟩ := hK m meth c ⟨T.setVm T.vm, locs, cells, slots⟩ { g with stack := rest } (.invokespecial index) mk (.ref a :: argsL).toArray X hg hsize hdg hW (X.named hnamed) (hpre T.vm X.warmed)
  exact ⟨v, T.vm, B, X.warmed, X', hpost, (hcome.trans (hstep₁ _ fun acts => by rw [doInvoke_state]; exact Steps.refl _)).trans hsteps⟩
section Core
variable {B : Bdy} {Z : State} {a0 : Array Value} {h0 : Heap} {Q : Option Value → Mem → Prop} {k n : Nat} {ds : Mem} {pc : Nat} {ls : Array Slot} {st : List Value}
theorem Ends.back {hs : Heap} {as : List Addr} {p : Program} {e : Env} {below : List Frame} {s u u' : State} (F : Ends B Z a0 h0 hs as Q p e below s u') (hst : ∀ t, Steps p.tables e below u' t → Steps p.tables e below u t) : Ends B Z a0 h0 hs as Q p e below s u := by
  obtain ⟨s₂, v, L, ds, h1, r⟩ := F; exact ⟨s₂, v, L, ds, hst _ h1, r⟩
theorem Go.step {pc' : Nat} {ls' : Array Slot} {st' : List Value} (H : Go B Z a0 h0 Q k n ds pc' ls' st')
    (hs : ∀ {p : Program} {l : Launch} {e : Env} {s : State} {m : MethodId} {args : Array Value} {below : List Frame} {meth : Method} {c : Code} {T : State} {locs : List Loc}, Cx B Z p s m meth c → Stand p l e B.2.2.2.2 s m args below meth c T locs k n → Mo Z a0 h0 ds T.heap → ∀ t, Steps p.tables e below (T.setTop (mkF m pc' ls' st')) t → Steps p.tables e below (T.setTop (mkF m pc ls st)) t) :
    Go B Z a0 h0 Q k n ds pc ls st := fun p l e s m args below meth c T locs h1 as C X N M R => (H p l e s m args below meth c T locs h1 as C X N M R).back (hs C X M)
theorem Go.mono {Q' : Option Value → Mem → Prop} (H : Go B Z a0 h0 Q k n ds pc ls st) (hq : ∀ v ds', Q v ds' → Q' v ds') : Go B Z a0 h0 Q' k n ds pc ls st := fun p l e s m args below meth c T locs hs as C X N M R => by
  obtain ⟨s₂, v, L, ds', h1, h2, h3, h4, h4', h5, r⟩ := H p l e s m args below meth c T locs hs as C X N M R
  exact ⟨s₂, v, L, ds', h1, h2, h3, h4, h4', hq _ _ h5, r⟩
/-- what holds of every heap that the memory describes may be used -/
theorem Go.know {P : Prop} (hP : ∀ h, Mo Z a0 h0 ds h → P) (H : P → Go B Z a0 h0 Q k n ds pc ls st) : Go B Z a0 h0 Q k n ds pc ls st := fun p l e s m args below meth c T locs hs as C X N M R => H (hP _ M) p l e s m args below meth c T locs hs as C X N M R
theorem Go.more {k' n' : Nat} (H : Go B Z a0 h0 Q k' n' ds pc ls st) (hk : k ≤ k') (hn : n ≤ n') : Go B Z a0 h0 Q k n ds pc ls st := fun p l e s m args below meth c T locs hs as C X N M R => H p l e s m args below meth c T locs hs as C (X.more hk hn) N M R
theorem Go.sub {ds' : Mem} (hs : List.Sublist ds' ds) (H : Go B Z a0 h0 Q k n ds' pc ls st) : Go B Z a0 h0 Q k n ds pc ls st := fun p l e s m args below meth c T locs h1 as C X N M R =>
  H p l e s m args below meth c T locs h1 as C X N ⟨M.1, fun q hq => M.2.1 q (hs.subset hq), M.2.2.sublist hs⟩ ⟨R.1, R.2.1, fun q hq => R.2.2 q (hs.subset hq)⟩
theorem Mo.perm {ds' : Mem} {h : Heap} (hp : List.Perm ds' ds) (M : Mo Z a0 h0 ds h) : Mo Z a0 h0 ds' h := ⟨M.1, fun q hq => M.2.1 q (hp.mem_iff.mp hq), (hp.pairwise_iff (fun {a b} q => Ne.symm q)).mpr M.2.2⟩
theorem Go.perm {ds' : Mem} (hp : List.Perm ds' ds) (H : Go B Z a0 h0 Q k n ds' pc ls st) : Go B Z a0 h0 Q k n ds pc ls st := fun p l e s m args below meth c T locs hs as C X N M R =>
  H p l e s m args below meth c T locs hs as C X N (M.perm hp) ⟨R.1, R.2.1, fun q hq => R.2.2 q (hp.mem_iff.mp hq)⟩
/-- entry i to the front -/
theorem Go.front (i : Nat) (hi : i < ds.length) (H : Go B Z a0 h0 Q k n (ds[i] :: ds.eraseIdx i) pc ls st) : Go B Z a0 h0 Q k n ds pc ls st := Go.perm (by
  have e : ds = ds.take i ++ ds[i] :: ds.drop (i + 1) := by rw [List.getElem_cons_drop, List.take_append_drop]
  rw [List.eraseIdx_eq_take_drop_succ]
  exact (List.perm_middle.symm).trans (by rw [← e])) H
theorem Met.of {as : Array Value} (hp : plainFor B.1 = true) (he : ∀ m, entryFrame m as B.2.2.1 = mkF m 0 ls []) (H : Go B Z a0 h0 Q 0 0 ds 0 ls []) : Met B Z a0 h0 as ds Q := by
  intro l ws h M
  refine MetFree.of_bodySF hp hisR ?_
  intro p e s m args below meth c s₁ Bd hml hP _
  obtain ⟨rfl, hZ, hh⟩ := hP
  have hown : s.vm.findClass B.1.cls = some m.cls := findClass_of_methodNamed Bd.named
  have hnm := (name_of_methodNamed Bd.named Bd.method).1
  have e0 : s₁.heap = h := by rw [← hh, Bd.state]; rfl
  obtain ⟨s₂, v, L, ds', h1, h2, h3, h4, h4', h5, h6, h7⟩ := H p l e s m args below meth c s₁ [] h (ds.map (·.1)) ⟨Bd.exec, hZ, Bd.bytes, hml, hown, Bd.returns, Bd.notSynchronized, hnm⟩ (Stand.of_body Bd) (Fr.nil _) (by rw [e0]; exact M) (by rw [e0]; exact Tr.start h ds)
  exact ⟨s₂, _, castTop (he m) h1, h2, h3, v, L, rfl, ⟨h6, ds', h4, h4', h5⟩, h7⟩
theorem Met.mono {as : Array Value} {Q' : Option Value → Mem → Prop} (H : Met B Z a0 h0 as ds Q) (hq : ∀ v ds', Q v ds' → Q' v ds') : Met B Z a0 h0 as ds Q' := by
  intro l ws h M p e h1 h2 h3 s m args below h4 h5 h6 h7
  obtain ⟨n, o, g1, g2, g3, v, L, g4, ⟨g5, ds', g6, g6', g7⟩, g8⟩ := H l ws h M p e h1 h2 h3 s m args below h4 h5 h6 h7
  exact ⟨n, o, g1, g2, g3, v, L, g4, ⟨g5, ds', g6, g6', hq _ _ g7⟩, g8⟩
/-- the frame rule: what the callee doesn't know it leaves as it is -/
theorem Met.frame {as : Array Value} (rest : Mem) (H : Met B Z a0 h0 as ds Q) : Met B Z a0 h0 as (ds ++ rest) (fun v D => ∃ ds', Q v ds' ∧ D = ds' ++ rest) := by
  intro l ws h M p e h1 h2 h3 s m args below h4 h5 h6 h7
  have M1 : Mo Z a0 h0 ds h := ⟨M.1, fun q hq => M.2.1 q (List.mem_append_left _ hq), (List.pairwise_append.mp M.2.2).1⟩
  obtain ⟨n, o, g1, g2, g3, v, L, g4, ⟨g5, ds', g6, g6', g7⟩, g8⟩ := H l ws h M1 p e h1 h2 h3 s m args below h4 h5 h6 h7
  have nin : ∀ q ∈ rest, q.1 ∉ ds.map (·.1) := fun q hq m => by
    obtain ⟨r, hr, e⟩ := List.mem_map.mp m
    exact (List.pairwise_append.mp M.2.2).2.2 r hr q hq e
  refine ⟨n, o, g1, g2, g3, v, L, g4, ⟨g5, ds' ++ rest, ⟨g6.1, fun q hq => ?_, List.pairwise_append.mpr ⟨g6.2.2, (List.pairwise_append.mp M.2.2).2.1, fun q hq r hr => ?_⟩⟩, ⟨g6'.1, fun x c q r => g6'.2.1 x c q fun m => r ?_, fun q hq => ?_⟩, ds', g7, rfl⟩, g8⟩
  · rcases List.mem_append.mp hq with hq | hq
    · exact g6.2.1 q hq
    · obtain ⟨m1, m2⟩ := M.2.1 q (List.mem_append_right _ hq)
      exact ⟨m1, m2.frame g6'.2.1 (nin q hq)⟩
  · intro e
    rcases g6'.2.2 q hq with m | m
    · exact nin r hr (e ▸ m)
    · exact absurd (M.2.1 r (List.mem_append_right _ hr)).2.lt (Nat.not_lt.mpr (e ▸ m))
  · rw [List.map_append]; exact List.mem_append_left _ m
  · rcases List.mem_append.mp hq with hq | hq
    · rcases g6'.2.2 q hq with m | m
      · exact Or.inl (by rw [List.map_append]; exact List.mem_append_left _ m)
      · exact Or.inr m
    · exact Or.inl (List.mem_map.mpr ⟨q, List.mem_append_right _ hq, rfl⟩)
theorem Met.know {as : Array Value} {P : Prop} (hP : ∀ h, Mo Z a0 h0 ds h → P) (H : P → Met B Z a0 h0 as ds Q) : Met B Z a0 h0 as ds Q := fun l ws h M => H (hP h M) l ws h M
/-! the returns -/
theorem go_end {v : Option Value} (hk : k ≤ B.2.2.2.2.cells) (hn : n ≤ B.2.2.2.2.slots) (hv : B.2.2.2.1 = none → v = none) (HQ : Q v ds)
    (hs : ∀ {p : Program} {l : Launch} {e : Env} {s : State} {m : MethodId} {args : Array Value} {below : List Frame} {meth : Method} {c : Code} {T : State} {locs : List Loc}, Cx B Z p s m meth c → Stand p l e B.2.2.2.2 s m args below meth c T locs k n → ∀ {fs : List Frame}, (∀ (f : JFrame) (acts : List Action), f.method = m → f.locked = none → f.entered = [] → (doReturn e (T.setTop f) acts v).1 = T.setFrames fs) → Steps p.tables e below (T.setTop (mkF m pc ls st)) (T.setFrames fs)) :
    Go B Z a0 h0 Q k n ds pc ls st := by
  intro p l e s m args below meth c T locs h1 as C X N M R
  obtain ⟨fs, hr, hrun, hended, hW, hsame⟩ := X.leave (v := v) (fun q => hv (C.2.2.2.2.2.1.symm.trans q)) C.2.2.2.2.2.2.1
  exact ⟨_, v, locs, ds, hs C X hr, hrun, hended, M, R, HQ, N, ⟨_, rfl⟩, hW, hsame.mono hk hn⟩
theorem go_return (hd : decode B.2.1 pc = .ok (.return_, 1)) (hret : B.2.2.2.1 = none) (hst : st = []) (hk : k ≤ B.2.2.2.2.cells) (hn : n ≤ B.2.2.2.2.slots) (HQ : Q none ds) : Go B Z a0 h0 Q k n ds pc ls st := by
  subst hst
  exact go_end hk hn (fun _ => rfl) HQ fun C X _ hr => X.returnOut C.1 (C.2.2.2.2.2.1.trans hret) (hb C.2.2.1 hd) hr
theorem go_ireturn {z : Int32} {rest : List Value} {t : FieldType} (hd : decode B.2.1 pc = .ok (.ireturn, 1)) (hret : B.2.2.2.1 = some t) (ht : t = .int ∨ t = .boolean ∨ t = .byte ∨ t = .char ∨ t = .short) (hst : st = .int z :: rest) (hz : narrow t (.int z) = .int z) (hk : k ≤ B.2.2.2.2.cells) (hn : n ≤ B.2.2.2.2.slots) (HQ : Q (some (.int z)) ds) : Go B Z a0 h0 Q k n ds pc ls st := by
  subst hst
  exact go_end hk hn (fun q => by rw [hret] at q; cases q) HQ fun C X _ hr => retOut X C.1 (C.2.2.2.2.2.1.trans hret) hz (Or.inl ⟨rfl, ht, _, rfl⟩) (hb C.2.2.1 hd) hr
theorem go_lreturn {z : Int64} {rest : List Value} (hd : decode B.2.1 pc = .ok (.lreturn, 1)) (hret : B.2.2.2.1 = some .long) (hst : st = .long z :: rest) (hk : k ≤ B.2.2.2.2.cells) (hn : n ≤ B.2.2.2.2.slots) (HQ : Q (some (.long z)) ds) : Go B Z a0 h0 Q k n ds pc ls st := by
  subst hst
  exact go_end hk hn (fun q => by rw [hret] at q; cases q) HQ fun C X _ hr => retOut X C.1 (C.2.2.2.2.2.1.trans hret) rfl (Or.inr (Or.inl ⟨rfl, rfl, _, rfl⟩)) (hb C.2.2.1 hd) hr
theorem go_areturn {w : Value} {rest : List Value} {t : FieldType} (hd : decode B.2.1 pc = .ok (.areturn, 1)) (hret : B.2.2.2.1 = some t) (ht : t.isReference = true) (hw : w.isRef = true) (hst : st = w :: rest) (hk : k ≤ B.2.2.2.2.cells) (hn : n ≤ B.2.2.2.2.slots) (HQ : Q (some w) ds) : Go B Z a0 h0 Q k n ds pc ls st := by
  subst hst
  have hz : narrow t w = w := by rcases ref_cases hw with rfl | ⟨x, rfl⟩ <;> cases t <;> rfl
  exact go_end hk hn (fun q => by rw [hret] at q; cases q) HQ fun C X _ hr => retOut X C.1 (C.2.2.2.2.2.1.trans hret) hz (Or.inr (Or.inr (Or.inr (Or.inr ⟨rfl, ht, hw⟩)))) (hb C.2.2.1 hd) hr
/-! branches -/
def cmpP : ClassFile.Cond → Int32 → Int32 → Prop
  | .eq, x, y => x.toInt = y.toInt
  | .ne, x, y => x.toInt ≠ y.toInt
  | .lt, x, y => x.toInt < y.toInt
  | .ge, x, y => y.toInt ≤ x.toInt
  | .gt, x, y => y.toInt < x.toInt
  | .le, x, y => x.toInt ≤ y.toInt
def cmpZ : ClassFile.Cond → Int32 → Prop
  | .eq, x => x.toInt = 0
  | .ne, x => x.toInt ≠ 0
  | .lt, x => x.toInt < 0
  | .ge, x => 0 ≤ x.toInt
  | .gt, x => 0 < x.toInt
  | .le, x => x.toInt ≤ 0
theorem cmpP_iff (cd : ClassFile.Cond) (x y : Int32) : if_icmp.holds cd x y = true ↔ cmpP cd x y := by
  cases cd <;> simp [if_icmp.holds, cmpP, Int32.lt_iff_toInt_lt, Int32.le_iff_toInt_le, Int32.toInt_inj]
theorem cmpZ_iff (cd : ClassFile.Cond) (x : Int32) : ifCond.holds cd x = true ↔ cmpZ cd x := by
  have h0 : (0 : Int32).toInt = 0 := rfl
  cases cd <;> simp only [ifCond.holds, cmpZ, Int32.lt_iff_toInt_lt, Int32.le_iff_toInt_le, ← Int32.toInt_inj, h0, decide_eq_true_eq, beq_iff_eq, bne_iff_ne, ne_eq, gt_iff_lt, ge_iff_le]
theorem go_if {cd : ClassFile.Cond} {x : Int32} {rest : List Value} {o : Int} (q1 q2 : Nat) (hp : pc + 3 = q2) (ho : 0 ≤ (pc : Int) + o) (hq : ((pc : Int) + o).toNat = q1) (hd : decode B.2.1 pc = .ok (.ifCond cd o, 3)) (hst : st = .int x :: rest)
    (H1 : cmpZ cd x → Go B Z a0 h0 Q k n ds q1 ls rest) (H2 : ¬ cmpZ cd x → Go B Z a0 h0 Q k n ds q2 ls rest) : Go B Z a0 h0 Q k n ds pc ls st := by
  subst hst hp
  cases hc : ifCond.holds cd x
  · exact (H2 fun q => by rw [(cmpZ_iff cd x).mpr q] at hc; cases hc).step fun C X _ t hr => XS.ifNo X.here C.1 rfl (hb C.2.2.1 hd) rfl hc hr
  · exact (H1 ((cmpZ_iff cd x).mp hc)).step fun C X _ t hr => XS.ifYes X.here C.1 rfl rfl (hb C.2.2.1 hd) rfl hc ho hq hr
theorem go_icmp {cd : ClassFile.Cond} {x y : Int32} {rest : List Value} {o : Int} (q1 q2 : Nat) (hp : pc + 3 = q2) (ho : 0 ≤ (pc : Int) + o) (hq : ((pc : Int) + o).toNat = q1) (hd : decode B.2.1 pc = .ok (.if_icmp cd o, 3)) (hst : st = .int y :: .int x :: rest)
    (H1 : cmpP cd x y → Go B Z a0 h0 Q k n ds q1 ls rest) (H2 : ¬ cmpP cd x y → Go B Z a0 h0 Q k n ds q2 ls rest) : Go B Z a0 h0 Q k n ds pc ls st := by
  subst hst hp
  cases hc : if_icmp.holds cd x y
  · exact (H2 fun q => by rw [(cmpP_iff cd x y).mpr q] at hc; cases hc).step fun C X _ t hr => XS.icmpNo X.here C.1 rfl (hb C.2.2.1 hd) rfl hc hr
  · exact (H1 ((cmpP_iff cd x y).mp hc)).step fun C X _ t hr => XS.icmpYes X.here C.1 rfl rfl (hb C.2.2.1 hd) rfl hc ho hq hr
def acP : ACond → Value → Value → Prop
  | .eq, x, y => x = y
  | .ne, x, y => x ≠ y
theorem acP_iff (cd : ACond) (x y : Value) : acV cd (decide (x = y)) = true ↔ acP cd x y := by cases cd <;> simp [acV, acP]
theorem go_acmp {cd : ACond} {x y : Value} {rest : List Value} {o : Int} (q1 q2 : Nat) (hp : pc + 3 = q2) (ho : 0 ≤ (pc : Int) + o) (hq : ((pc : Int) + o).toNat = q1) (hd : decode B.2.1 pc = .ok (.if_acmp cd o, 3)) (hst : st = y :: x :: rest) (hx : x.isRef = true) (hy : y.isRef = true)
    (H1 : acP cd x y → Go B Z a0 h0 Q k n ds q1 ls rest) (H2 : ¬ acP cd x y → Go B Z a0 h0 Q k n ds q2 ls rest) : Go B Z a0 h0 Q k n ds pc ls st := by
  subst hst hp
  cases hc : acV cd (decide (x = y))
  · exact (H2 fun q => by rw [(acP_iff cd x y).mpr q] at hc; cases hc).step fun C X _ t hr => RoadKit.acmp X C.1 rfl hx hy rfl (hb C.2.2.1 hd) rfl rfl ho (by rw [hc]; rfl) hr
  · exact (H1 ((acP_iff cd x y).mp hc)).step fun C X _ t hr => RoadKit.acmp X C.1 rfl hx hy rfl (hb C.2.2.1 hd) rfl rfl ho (by rw [hc]; exact hq.symm) hr
theorem go_ifnullY {rest : List Value} {o : Int} (q1 : Nat) (ho : 0 ≤ (pc : Int) + o) (hq : ((pc : Int) + o).toNat = q1) (hd : decode B.2.1 pc = .ok (.ifnull o, 3)) (hst : st = .null :: rest) (H : Go B Z a0 h0 Q k n ds q1 ls rest) : Go B Z a0 h0 Q k n ds pc ls st := by
  subst hst; exact H.step fun C X _ t hr => XS.ifnullYes X.here C.1 rfl rfl (hb C.2.2.1 hd) rfl ho hq hr
theorem go_ifnullN {b : Addr} {rest : List Value} {o : Int} (q2 : Nat) (hp : pc + 3 = q2) (hd : decode B.2.1 pc = .ok (.ifnull o, 3)) (hst : st = .ref b :: rest) (H : Go B Z a0 h0 Q k n ds q2 ls rest) : Go B Z a0 h0 Q k n ds pc ls st := by
  subst hst hp; exact H.step fun C X _ t hr => XS.ifnullNo X.here C.1 rfl (hb C.2.2.1 hd) rfl hr
theorem go_ifnonnullY {b : Addr} {rest : List Value} {o : Int} (q1 : Nat) (ho : 0 ≤ (pc : Int) + o) (hq : ((pc : Int) + o).toNat = q1) (hd : decode B.2.1 pc = .ok (.ifnonnull o, 3)) (hst : st = .ref b :: rest) (H : Go B Z a0 h0 Q k n ds q1 ls rest) : Go B Z a0 h0 Q k n ds pc ls st := by
  subst hst; exact H.step fun C X _ t hr => XS.ifnonnullYes X.here C.1 rfl rfl (hb C.2.2.1 hd) rfl ho hq hr
theorem go_ifnonnullN {rest : List Value} {o : Int} (q2 : Nat) (hp : pc + 3 = q2) (hd : decode B.2.1 pc = .ok (.ifnonnull o, 3)) (hst : st = .null :: rest) (H : Go B Z a0 h0 Q k n ds q2 ls rest) : Go B Z a0 h0 Q k n ds pc ls st := by
  subst hst hp; exact H.step fun C X _ t hr => XS.ifnonnullNo X.here C.1 rfl (hb C.2.2.1 hd) rfl hr
theorem go_goto {o : Int} (q : Nat) (ho : 0 ≤ (pc : Int) + o) (hq : ((pc : Int) + o).toNat = q) (hd : decode B.2.1 pc = .ok (.goto o, 3)) (H : Go B Z a0 h0 Q k n ds q ls st) : Go B Z a0 h0 Q k n ds pc ls st :=
  H.step fun C X _ t hr => XS.goto X.here C.1 rfl rfl (hb C.2.2.1 hd) ho hq hr
/-! constants of the pool -/
theorem go_ldc {idx : Nat} {v : Int32} (q : Nat) (hp : pc + 2 = q) (hd : decode B.2.1 pc = .ok (.ldc idx, 2)) (w : (Jvm.Cond.constant B.1.cls idx v).before a0 Z = true) (H : Go B Z a0 h0 Q k n ds q ls (.int v :: st)) : Go B Z a0 h0 Q k n ds pc ls st := by
  subst hp; exact H.step fun C X _ t hr => X.ldcInt C.1 C.2.2.2.2.1 (mvT C.2.1 w) (g := mkF _ pc ls st) rfl (hb C.2.2.1 hd) t hr
theorem go_ldc2 {idx : Nat} {v : Int64} (q : Nat) (hp : pc + 3 = q) (hd : decode B.2.1 pc = .ok (.ldc2_w idx, 3)) (w : (Jvm.Cond.constantLong B.1.cls idx v).before a0 Z = true) (H : Go B Z a0 h0 Q k n ds q ls (.long v :: st)) : Go B Z a0 h0 Q k n ds pc ls st := by
  subst hp; exact H.step fun C X _ t hr => X.ldc2Long C.1 C.2.2.2.2.1 (mvT C.2.1 w) (g := mkF _ pc ls st) rfl (hb C.2.2.1 hd) t hr
/-! the heap -/
theorem go_new {C : String} {idx sz : Nat} (q : Nat) (hp : pc + 3 = q) (hd : decode B.2.1 pc = .ok (.new idx, 3)) (w : (Jvm.Cond.classLink B.1.cls idx C).before a0 Z = true) (wi : (Jvm.Cond.instantiable C sz).before a0 Z = true) (wz : (Jvm.Cond.initialized C).before a0 Z = true)
    (hk : k + 1 ≤ B.2.2.2.2.cells) (hn : n + sz ≤ B.2.2.2.2.slots) (fs : Fds) (hfs : LaidL Z a0 C fs) (hnd : (fs.map (·.2.1)).Nodup) (H : ∀ a, Go B Z a0 h0 Q (k + 1) (n + sz) (ds ++ [ob a C fs]) q ls (.ref a :: st)) : Go B Z a0 h0 Q k n ds pc ls st := by
  subst hp
  intro p l e s m args below meth c T locs hs as Cc X N M R
  obtain ⟨T', h', X', e', E', A', D', -, st'⟩ := newO X Cc.1 Cc.2.1 Cc.2.2.2.2.1 w wi wz rfl (g := mkF m pc ls st) rfl (hb Cc.2.2.1 hd) hk hn
  refine (H T.heap.size p l e s m args below meth c T' locs hs as Cc X' N ?_ (by rw [e']; exact R.add E')).back st'
  rw [e']
  refine M.add E' ⟨A', fun f hf => ?_, hnd⟩
  obtain ⟨L, ty, h1, h2⟩ := hfs.mem f hf
  exact ⟨h2 ▸ D' L h1, L, ty, h1⟩
theorem go_newarr {aty : ArrayType} {x : Int32} {rest : List Value} (q : Nat) (hp : pc + 2 = q) (hd : decode B.2.1 pc = .ok (.newarray aty, 2)) (hst : st = .int x :: rest) (w : (Jvm.Cond.arrayClass (newarray.typeOf aty)).before a0 Z = true) (hx : ¬ x < 0) (cap : Nat) (hcap : x.toNatClampNeg ≤ cap) (hbb : cap * 8 ≤ 536870912)
    (hk : k + 1 ≤ B.2.2.2.2.cells) (hn : n + cap ≤ B.2.2.2.2.slots) (H : ∀ a, Go B Z a0 h0 Q (k + 1) (n + cap) (ds ++ [ar a (newarray.typeOf aty) (List.replicate x.toNatClampNeg (defaultValue (newarray.typeOf aty)))]) q ls (.ref a :: rest)) : Go B Z a0 h0 Q k n ds pc ls st := by
  subst hp hst
  intro p l e s m args below meth c T locs hs as Cc X N M R
  obtain ⟨T', h', cA, X', e', E', A', st'⟩ := newP X Cc.1 Cc.2.1 w rfl (g := mkF m pc ls (.int x :: rest)) rfl (hb Cc.2.2.1 hd) rfl hx hcap hbb hk hn
  refine (H T.heap.size p l e s m args below meth c T' locs hs as Cc X' N ?_ (by rw [e']; exact R.add E')).back st'
  rw [e']
  exact M.add E' ⟨_, A', by simp [newA], fun C q => by cases aty <;> cases q⟩
theorem go_anewarr {C : String} {idx : Nat} {x : Int32} {rest : List Value} (q : Nat) (hp : pc + 3 = q) (hd : decode B.2.1 pc = .ok (.anewarray idx, 3)) (hst : st = .int x :: rest) (w : (Jvm.Cond.classLink B.1.cls idx C).before a0 Z = true) (w2 : (Jvm.Cond.arrayOver (.object C)).before a0 Z = true) (hx : ¬ x < 0) (cap : Nat) (hcap : x.toNatClampNeg ≤ cap) (hbb : cap * 8 ≤ 536870912)
    (hk : k + 1 ≤ B.2.2.2.2.cells) (hn : n + cap ≤ B.2.2.2.2.slots) (H : ∀ a, Go B Z a0 h0 Q (k + 1) (n + cap) (ds ++ [ar a (.object C) (List.replicate x.toNatClampNeg .null)]) q ls (.ref a :: rest)) : Go B Z a0 h0 Q k n ds pc ls st := by
  subst hp hst
  intro p l e s m args below meth c T locs hs as Cc X N M R
  obtain ⟨T', h', cA, X', e', E', A', O', st'⟩ := newR X Cc.1 Cc.2.1 Cc.2.2.2.2.1 w w2 rfl (g := mkF m pc ls (.int x :: rest)) rfl (hb Cc.2.2.1 hd) rfl hx hcap hbb hk hn
  refine (H T.heap.size p l e s m args below meth c T' locs hs as Cc X' N ?_ (by rw [e']; exact R.add E')).back st'
  rw [e']
  exact M.add E' ⟨_, A', by simp [newA, defaultValue], fun C' q => by cases q; exact O'⟩
theorem go_getG {a : Addr} {O R0 nm d : String} {v : Value} {idx : Nat} {rest : List Value} (q : Nat) (hp : pc + 3 = q) (hd : decode B.2.1 pc = .ok (.getfield idx, 3)) (hst : st = .ref a :: rest) (w : (Jvm.Cond.fieldLink B.1.cls idx R0 nm d).before a0 Z = true) (via : Via Z R0 O nm d) (hF : ∀ h, Mo Z a0 h0 ds h → Fld Z h a O nm d v)
    (H : Go B Z a0 h0 Q k n ds q ls (v :: rest)) : Go B Z a0 h0 Q k n ds pc ls st := by
  subst hp hst
  intro p l e s m args below meth c T locs hs as Cc X N M R
  obtain ⟨T', X', e', st'⟩ := getF X Cc.1 Cc.2.1 Cc.2.2.2.2.1 (host := "") (Or.inl w) via rfl (hF _ M) (g := mkF m pc ls (.ref a :: rest)) rfl rfl (hb Cc.2.2.1 hd)
  exact (H p l e s m args below meth c T' locs hs as Cc X' N (by rw [e']; exact M) (by rw [e']; exact R)).back st'
theorem go_get {a : Addr} {C O nm d : String} {fs : Fds} {v : Value} {idx : Nat} {rest : List Value} (i j q : Nat) (hp : pc + 3 = q) (hd : decode B.2.1 pc = .ok (.getfield idx, 3)) (hst : st = .ref a :: rest) (hi : ds[i]? = some (ob a C fs)) (hj : fs[j]? = some (O, nm, d, v)) (w : (Jvm.Cond.fieldLink B.1.cls idx O nm d).before a0 Z = true)
    (H : Go B Z a0 h0 Q k n ds q ls (v :: rest)) : Go B Z a0 h0 Q k n ds pc ls st :=
  go_getG q hp hd hst w Via.refl (fun h M => ((M.at hi).2.1 _ (List.mem_of_getElem? hj)).1) H
theorem go_put {a : Addr} {C O nm d : String} {fs : Fds} {v old : Value} {idx kk : Nat} {rest : List Value} {ty : FieldType} (i j q : Nat) (hp : pc + 3 = q) (hd : decode B.2.1 pc = .ok (.putfield idx, 3)) (hst : st = v :: .ref a :: rest) (hi : ds[i]? = some (ob a C fs)) (hj : fs[j]? = some (O, nm, d, old))
    (w : (Jvm.Cond.fieldLink B.1.cls idx O nm d).before a0 Z = true) (L : (Jvm.Cond.lays C O nm d).before a0 Z = true ∨ ((Jvm.Cond.laysFinal C O nm d).before a0 Z = true ∧ B.1.cls = O ∧ B.1.name = "<init>")) (wi : (Jvm.Cond.instantiable C kk).before a0 Z = true)
    (hty : parseFieldDescriptor d = some ty) (hnn : narrow ty v = v) (hf : fits ty v = true) (H : Go B Z a0 h0 Q k n (ds.set i (ob a C (fs.set j (O, nm, d, v)))) q ls rest) : Go B Z a0 h0 Q k n ds pc ls st := by
  subst hp hst
  intro p l e s m args below meth c T locs hs as Cc X N M R
  have HA := M.at hi
  obtain ⟨F, La, -⟩ := HA.2.1 _ (List.mem_of_getElem? hj)
  have hown : s.vm.findClass B.1.cls = some m.cls := Cc.2.2.2.2.1
  obtain ⟨T', h', X', e', W', st'⟩ := putF X Cc.1 Cc.2.1 hown (host := "") (Or.inl w) Via.refl rfl F HA.1 (L.imp id fun q => ⟨q.1, q.2.1, Cc.2.2.2.2.2.2.2.trans q.2.2⟩) wi hty hnn hf (g := mkF m pc ls (v :: .ref a :: rest)) rfl rfl (hb Cc.2.2.1 hd)
  refine (H p l e s m args below meth c T' _ hs as Cc X' (Fr.snoc X' N (M.new hi)) ?_ (by rw [e']; exact R.wr hi W')).back st'
  rw [e']
  refine M.wr hi W' ⟨HA.1.wr W', fun f hf => ?_, ?_⟩
  · obtain ⟨j', hj'⟩ := List.getElem?_of_mem hf
    by_cases e : j = j'
    · subst e
      rw [List.getElem?_set_self (List.getElem?_eq_some_iff.mp hj).1] at hj'
      cases hj'; exact ⟨F.same W', La, ty, hty⟩
    · rw [List.getElem?_set_ne e] at hj'
      obtain ⟨F1, L1, ty1, ht1⟩ := HA.2.1 f (List.mem_of_getElem? hj')
      refine ⟨F1.other W' (Or.inr (slot_ne L1 La (fun q => ?_) ht1 hty)), L1, ty1, ht1⟩
      have P := List.pairwise_iff_getElem.mp HA.2.2
      obtain ⟨l1, e1⟩ := List.getElem?_eq_some_iff.mp hj
      obtain ⟨l2, e2⟩ := List.getElem?_eq_some_iff.mp hj'
      rcases Nat.lt_or_gt_of_ne e with r | r
      · have z := P j j' (by simpa using l1) (by simpa using l2) r
        simp only [List.getElem_map, e1, e2] at z; exact z q.symm
      · have z := P j' j (by simpa using l2) (by simpa using l1) r
        simp only [List.getElem_map, e1, e2] at z; exact z q
  · rw [List.map_set]
    have : (fs.map (·.2.1)).set j nm = fs.map (·.2.1) := by
      apply List.ext_getElem?
      intro t
      by_cases e : j = t
      · subst e; rw [List.getElem?_set_self (by simpa using (List.getElem?_eq_some_iff.mp hj).1)]; simp [hj]
      · rw [List.getElem?_set_ne e]
    show ((fs.map (·.2.1)).set j nm).Nodup
    rw [this]; exact HA.2.2
theorem go_getS {O nm d : String} {v : Value} {idx : Nat} (q : Nat) (hp : pc + 3 = q) (hd : decode B.2.1 pc = .ok (.getstatic idx, 3)) (w : (Jvm.Cond.fieldLink B.1.cls idx O nm d).before a0 Z = true) (F : Sta Z h0 O nm d v) (H : Go B Z a0 h0 Q k n ds q ls (v :: st)) : Go B Z a0 h0 Q k n ds pc ls st := by
  subst hp
  intro p l e s m args below meth c T locs hs as Cc X N M R
  obtain ⟨T', X', e', st'⟩ := getS X Cc.1 Cc.2.1 (host := "") Cc.2.2.2.2.1 w Via.refl rfl (F.ext M.1) (g := mkF m pc ls st) rfl (hb Cc.2.2.1 hd)
  exact (H p l e s m args below meth c T' locs hs as Cc X' N (by rw [e']; exact M) (by rw [e']; exact R)).back st'
/-! arrays -/
theorem Holds.arr {h : Heap} {a : Addr} {ty : FieldType} {vs : List Value} (H : Holds Z a0 h a (.inr (ty, vs))) : ∃ c : Cell, Arr Z h a c ty ∧ c.slots = vs.toArray ∧ (∀ C, ty = .object C → Ovr Z c.cls C) := by
  obtain ⟨c, A, e, r⟩ := H; exact ⟨c, A, by rw [← e], r⟩
theorem inb {c : Cell} {vs : List Value} {j : Int32} {v : Value} (e : c.slots = vs.toArray) (hj : ¬ j < 0) (hv : vs[j.toNatClampNeg]? = some v) : ¬ (j < 0 ∨ c.slots.size ≤ j.toNatClampNeg) ∧ c.slots[j.toNatClampNeg]? = some v := by
  have l1 := (List.getElem?_eq_some_iff.mp hv).1
  rw [e]; exact ⟨fun q => q.elim hj fun q => by simp at q; omega, by simpa using hv⟩
theorem go_alenG {a : Addr} {z : Int32} {ty : FieldType} {rest : List Value} (q : Nat) (hp : pc + 1 = q) (hd : decode B.2.1 pc = .ok (.arraylength, 1)) (hst : st = .ref a :: rest) (hA : ∀ h, Mo Z a0 h0 ds h → ∃ c : Cell, Arr Z h a c ty ∧ c.slots.size.toInt32 = z) (H : Go B Z a0 h0 Q k n ds q ls (.int z :: rest)) : Go B Z a0 h0 Q k n ds pc ls st := by
  subst hp hst
  refine H.step fun C X M t hr => ?_
  obtain ⟨cl, A, e⟩ := hA _ M
  exact X.arraylength C.1 A.1 (State.isArrayOf_alike C.2.1.alike A.2.1) (g := mkF _ pc ls (.ref a :: rest)) rfl rfl (hb C.2.2.1 hd) t (by rw [e]; exact hr)
theorem go_alen {a : Addr} {ty : FieldType} {vs : List Value} {rest : List Value} (i q : Nat) (hp : pc + 1 = q) (hd : decode B.2.1 pc = .ok (.arraylength, 1)) (hst : st = .ref a :: rest) (hi : ds[i]? = some (ar a ty vs)) (H : Go B Z a0 h0 Q k n ds q ls (.int vs.length.toInt32 :: rest)) : Go B Z a0 h0 Q k n ds pc ls st :=
  go_alenG q hp hd hst (fun h M => by obtain ⟨c, A, e, -⟩ := (M.at hi).arr; exact ⟨c, A, by rw [e]; simp⟩) H
def El (Z : State) (h : Heap) (a : Addr) (ty : FieldType) (j : Int32) (v : Value) : Prop := ∃ c : Cell, Arr Z h a c ty ∧ ¬ (j < 0 ∨ c.slots.size ≤ j.toNatClampNeg) ∧ c.slots[j.toNatClampNeg]? = some v
theorem El.ext {h h' : Heap} {a : Addr} {ty : FieldType} {j : Int32} {v : Value} (E : Ext h h') (F : El Z h a ty j v) : El Z h' a ty j v := by obtain ⟨c, A, r⟩ := F; exact ⟨c, A.ext E, r⟩
theorem Mo.el {a : Addr} {ty : FieldType} {vs : List Value} {i : Nat} {j : Int32} {v : Value} (hi : ds[i]? = some (ar a ty vs)) (hj : ¬ j < 0) (hv : vs[j.toNatClampNeg]? = some v) : ∀ h, Mo Z a0 h0 ds h → El Z h a ty j v := fun h M => by
  obtain ⟨c, A, e, -⟩ := (M.at hi).arr; exact ⟨c, A, inb e hj hv⟩
theorem go_iaload {a : Addr} {j : Int32} {v : Value} {rest : List Value} (q : Nat) (hp : pc + 1 = q) (hd : decode B.2.1 pc = .ok (.iaload, 1)) (hst : st = .int j :: .ref a :: rest) (hA : ∀ h, Mo Z a0 h0 ds h → El Z h a .int j v) (H : Go B Z a0 h0 Q k n ds q ls (v :: rest)) : Go B Z a0 h0 Q k n ds pc ls st := by
  subst hp hst
  refine H.step fun C X M t hr => ?_
  obtain ⟨cl, A, h1, h2⟩ := hA _ M
  exact X.iaload C.1 A.1 (State.isArrayOf_alike C.2.1.alike A.2.1) A.2.2 h1 h2 (g := mkF _ pc ls (.int j :: .ref a :: rest)) rfl rfl (hb C.2.2.1 hd) t hr
theorem go_laload {a : Addr} {j : Int32} {v : Value} {rest : List Value} (q : Nat) (hp : pc + 1 = q) (hd : decode B.2.1 pc = .ok (.laload, 1)) (hst : st = .int j :: .ref a :: rest) (hA : ∀ h, Mo Z a0 h0 ds h → El Z h a .long j v) (H : Go B Z a0 h0 Q k n ds q ls (v :: rest)) : Go B Z a0 h0 Q k n ds pc ls st := by
  subst hp hst
  refine H.step fun C X M t hr => ?_
  obtain ⟨cl, A, h1, h2⟩ := hA _ M
  exact X.laload C.1 A.1 (State.isArrayOf_alike C.2.1.alike A.2.1) A.2.2 h1 h2 (g := mkF _ pc ls (.int j :: .ref a :: rest)) rfl rfl (hb C.2.2.1 hd) t hr
theorem go_caload {a : Addr} {j : Int32} {v : Value} {rest : List Value} (q : Nat) (hp : pc + 1 = q) (hd : decode B.2.1 pc = .ok (.caload, 1)) (hst : st = .int j :: .ref a :: rest) (hA : ∀ h, Mo Z a0 h0 ds h → El Z h a .char j v) (H : Go B Z a0 h0 Q k n ds q ls (v :: rest)) : Go B Z a0 h0 Q k n ds pc ls st := by
  subst hp hst
  refine H.step fun C X M t hr => ?_
  obtain ⟨cl, A, h1, h2⟩ := hA _ M
  exact X.caload C.1 A.1 (State.isArrayOf_alike C.2.1.alike A.2.1) A.2.2 h1 h2 (g := mkF _ pc ls (.int j :: .ref a :: rest)) rfl rfl (hb C.2.2.1 hd) t hr
theorem go_saload {a : Addr} {j : Int32} {v : Value} {rest : List Value} (q : Nat) (hp : pc + 1 = q) (hd : decode B.2.1 pc = .ok (.saload, 1)) (hst : st = .int j :: .ref a :: rest) (hA : ∀ h, Mo Z a0 h0 ds h → El Z h a .short j v) (H : Go B Z a0 h0 Q k n ds q ls (v :: rest)) : Go B Z a0 h0 Q k n ds pc ls st := by
  subst hp hst
  refine H.step fun C X M t hr => ?_
  obtain ⟨cl, A, h1, h2⟩ := hA _ M
  exact X.saload C.1 A.1 (State.isArrayOf_alike C.2.1.alike A.2.1) A.2.2 h1 h2 (g := mkF _ pc ls (.int j :: .ref a :: rest)) rfl rfl (hb C.2.2.1 hd) t hr
theorem go_baload {a : Addr} {j : Int32} {v : Value} {rest : List Value} (q : Nat) (hp : pc + 1 = q) (hd : decode B.2.1 pc = .ok (.baload, 1)) (hst : st = .int j :: .ref a :: rest) (hA : ∀ h, Mo Z a0 h0 ds h → El Z h a .byte j v) (H : Go B Z a0 h0 Q k n ds q ls (v :: rest)) : Go B Z a0 h0 Q k n ds pc ls st := by
  subst hp hst
  refine H.step fun C X M t hr => ?_
  obtain ⟨cl, A, h1, h2⟩ := hA _ M
  exact X.baloadBytes C.1 A.1 (State.isArrayOf_alike C.2.1.alike A.2.1) A.2.2 h1 h2 (g := mkF _ pc ls (.int j :: .ref a :: rest)) rfl rfl (hb C.2.2.1 hd) t hr
theorem go_zaload {a : Addr} {j : Int32} {v : Value} {rest : List Value} (q : Nat) (hp : pc + 1 = q) (hd : decode B.2.1 pc = .ok (.baload, 1)) (hst : st = .int j :: .ref a :: rest) (hA : ∀ h, Mo Z a0 h0 ds h → El Z h a .boolean j v) (H : Go B Z a0 h0 Q k n ds q ls (v :: rest)) : Go B Z a0 h0 Q k n ds pc ls st := by
  subst hp hst
  refine H.step fun C X M t hr => ?_
  obtain ⟨cl, A, h1, h2⟩ := hA _ M
  exact X.baloadBooleans C.1 A.1 (State.isArrayOf_alike C.2.1.alike A.2.1) A.2.2 h1 h2 (g := mkF _ pc ls (.int j :: .ref a :: rest)) rfl rfl (hb C.2.2.1 hd) t hr
theorem go_aaload {a : Addr} {j : Int32} {v : Value} {ty : FieldType} {rest : List Value} (q : Nat) (hp : pc + 1 = q) (hd : decode B.2.1 pc = .ok (.aaload, 1)) (hst : st = .int j :: .ref a :: rest) (hty : ty.isReference = true) (hA : ∀ h, Mo Z a0 h0 ds h → El Z h a ty j v) (H : Go B Z a0 h0 Q k n ds q ls (v :: rest)) : Go B Z a0 h0 Q k n ds pc ls st := by
  subst hp hst
  refine H.step fun C X M t hr => ?_
  obtain ⟨cl, A, h1, h2⟩ := hA _ M
  exact X.aaload C.1 A.1 (State.isArrayOf_alike C.2.1.alike A.2.1) hty A.2.2 h1 h2 (g := mkF _ pc ls (.int j :: .ref a :: rest)) rfl rfl (hb C.2.2.1 hd) t hr
theorem Holds.set {h h' : Heap} {a : Addr} {ty : FieldType} {vs : List Value} {c : Cell} {j : Int32} {v : Value} (A : Arr Z h a c ty) (e : c.slots = vs.toArray) (O : ∀ C, ty = .object C → Ovr Z c.cls C) (W : Wr h h' a j.toNatClampNeg v) : Holds Z a0 h' a (.inr (ty, vs.set j.toNatClampNeg v)) :=
  ⟨_, A.same W, by simp [Cell.setSlot, e], O⟩
theorem go_iastore {a : Addr} {j : Int32} {x : Int32} {vs rest : List Value} (i q : Nat) (hp : pc + 1 = q) (hd : decode B.2.1 pc = .ok (.iastore, 1)) (hst : st = .int x :: .int j :: .ref a :: rest) (hi : ds[i]? = some (ar a .int vs)) (hj : ¬ j < 0) (hl : j.toNatClampNeg < vs.length) (H : Go B Z a0 h0 Q k n (ds.set i (ar a .int (vs.set j.toNatClampNeg (.int x)))) q ls rest) : Go B Z a0 h0 Q k n ds pc ls st := by
  subst hp hst
  intro p l e s m args below meth c T locs hs as Cc X N M R
  obtain ⟨cl, A, ee, O⟩ := (M.at hi).arr
  obtain ⟨T', h', X', e', W', st'⟩ := stI X Cc.1 Cc.2.1 rfl A (inb ee hj (List.getElem?_eq_getElem hl)).1 (g := mkF m pc ls (.int x :: .int j :: .ref a :: rest)) rfl rfl (hb Cc.2.2.1 hd)
  refine (H p l e s m args below meth c T' _ hs as Cc X' (Fr.snoc X' N (M.new hi)) ?_ (by rw [e']; exact R.wr hi W')).back st'
  rw [e']; exact M.wr hi W' (Holds.set A ee O W')
theorem go_lastore {a : Addr} {j : Int32} {x : Int64} {vs rest : List Value} (i q : Nat) (hp : pc + 1 = q) (hd : decode B.2.1 pc = .ok (.lastore, 1)) (hst : st = .long x :: .int j :: .ref a :: rest) (hi : ds[i]? = some (ar a .long vs)) (hj : ¬ j < 0) (hl : j.toNatClampNeg < vs.length) (H : Go B Z a0 h0 Q k n (ds.set i (ar a .long (vs.set j.toNatClampNeg (.long x)))) q ls rest) : Go B Z a0 h0 Q k n ds pc ls st := by
  subst hp hst
  intro p l e s m args below meth c T locs hs as Cc X N M R
  obtain ⟨cl, A, ee, O⟩ := (M.at hi).arr
  obtain ⟨T', h', X', e', W', st'⟩ := stJ X Cc.1 Cc.2.1 rfl A (inb ee hj (List.getElem?_eq_getElem hl)).1 (g := mkF m pc ls (.long x :: .int j :: .ref a :: rest)) rfl rfl (hb Cc.2.2.1 hd)
  refine (H p l e s m args below meth c T' _ hs as Cc X' (Fr.snoc X' N (M.new hi)) ?_ (by rw [e']; exact R.wr hi W')).back st'
  rw [e']; exact M.wr hi W' (Holds.set A ee O W')
theorem go_castore {a : Addr} {j : Int32} {x : Int32} {vs rest : List Value} (i q : Nat) (hp : pc + 1 = q) (hd : decode B.2.1 pc = .ok (.castore, 1)) (hst : st = .int x :: .int j :: .ref a :: rest) (hi : ds[i]? = some (ar a .char vs)) (hj : ¬ j < 0) (hl : j.toNatClampNeg < vs.length) (H : Go B Z a0 h0 Q k n (ds.set i (ar a .char (vs.set j.toNatClampNeg (.int (nar .char x))))) q ls rest) : Go B Z a0 h0 Q k n ds pc ls st := by
  subst hp hst
  intro p l e s m args below meth c T locs hs as Cc X N M R
  obtain ⟨cl, A, ee, O⟩ := (M.at hi).arr
  obtain ⟨T', h', X', e', W', st'⟩ := stC X Cc.1 Cc.2.1 rfl A (inb ee hj (List.getElem?_eq_getElem hl)).1 (g := mkF m pc ls (.int x :: .int j :: .ref a :: rest)) rfl rfl (hb Cc.2.2.1 hd)
  refine (H p l e s m args below meth c T' _ hs as Cc X' (Fr.snoc X' N (M.new hi)) ?_ (by rw [e']; exact R.wr hi W')).back st'
  rw [e']; exact M.wr hi W' (Holds.set A ee O W')
theorem go_sastore {a : Addr} {j : Int32} {x : Int32} {vs rest : List Value} (i q : Nat) (hp : pc + 1 = q) (hd : decode B.2.1 pc = .ok (.sastore, 1)) (hst : st = .int x :: .int j :: .ref a :: rest) (hi : ds[i]? = some (ar a .short vs)) (hj : ¬ j < 0) (hl : j.toNatClampNeg < vs.length) (H : Go B Z a0 h0 Q k n (ds.set i (ar a .short (vs.set j.toNatClampNeg (.int (nar .short x))))) q ls rest) : Go B Z a0 h0 Q k n ds pc ls st := by
  subst hp hst
  intro p l e s m args below meth c T locs hs as Cc X N M R
  obtain ⟨cl, A, ee, O⟩ := (M.at hi).arr
  obtain ⟨T', h', X', e', W', st'⟩ := stS X Cc.1 Cc.2.1 rfl A (inb ee hj (List.getElem?_eq_getElem hl)).1 (g := mkF m pc ls (.int x :: .int j :: .ref a :: rest)) rfl rfl (hb Cc.2.2.1 hd)
  refine (H p l e s m args below meth c T' _ hs as Cc X' (Fr.snoc X' N (M.new hi)) ?_ (by rw [e']; exact R.wr hi W')).back st'
  rw [e']; exact M.wr hi W' (Holds.set A ee O W')
theorem go_bastore {a : Addr} {j : Int32} {x : Int32} {vs rest : List Value} (i q : Nat) (hp : pc + 1 = q) (hd : decode B.2.1 pc = .ok (.bastore, 1)) (hst : st = .int x :: .int j :: .ref a :: rest) (hi : ds[i]? = some (ar a .byte vs)) (hj : ¬ j < 0) (hl : j.toNatClampNeg < vs.length) (H : Go B Z a0 h0 Q k n (ds.set i (ar a .byte (vs.set j.toNatClampNeg (.int (nar .byte x))))) q ls rest) : Go B Z a0 h0 Q k n ds pc ls st := by
  subst hp hst
  intro p l e s m args below meth c T locs hs as Cc X N M R
  obtain ⟨cl, A, ee, O⟩ := (M.at hi).arr
  obtain ⟨T', h', X', e', W', st'⟩ := stB X Cc.1 Cc.2.1 rfl A (inb ee hj (List.getElem?_eq_getElem hl)).1 (g := mkF m pc ls (.int x :: .int j :: .ref a :: rest)) rfl rfl (hb Cc.2.2.1 hd)
  refine (H p l e s m args below meth c T' _ hs as Cc X' (Fr.snoc X' N (M.new hi)) ?_ (by rw [e']; exact R.wr hi W')).back st'
  rw [e']; exact M.wr hi W' (Holds.set A ee O W')
theorem go_zastore {a : Addr} {j : Int32} {x : Int32} {vs rest : List Value} (i q : Nat) (hp : pc + 1 = q) (hd : decode B.2.1 pc = .ok (.bastore, 1)) (hst : st = .int x :: .int j :: .ref a :: rest) (hi : ds[i]? = some (ar a .boolean vs)) (hj : ¬ j < 0) (hl : j.toNatClampNeg < vs.length) (H : Go B Z a0 h0 Q k n (ds.set i (ar a .boolean (vs.set j.toNatClampNeg (.int (nar .boolean x))))) q ls rest) : Go B Z a0 h0 Q k n ds pc ls st := by
  subst hp hst
  intro p l e s m args below meth c T locs hs as Cc X N M R
  obtain ⟨cl, A, ee, O⟩ := (M.at hi).arr
  obtain ⟨T', h', X', e', W', st'⟩ := stZ X Cc.1 Cc.2.1 rfl A (inb ee hj (List.getElem?_eq_getElem hl)).1 (g := mkF m pc ls (.int x :: .int j :: .ref a :: rest)) rfl rfl (hb Cc.2.2.1 hd)
  refine (H p l e s m args below meth c T' _ hs as Cc X' (Fr.snoc X' N (M.new hi)) ?_ (by rw [e']; exact R.wr hi W')).back st'
  rw [e']; exact M.wr hi W' (Holds.set A ee O W')
theorem go_aastore {a : Addr} {j : Int32} {v : Value} {ty : FieldType} {vs rest : List Value} (i q : Nat) (hp : pc + 1 = q) (hd : decode B.2.1 pc = .ok (.aastore, 1)) (hst : st = v :: .int j :: .ref a :: rest) (hi : ds[i]? = some (ar a ty vs)) (hty : ty.isReference = true) (hj : ¬ j < 0) (hl : j.toNatClampNeg < vs.length) (hS : ∀ h, Mo Z a0 h0 ds h → Sto Z h a v) (H : Go B Z a0 h0 Q k n (ds.set i (ar a ty (vs.set j.toNatClampNeg v))) q ls rest) : Go B Z a0 h0 Q k n ds pc ls st := by
  subst hp hst
  intro p l e s m args below meth c T locs hs as Cc X N M R
  obtain ⟨cl, A, ee, O⟩ := (M.at hi).arr
  obtain ⟨T', h', X', e', W', st'⟩ := stR X Cc.1 Cc.2.1 rfl A (inb ee hj (List.getElem?_eq_getElem hl)).1 hty (hS _ M) (g := mkF m pc ls (v :: .int j :: .ref a :: rest)) rfl rfl (hb Cc.2.2.1 hd)
  refine (H p l e s m args below meth c T' _ hs as Cc X' (Fr.snoc X' N (M.new hi)) ?_ (by rw [e']; exact R.wr hi W')).back st'
  rw [e']; exact M.wr hi W' (Holds.set A ee O W')
theorem Mo.sto {a y : Addr} {C : String} {vs : List Value} {i : Nat} (hi : ds[i]? = some (ar a (.object C) vs)) (hI : ∀ h, Mo Z a0 h0 ds h → Ins Z h y C true) : ∀ h, Mo Z a0 h0 ds h → Sto Z h a (.ref y) := fun h M => by
  obtain ⟨c, A, -, O⟩ := (M.at hi).arr; exact Sto.of A (O C rfl) (hI h M)
/-! the plain steps -/
theorem go_iloadN {j : Fin 4} {v : Int32} (q : Nat) (hp : pc + 1 = q) (hd : decode B.2.1 pc = .ok (.iload_n j, 1)) (hl : ls[j.val]? = some (.val (.int v))) (H : Go B Z a0 h0 Q k n ds q ls (.int v :: st)) : Go B Z a0 h0 Q k n ds pc ls st := by
  subst hp; exact H.step fun C X _ t hr => XS.iloadN X.here C.1 rfl (hb C.2.2.1 hd) hl hr
theorem go_iload {j : Nat} {v : Int32} (q : Nat) (hp : pc + 2 = q) (hd : decode B.2.1 pc = .ok (.iload j, 2)) (hl : ls[j]? = some (.val (.int v))) (H : Go B Z a0 h0 Q k n ds q ls (.int v :: st)) : Go B Z a0 h0 Q k n ds pc ls st := by
  subst hp; exact H.step fun C X _ t hr => XS.iload X.here C.1 rfl (hb C.2.2.1 hd) hl hr
theorem go_istoreN {j : Fin 4} {x : Int32} {rest : List Value} (l' : Array Slot) (q : Nat) (hp : pc + 1 = q) (hd : decode B.2.1 pc = .ok (.istore_n j, 1)) (hst : st = .int x :: rest) (hl : storeLocals ls j.val (.int x) = some l') (H : Go B Z a0 h0 Q k n ds q l' (rest)) : Go B Z a0 h0 Q k n ds pc ls st := by
  subst hp hst; exact H.step fun C X _ t hr => XS.istoreN X.here C.1 rfl (hb C.2.2.1 hd) rfl hl hr
theorem go_istore {j : Nat} {x : Int32} {rest : List Value} (l' : Array Slot) (q : Nat) (hp : pc + 2 = q) (hd : decode B.2.1 pc = .ok (.istore j, 2)) (hst : st = .int x :: rest) (hl : storeLocals ls j (.int x) = some l') (H : Go B Z a0 h0 Q k n ds q l' (rest)) : Go B Z a0 h0 Q k n ds pc ls st := by
  subst hp hst; exact H.step fun C X _ t hr => XS.istore X.here C.1 rfl (hb C.2.2.1 hd) rfl hl hr
theorem go_lloadN {j : Fin 4} {v : Int64} (q : Nat) (hp : pc + 1 = q) (hd : decode B.2.1 pc = .ok (.lload_n j, 1)) (hl : ls[j.val]? = some (.val (.long v))) (H : Go B Z a0 h0 Q k n ds q ls (.long v :: st)) : Go B Z a0 h0 Q k n ds pc ls st := by
  subst hp; exact H.step fun C X _ t hr => XS.lloadN X.here C.1 rfl (hb C.2.2.1 hd) hl hr
theorem go_lload {j : Nat} {v : Int64} (q : Nat) (hp : pc + 2 = q) (hd : decode B.2.1 pc = .ok (.lload j, 2)) (hl : ls[j]? = some (.val (.long v))) (H : Go B Z a0 h0 Q k n ds q ls (.long v :: st)) : Go B Z a0 h0 Q k n ds pc ls st := by
  subst hp; exact H.step fun C X _ t hr => XS.lload X.here C.1 rfl (hb C.2.2.1 hd) hl hr
theorem go_lstoreN {j : Fin 4} {x : Int64} {rest : List Value} (l' : Array Slot) (q : Nat) (hp : pc + 1 = q) (hd : decode B.2.1 pc = .ok (.lstore_n j, 1)) (hst : st = .long x :: rest) (hl : storeLocals ls j.val (.long x) = some l') (H : Go B Z a0 h0 Q k n ds q l' (rest)) : Go B Z a0 h0 Q k n ds pc ls st := by
  subst hp hst; exact H.step fun C X _ t hr => XS.lstoreN X.here C.1 rfl (hb C.2.2.1 hd) rfl hl hr
theorem go_lstore {j : Nat} {x : Int64} {rest : List Value} (l' : Array Slot) (q : Nat) (hp : pc + 2 = q) (hd : decode B.2.1 pc = .ok (.lstore j, 2)) (hst : st = .long x :: rest) (hl : storeLocals ls j (.long x) = some l') (H : Go B Z a0 h0 Q k n ds q l' (rest)) : Go B Z a0 h0 Q k n ds pc ls st := by
  subst hp hst; exact H.step fun C X _ t hr => XS.lstore X.here C.1 rfl (hb C.2.2.1 hd) rfl hl hr
theorem go_aloadN {j : Fin 4} {v : Value} (q : Nat) (hp : pc + 1 = q) (hd : decode B.2.1 pc = .ok (.aload_n j, 1)) (hl : ls[j.val]? = some (.val v)) (hv : v.isRef = true) (H : Go B Z a0 h0 Q k n ds q ls (v :: st)) : Go B Z a0 h0 Q k n ds pc ls st := by
  subst hp; exact H.step fun C X _ t hr => XS.aloadN X.here C.1 rfl (hb C.2.2.1 hd) hl hv hr
theorem go_aload {j : Nat} {v : Value} (q : Nat) (hp : pc + 2 = q) (hd : decode B.2.1 pc = .ok (.aload j, 2)) (hl : ls[j]? = some (.val v)) (hv : v.isRef = true) (H : Go B Z a0 h0 Q k n ds q ls (v :: st)) : Go B Z a0 h0 Q k n ds pc ls st := by
  subst hp; exact H.step fun C X _ t hr => XS.aload X.here C.1 rfl (hb C.2.2.1 hd) hl hv hr
theorem go_astoreN {j : Fin 4} {x : Value} {rest : List Value} (l' : Array Slot) (q : Nat) (hp : pc + 1 = q) (hd : decode B.2.1 pc = .ok (.astore_n j, 1)) (hst : st = x :: rest) (hv : x.isRef = true) (hl : storeLocals ls j.val x = some l') (H : Go B Z a0 h0 Q k n ds q l' (rest)) : Go B Z a0 h0 Q k n ds pc ls st := by
  subst hp hst; exact H.step fun C X _ t hr => XS.astoreN X.here C.1 rfl (hb C.2.2.1 hd) rfl hv hl hr
theorem go_astore {j : Nat} {x : Value} {rest : List Value} (l' : Array Slot) (q : Nat) (hp : pc + 2 = q) (hd : decode B.2.1 pc = .ok (.astore j, 2)) (hst : st = x :: rest) (hv : x.isRef = true) (hl : storeLocals ls j x = some l') (H : Go B Z a0 h0 Q k n ds q l' (rest)) : Go B Z a0 h0 Q k n ds pc ls st := by
  subst hp hst; exact H.step fun C X _ t hr => XS.astore X.here C.1 rfl (hb C.2.2.1 hd) rfl hv hl hr
theorem go_iconst {i : Int} (v : Int32) (q : Nat) (hp : pc + 1 = q) (hd : decode B.2.1 pc = .ok (.iconst i, 1)) (hv : Int32.ofInt i = v) (H : Go B Z a0 h0 Q k n ds q ls (.int v :: st)) : Go B Z a0 h0 Q k n ds pc ls st := by
  subst hp hv; exact H.step fun C X _ t hr => XS.iconst X.here C.1 rfl (hb C.2.2.1 hd) hr
theorem go_bipush {i : Int} (v : Int32) (q : Nat) (hp : pc + 2 = q) (hd : decode B.2.1 pc = .ok (.bipush i, 2)) (hv : (Int8.ofInt i).toInt32 = v) (H : Go B Z a0 h0 Q k n ds q ls (.int v :: st)) : Go B Z a0 h0 Q k n ds pc ls st := by
  subst hp hv; exact H.step fun C X _ t hr => XS.bipush X.here C.1 rfl (hb C.2.2.1 hd) hr
theorem go_sipush {i : Int} (v : Int32) (q : Nat) (hp : pc + 3 = q) (hd : decode B.2.1 pc = .ok (.sipush i, 3)) (hv : (Int16.ofInt i).toInt32 = v) (H : Go B Z a0 h0 Q k n ds q ls (.int v :: st)) : Go B Z a0 h0 Q k n ds pc ls st := by
  subst hp hv; exact H.step fun C X _ t hr => XS.sipush X.here C.1 rfl (hb C.2.2.1 hd) hr
theorem go_lconst {i : Fin 2} (v : Int64) (q : Nat) (hp : pc + 1 = q) (hd : decode B.2.1 pc = .ok (.lconst i, 1)) (hv : Int64.ofNat i.val = v) (H : Go B Z a0 h0 Q k n ds q ls (.long v :: st)) : Go B Z a0 h0 Q k n ds pc ls st := by
  subst hp hv; exact H.step fun C X _ t hr => XS.lconst X.here C.1 rfl (hb C.2.2.1 hd) hr
theorem go_aconstNull  (q : Nat) (hp : pc + 1 = q) (hd : decode B.2.1 pc = .ok (.aconst_null, 1)) (H : Go B Z a0 h0 Q k n ds q ls (.null :: st)) : Go B Z a0 h0 Q k n ds pc ls st := by
  subst hp; exact H.step fun C X _ t hr => XS.aconstNull X.here C.1 rfl (hb C.2.2.1 hd)  hr
theorem go_iadd {x y : Int32} {rest : List Value} (q : Nat) (hp : pc + 1 = q) (hd : decode B.2.1 pc = .ok (.iadd, 1)) (hst : st = .int y :: .int x :: rest) (H : Go B Z a0 h0 Q k n ds q ls (.int (x + y) :: rest)) : Go B Z a0 h0 Q k n ds pc ls st := by
  subst hp hst; exact H.step fun C X _ t hr => XS.iadd X.here C.1 rfl (hb C.2.2.1 hd) rfl hr
theorem go_isub {x y : Int32} {rest : List Value} (q : Nat) (hp : pc + 1 = q) (hd : decode B.2.1 pc = .ok (.isub, 1)) (hst : st = .int y :: .int x :: rest) (H : Go B Z a0 h0 Q k n ds q ls (.int (x - y) :: rest)) : Go B Z a0 h0 Q k n ds pc ls st := by
  subst hp hst; exact H.step fun C X _ t hr => XS.isub X.here C.1 rfl (hb C.2.2.1 hd) rfl hr
theorem go_imul {x y : Int32} {rest : List Value} (q : Nat) (hp : pc + 1 = q) (hd : decode B.2.1 pc = .ok (.imul, 1)) (hst : st = .int y :: .int x :: rest) (H : Go B Z a0 h0 Q k n ds q ls (.int (x * y) :: rest)) : Go B Z a0 h0 Q k n ds pc ls st := by
  subst hp hst; exact H.step fun C X _ t hr => XS.imul X.here C.1 rfl (hb C.2.2.1 hd) rfl hr
theorem go_iand {x y : Int32} {rest : List Value} (q : Nat) (hp : pc + 1 = q) (hd : decode B.2.1 pc = .ok (.iand, 1)) (hst : st = .int y :: .int x :: rest) (H : Go B Z a0 h0 Q k n ds q ls (.int (x &&& y) :: rest)) : Go B Z a0 h0 Q k n ds pc ls st := by
  subst hp hst; exact H.step fun C X _ t hr => XS.iand X.here C.1 rfl (hb C.2.2.1 hd) rfl hr
theorem go_ior {x y : Int32} {rest : List Value} (q : Nat) (hp : pc + 1 = q) (hd : decode B.2.1 pc = .ok (.ior, 1)) (hst : st = .int y :: .int x :: rest) (H : Go B Z a0 h0 Q k n ds q ls (.int (x ||| y) :: rest)) : Go B Z a0 h0 Q k n ds pc ls st := by
  subst hp hst; exact H.step fun C X _ t hr => XS.ior X.here C.1 rfl (hb C.2.2.1 hd) rfl hr
theorem go_ixor {x y : Int32} {rest : List Value} (q : Nat) (hp : pc + 1 = q) (hd : decode B.2.1 pc = .ok (.ixor, 1)) (hst : st = .int y :: .int x :: rest) (H : Go B Z a0 h0 Q k n ds q ls (.int (x ^^^ y) :: rest)) : Go B Z a0 h0 Q k n ds pc ls st := by
  subst hp hst; exact H.step fun C X _ t hr => XS.ixor X.here C.1 rfl (hb C.2.2.1 hd) rfl hr
theorem go_ishl {x y : Int32} {rest : List Value} (q : Nat) (hp : pc + 1 = q) (hd : decode B.2.1 pc = .ok (.ishl, 1)) (hst : st = .int y :: .int x :: rest) (H : Go B Z a0 h0 Q k n ds q ls (.int (x <<< (y &&& 31)) :: rest)) : Go B Z a0 h0 Q k n ds pc ls st := by
  subst hp hst; exact H.step fun C X _ t hr => XS.ishl X.here C.1 rfl (hb C.2.2.1 hd) rfl hr
theorem go_ishr {x y : Int32} {rest : List Value} (q : Nat) (hp : pc + 1 = q) (hd : decode B.2.1 pc = .ok (.ishr, 1)) (hst : st = .int y :: .int x :: rest) (H : Go B Z a0 h0 Q k n ds q ls (.int (x >>> (y &&& 31)) :: rest)) : Go B Z a0 h0 Q k n ds pc ls st := by
  subst hp hst; exact H.step fun C X _ t hr => XS.ishr X.here C.1 rfl (hb C.2.2.1 hd) rfl hr
theorem go_iushr {x y : Int32} {rest : List Value} (q : Nat) (hp : pc + 1 = q) (hd : decode B.2.1 pc = .ok (.iushr, 1)) (hst : st = .int y :: .int x :: rest) (H : Go B Z a0 h0 Q k n ds q ls (.int ((x.toUInt32 >>> (y &&& 31).toUInt32).toInt32) :: rest)) : Go B Z a0 h0 Q k n ds pc ls st := by
  subst hp hst; exact H.step fun C X _ t hr => XS.iushr X.here C.1 rfl (hb C.2.2.1 hd) rfl hr
theorem go_ladd {x y : Int64} {rest : List Value} (q : Nat) (hp : pc + 1 = q) (hd : decode B.2.1 pc = .ok (.ladd, 1)) (hst : st = .long y :: .long x :: rest) (H : Go B Z a0 h0 Q k n ds q ls (.long (x + y) :: rest)) : Go B Z a0 h0 Q k n ds pc ls st := by
  subst hp hst; exact H.step fun C X _ t hr => XS.ladd X.here C.1 rfl (hb C.2.2.1 hd) rfl hr
theorem go_lsub {x y : Int64} {rest : List Value} (q : Nat) (hp : pc + 1 = q) (hd : decode B.2.1 pc = .ok (.lsub, 1)) (hst : st = .long y :: .long x :: rest) (H : Go B Z a0 h0 Q k n ds q ls (.long (x - y) :: rest)) : Go B Z a0 h0 Q k n ds pc ls st := by
  subst hp hst; exact H.step fun C X _ t hr => XS.lsub X.here C.1 rfl (hb C.2.2.1 hd) rfl hr
theorem go_lmul {x y : Int64} {rest : List Value} (q : Nat) (hp : pc + 1 = q) (hd : decode B.2.1 pc = .ok (.lmul, 1)) (hst : st = .long y :: .long x :: rest) (H : Go B Z a0 h0 Q k n ds q ls (.long (x * y) :: rest)) : Go B Z a0 h0 Q k n ds pc ls st := by
  subst hp hst; exact H.step fun C X _ t hr => XS.lmul X.here C.1 rfl (hb C.2.2.1 hd) rfl hr
theorem go_land {x y : Int64} {rest : List Value} (q : Nat) (hp : pc + 1 = q) (hd : decode B.2.1 pc = .ok (.land, 1)) (hst : st = .long y :: .long x :: rest) (H : Go B Z a0 h0 Q k n ds q ls (.long (x &&& y) :: rest)) : Go B Z a0 h0 Q k n ds pc ls st := by
  subst hp hst; exact H.step fun C X _ t hr => XS.land X.here C.1 rfl (hb C.2.2.1 hd) rfl hr
theorem go_lor {x y : Int64} {rest : List Value} (q : Nat) (hp : pc + 1 = q) (hd : decode B.2.1 pc = .ok (.lor, 1)) (hst : st = .long y :: .long x :: rest) (H : Go B Z a0 h0 Q k n ds q ls (.long (x ||| y) :: rest)) : Go B Z a0 h0 Q k n ds pc ls st := by
  subst hp hst; exact H.step fun C X _ t hr => XS.lor X.here C.1 rfl (hb C.2.2.1 hd) rfl hr
theorem go_lxor {x y : Int64} {rest : List Value} (q : Nat) (hp : pc + 1 = q) (hd : decode B.2.1 pc = .ok (.lxor, 1)) (hst : st = .long y :: .long x :: rest) (H : Go B Z a0 h0 Q k n ds q ls (.long (x ^^^ y) :: rest)) : Go B Z a0 h0 Q k n ds pc ls st := by
  subst hp hst; exact H.step fun C X _ t hr => XS.lxor X.here C.1 rfl (hb C.2.2.1 hd) rfl hr
theorem go_lshl {x : Int64} {y : Int32} {rest : List Value} (q : Nat) (hp : pc + 1 = q) (hd : decode B.2.1 pc = .ok (.lshl, 1)) (hst : st = .int y :: .long x :: rest) (H : Go B Z a0 h0 Q k n ds q ls (.long (x <<< (y &&& 0x3f).toInt64) :: rest)) : Go B Z a0 h0 Q k n ds pc ls st := by
  subst hp hst; exact H.step fun C X _ t hr => XS.lshl X.here C.1 rfl (hb C.2.2.1 hd) rfl hr
theorem go_lshr {x : Int64} {y : Int32} {rest : List Value} (q : Nat) (hp : pc + 1 = q) (hd : decode B.2.1 pc = .ok (.lshr, 1)) (hst : st = .int y :: .long x :: rest) (H : Go B Z a0 h0 Q k n ds q ls (.long (x >>> (y &&& 0x3f).toInt64) :: rest)) : Go B Z a0 h0 Q k n ds pc ls st := by
  subst hp hst; exact H.step fun C X _ t hr => XS.lshr X.here C.1 rfl (hb C.2.2.1 hd) rfl hr
theorem go_lushr {x : Int64} {y : Int32} {rest : List Value} (q : Nat) (hp : pc + 1 = q) (hd : decode B.2.1 pc = .ok (.lushr, 1)) (hst : st = .int y :: .long x :: rest) (H : Go B Z a0 h0 Q k n ds q ls (.long ((x.toUInt64 >>> (y &&& 0x3f).toInt64.toUInt64).toInt64) :: rest)) : Go B Z a0 h0 Q k n ds pc ls st := by
  subst hp hst; exact H.step fun C X _ t hr => XS.lushr X.here C.1 rfl (hb C.2.2.1 hd) rfl hr
theorem go_idiv {x y : Int32} {rest : List Value} (q : Nat) (hp : pc + 1 = q) (hd : decode B.2.1 pc = .ok (.idiv, 1)) (hst : st = .int y :: .int x :: rest) (hy : y ≠ 0) (H : Go B Z a0 h0 Q k n ds q ls (.int (x / y) :: rest)) : Go B Z a0 h0 Q k n ds pc ls st := by
  subst hp hst; exact H.step fun C X _ t hr => XS.idiv X.here C.1 rfl (hb C.2.2.1 hd) rfl hy hr
theorem go_ldiv {x y : Int64} {rest : List Value} (q : Nat) (hp : pc + 1 = q) (hd : decode B.2.1 pc = .ok (.ldiv, 1)) (hst : st = .long y :: .long x :: rest) (hy : y ≠ 0) (H : Go B Z a0 h0 Q k n ds q ls (.long (x / y) :: rest)) : Go B Z a0 h0 Q k n ds pc ls st := by
  subst hp hst; exact H.step fun C X _ t hr => XS.ldiv X.here C.1 rfl (hb C.2.2.1 hd) rfl hy hr
theorem go_irem {x y : Int32} {rest : List Value} (q : Nat) (hp : pc + 1 = q) (hd : decode B.2.1 pc = .ok (.irem, 1)) (hst : st = .int y :: .int x :: rest) (hy : y ≠ 0) (H : Go B Z a0 h0 Q k n ds q ls (.int (x % y) :: rest)) : Go B Z a0 h0 Q k n ds pc ls st := by
  subst hp hst; exact H.step fun C X _ t hr => iremM X C.1 rfl (hb C.2.2.1 hd) rfl hy hr
theorem go_lrem {x y : Int64} {rest : List Value} (q : Nat) (hp : pc + 1 = q) (hd : decode B.2.1 pc = .ok (.lrem, 1)) (hst : st = .long y :: .long x :: rest) (hy : y ≠ 0) (H : Go B Z a0 h0 Q k n ds q ls (.long (x % y) :: rest)) : Go B Z a0 h0 Q k n ds pc ls st := by
  subst hp hst; exact H.step fun C X _ t hr => XS.lrem X.here C.1 rfl (hb C.2.2.1 hd) rfl hy (by rw [lrem_mod]; exact hr)
theorem go_ineg {x : Int32} {rest : List Value} (q : Nat) (hp : pc + 1 = q) (hd : decode B.2.1 pc = .ok (.ineg, 1)) (hst : st = .int x :: rest) (H : Go B Z a0 h0 Q k n ds q ls (.int (-x) :: rest)) : Go B Z a0 h0 Q k n ds pc ls st := by
  subst hp hst; exact H.step fun C X _ t hr => XS.ineg X.here C.1 rfl (hb C.2.2.1 hd) rfl hr
theorem go_lneg {x : Int64} {rest : List Value} (q : Nat) (hp : pc + 1 = q) (hd : decode B.2.1 pc = .ok (.lneg, 1)) (hst : st = .long x :: rest) (H : Go B Z a0 h0 Q k n ds q ls (.long (-x) :: rest)) : Go B Z a0 h0 Q k n ds pc ls st := by
  subst hp hst; exact H.step fun C X _ t hr => XS.lneg X.here C.1 rfl (hb C.2.2.1 hd) rfl hr
theorem go_i2l {x : Int32} {rest : List Value} (q : Nat) (hp : pc + 1 = q) (hd : decode B.2.1 pc = .ok (.i2l, 1)) (hst : st = .int x :: rest) (H : Go B Z a0 h0 Q k n ds q ls (.long x.toInt64 :: rest)) : Go B Z a0 h0 Q k n ds pc ls st := by
  subst hp hst; exact H.step fun C X _ t hr => XS.i2l X.here C.1 rfl (hb C.2.2.1 hd) rfl hr
theorem go_l2i {x : Int64} {rest : List Value} (q : Nat) (hp : pc + 1 = q) (hd : decode B.2.1 pc = .ok (.l2i, 1)) (hst : st = .long x :: rest) (H : Go B Z a0 h0 Q k n ds q ls (.int x.toInt32 :: rest)) : Go B Z a0 h0 Q k n ds pc ls st := by
  subst hp hst; exact H.step fun C X _ t hr => XS.l2i X.here C.1 rfl (hb C.2.2.1 hd) rfl hr
theorem go_i2b {x : Int32} {rest : List Value} (q : Nat) (hp : pc + 1 = q) (hd : decode B.2.1 pc = .ok (.i2b, 1)) (hst : st = .int x :: rest) (H : Go B Z a0 h0 Q k n ds q ls (.int x.toInt8.toInt32 :: rest)) : Go B Z a0 h0 Q k n ds pc ls st := by
  subst hp hst; exact H.step fun C X _ t hr => XS.i2b X.here C.1 rfl (hb C.2.2.1 hd) rfl hr
theorem go_i2c {x : Int32} {rest : List Value} (q : Nat) (hp : pc + 1 = q) (hd : decode B.2.1 pc = .ok (.i2c, 1)) (hst : st = .int x :: rest) (H : Go B Z a0 h0 Q k n ds q ls (.int x.toUInt32.toUInt16.toUInt32.toInt32 :: rest)) : Go B Z a0 h0 Q k n ds pc ls st := by
  subst hp hst; exact H.step fun C X _ t hr => XS.i2c X.here C.1 rfl (hb C.2.2.1 hd) rfl hr
theorem go_i2s {x : Int32} {rest : List Value} (q : Nat) (hp : pc + 1 = q) (hd : decode B.2.1 pc = .ok (.i2s, 1)) (hst : st = .int x :: rest) (H : Go B Z a0 h0 Q k n ds q ls (.int x.toInt16.toInt32 :: rest)) : Go B Z a0 h0 Q k n ds pc ls st := by
  subst hp hst; exact H.step fun C X _ t hr => XS.i2s X.here C.1 rfl (hb C.2.2.1 hd) rfl hr
theorem go_lcmp {x y : Int64} {rest : List Value} (q : Nat) (hp : pc + 1 = q) (hd : decode B.2.1 pc = .ok (.lcmp, 1)) (hst : st = .long y :: .long x :: rest) (H : Go B Z a0 h0 Q k n ds q ls (.int (lcmpW x y) :: rest)) : Go B Z a0 h0 Q k n ds pc ls st := by
  subst hp hst; exact H.step fun C X _ t hr => XS.lcmp X.here C.1 rfl (hb C.2.2.1 hd) rfl hr
theorem go_iinc {j : Nat} {cst : Int} {x : Int32} (l' : Array Slot) (q : Nat) (hp : pc + 3 = q) (hd : decode B.2.1 pc = .ok (.iinc j cst, 3)) (hl : ls[j]? = some (.val (.int x))) (hl' : storeLocals ls j (.int (x + Int32.ofInt cst)) = some l') (H : Go B Z a0 h0 Q k n ds q l' (st)) : Go B Z a0 h0 Q k n ds pc ls st := by
  subst hp; exact H.step fun C X _ t hr => XS.iinc X.here C.1 rfl (hb C.2.2.1 hd) hl hl' hr
theorem go_dup {x : Value} {rest : List Value} (q : Nat) (hp : pc + 1 = q) (hd : decode B.2.1 pc = .ok (.dup, 1)) (hst : st = x :: rest) (hc : x.category = 1) (H : Go B Z a0 h0 Q k n ds q ls (x :: x :: rest)) : Go B Z a0 h0 Q k n ds pc ls st := by
  subst hp hst; exact H.step fun C X _ t hr => XS.dup X.here C.1 rfl (hb C.2.2.1 hd) rfl hc hr
theorem go_pop {x : Value} {rest : List Value} (q : Nat) (hp : pc + 1 = q) (hd : decode B.2.1 pc = .ok (.pop, 1)) (hst : st = x :: rest) (hc : x.category = 1) (H : Go B Z a0 h0 Q k n ds q ls (rest)) : Go B Z a0 h0 Q k n ds pc ls st := by
  subst hp hst; exact H.step fun C X _ t hr => XS.pop X.here C.1 rfl (hb C.2.2.1 hd) rfl hc hr
theorem go_dupX1 {x y : Value} {rest : List Value} (q : Nat) (hp : pc + 1 = q) (hd : decode B.2.1 pc = .ok (.dup_x1, 1)) (hst : st = x :: y :: rest) (hc : x.category = 1) (hc' : y.category = 1) (H : Go B Z a0 h0 Q k n ds q ls (x :: y :: x :: rest)) : Go B Z a0 h0 Q k n ds pc ls st := by
  subst hp hst; exact H.step fun C X _ t hr => XS.dupX1 X.here C.1 rfl (hb C.2.2.1 hd) rfl hc hc' hr
theorem go_swap {x y : Value} {rest : List Value} (q : Nat) (hp : pc + 1 = q) (hd : decode B.2.1 pc = .ok (.swap, 1)) (hst : st = x :: y :: rest) (hc : x.category = 1) (hc' : y.category = 1) (H : Go B Z a0 h0 Q k n ds q ls (y :: x :: rest)) : Go B Z a0 h0 Q k n ds pc ls st := by
  subst hp hst; exact H.step fun C X _ t hr => XS.swap X.here C.1 rfl (hb C.2.2.1 hd) rfl hc hc' hr
theorem go_dup2 {x y : Value} {rest : List Value} (q : Nat) (hp : pc + 1 = q) (hd : decode B.2.1 pc = .ok (.dup2, 1)) (hst : st = x :: y :: rest) (hc : x.category = 1) (hc' : y.category = 1) (H : Go B Z a0 h0 Q k n ds q ls (x :: y :: x :: y :: rest)) : Go B Z a0 h0 Q k n ds pc ls st := by
  subst hp hst; exact H.step fun C X _ t hr => XT.dup2 X.here C.1 rfl (hb C.2.2.1 hd) rfl hc hc' hr
theorem go_dup2L {x : Int64} {rest : List Value} (q : Nat) (hp : pc + 1 = q) (hd : decode B.2.1 pc = .ok (.dup2, 1)) (hst : st = .long x :: rest) (H : Go B Z a0 h0 Q k n ds q ls (.long x :: .long x :: rest)) : Go B Z a0 h0 Q k n ds pc ls st := by
  subst hp hst; exact H.step fun C X _ t hr => XT.dup2L X.here C.1 rfl (hb C.2.2.1 hd) rfl hr
/-! calls: the callee's Met pays -/
theorem go_initObj {a : Addr} {idx : Nat} {rest : List Value} (q : Nat) (hp : pc + 3 = q) (hd : decode B.2.1 pc = .ok (.invokespecial idx, 3)) (hst : st = .ref a :: rest) (w1 : (Jvm.Cond.methodLink B.1.cls idx Lib.objectInit).before a0 Z = true) (w2 : (Jvm.Cond.instanceMethod Lib.objectInit).before a0 Z = true) (w3 : (Jvm.Cond.code Lib.objectInit ⟨#[0xb1]⟩ 1 none).before a0 Z = true)
    (hsz : ls.size = B.2.2.1) (hf : 1 ≤ B.2.2.2.2.frames) (hl : (rest.map fun v => v.category).sum + 12 ≤ B.2.2.2.2.locals) (H : Go B Z a0 h0 Q k n ds q ls rest) : Go B Z a0 h0 Q k n ds pc ls st := by
  subst hp hst
  intro p l e s m args below meth c T locs hs as Cc X N M R
  obtain ⟨T', X', e', st'⟩ := initO X Cc.1 Cc.2.1 Cc.2.2.2.2.1 w1 w2 w3 rfl (g := mkF m pc ls (.ref a :: rest)) rfl (hsz.trans Cc.2.2.2.1.symm) rfl (hb Cc.2.2.1 hd) hf (W := (rest.map fun v => v.category).sum) (by show 2 * 0 + _ ≤ _; omega) hl
  exact (H p l e s m args below meth c T' locs hs as Cc X' N (by rw [e']; exact M) (by rw [e']; exact R)).back st'
variable {y z : MethodName} {bytes : ByteArray} {maxL : Nat} {ret : Option FieldType} {rm : Room} {idx : Nat} {argsL rest : List Value} {ps : List FieldType} {Q' : Option Value → Mem → Prop}
theorem go_callS (q : Nat) (hp : pc + 3 = q) (hd : decode B.2.1 pc = .ok (.invokestatic idx, 3)) (w1 : (Jvm.Cond.methodLink B.1.cls idx y).before a0 Z = true) (w2 : (Jvm.Cond.static y).before a0 Z = true) (w3 : (Jvm.Cond.initialized y.cls).before a0 Z = true) (w4 : (Jvm.Cond.code y bytes maxL ret).before a0 Z = true)
    (hy : y.cls ≠ "java/lang/invoke/MethodHandle" ∧ y.cls ≠ "java/lang/invoke/VarHandle") (hM : Met (y, bytes, maxL, ret, rm) Z a0 h0 argsL.toArray ds Q') (hst : st = argsL.reverse ++ rest) (hpd : parseMethodDescriptor y.desc = some ⟨ps, ret⟩) (hlen : argsL.length = ps.length)
    (hsz : ls.size = B.2.2.1) (W : Nat) (hW : (rest.map fun v => v.category).sum = W) (hf : rm.frames + 1 ≤ B.2.2.2.2.frames) (hl : W + (maxL + 11) + rm.locals ≤ B.2.2.2.2.locals) (hk : k + rm.cells ≤ B.2.2.2.2.cells) (hn : n + rm.slots ≤ B.2.2.2.2.slots)
    (H : ∀ v ds', Q' v ds' → Go B Z a0 h0 Q (k + rm.cells) (n + rm.slots) ds' q ls (v.toList ++ rest)) : Go B Z a0 h0 Q k n ds pc ls st := by
  subst hp hst
  intro p l e s m args below meth c T locs hs as Cc X N M R
  have hZ := Cc.2.1
  obtain ⟨v, _, ⟨T', L', k', n'⟩, -, X', ⟨Lc, hQ, l1, y1, z1⟩, st'⟩ := Jvm.LawKit.callS X Cc.1 (y := y) Cc.2.2.2.2.1 (mvT hZ w1) (mvT hZ w2) (mvT hZ w3) (mvT hZ w4) hy (backOf (W := W) (hM l [] T.heap M) hZ w4 w3 hf hl) (g := mkF m pc ls (argsL.reverse ++ rest)) rfl (hsz.trans Cc.2.2.2.1.symm) (argsL := argsL) (rest := rest) (lenOf hpd hlen) rfl (by show 2 * 0 + _ ≤ _; omega) (hb Cc.2.2.1 hd) (fun _ _ => ⟨rfl, rfl, hk, hn⟩)
  dsimp only [Pt.U, Pt.locs, Pt.cells, Pt.slots] at X' l1 y1 z1 st' hQ
  subst l1 y1 z1
  obtain ⟨N', ds', M', R', hq⟩ := hQ
  exact (H v ds' hq p l e s m args below meth c T' _ hs as Cc X' (Fr.app N N') M' (R.call R')).back st'
theorem go_callI {a : Addr} (q : Nat) (hp : pc + 3 = q) (hd : decode B.2.1 pc = .ok (.invokespecial idx, 3)) (hin : y.name = "<init>") (w1 : (Jvm.Cond.methodLink B.1.cls idx y).before a0 Z = true) (w2 : (Jvm.Cond.instanceMethod y).before a0 Z = true) (w3 : (Jvm.Cond.initialized y.cls).before a0 Z = true) (w4 : (Jvm.Cond.code y bytes maxL none).before a0 Z = true)
    (hy : y.cls ≠ "java/lang/invoke/MethodHandle" ∧ y.cls ≠ "java/lang/invoke/VarHandle") (hM : Met (y, bytes, maxL, none, rm) Z a0 h0 (.ref a :: argsL).toArray ds Q') (hst : st = argsL.reverse ++ .ref a :: rest) (hpd : parseMethodDescriptor y.desc = some ⟨ps, ret⟩) (hlen : argsL.length = ps.length)
    (hsz : ls.size = B.2.2.1) (W : Nat) (hW : (rest.map fun v => v.category).sum = W) (hf : rm.frames + 1 ≤ B.2.2.2.2.frames) (hl : W + (maxL + 11) + rm.locals ≤ B.2.2.2.2.locals) (hk : k + rm.cells ≤ B.2.2.2.2.cells) (hn : n + rm.slots ≤ B.2.2.2.2.slots)
    (H : ∀ v ds', Q' v ds' → Go B Z a0 h0 Q (k + rm.cells) (n + rm.slots) ds' q ls (v.toList ++ rest)) : Go B Z a0 h0 Q k n ds pc ls st := by
  subst hp hst
  intro p l e s m args below meth c T locs hs as Cc X N M R
  have hZ := Cc.2.1
  obtain ⟨v, _, ⟨T', L', k', n'⟩, -, X', ⟨Lc, hQ, l1, y1, z1⟩, st'⟩ := X.specialBack Cc.1 (y := y) hin Cc.2.2.2.2.1 (mvT hZ w1) (mvT hZ w2) (mvT hZ w4) hy (backOf (W := W) (hM l [] T.heap M) hZ w4 w3 hf hl) (g := mkF m pc ls (argsL.reverse ++ .ref a :: rest)) rfl (hsz.trans Cc.2.2.2.1.symm) (Steps.refl _) (a := a) (argsL := argsL) (rest := rest) (lenOf hpd hlen) rfl (by show 2 * 0 + _ ≤ _; omega) (hb Cc.2.2.1 hd) (fun _ _ => ⟨rfl, rfl, hk, hn⟩)
  dsimp only [Pt.U, Pt.locs, Pt.cells, Pt.slots] at X' l1 y1 z1 st' hQ
  subst l1 y1 z1
  obtain ⟨N', ds', M', R', hq⟩ := hQ
  exact (H v ds' hq p l e s m args below meth c T' _ hs as Cc X' (Fr.app N N') M' (R.call R')).back fun t hr => st'.trans hr
theorem go_callIR {a : Addr} (q : Nat) (hp : pc + 3 = q) (hd : decode B.2.1 pc = .ok (.invokespecial idx, 3)) (hin : y.name = "<init>") (w1 : (Jvm.Cond.methodRef B.1.cls idx y).before a0 Z = true) (w2 : (Jvm.Cond.instanceMethod y).before a0 Z = true) (w3 : (Jvm.Cond.initialized y.cls).before a0 Z = true) (w4 : (Jvm.Cond.code y bytes maxL none).before a0 Z = true)
    (hy : y.cls ≠ "java/lang/invoke/MethodHandle" ∧ y.cls ≠ "java/lang/invoke/VarHandle") (hM : Met (y, bytes, maxL, none, rm) Z a0 h0 (.ref a :: argsL).toArray ds Q') (hst : st = argsL.reverse ++ .ref a :: rest) (hpd : parseMethodDescriptor y.desc = some ⟨ps, ret⟩) (hlen : argsL.length = ps.length)
    (hsz : ls.size = B.2.2.1) (W : Nat) (hW : (rest.map fun v => v.category).sum = W) (hf : rm.frames + 1 ≤ B.2.2.2.2.frames) (hl : W + (maxL + 11) + rm.locals ≤ B.2.2.2.2.locals) (hk : k + rm.cells ≤ B.2.2.2.2.cells) (hn : n + rm.slots ≤ B.2.2.2.2.slots)
    (H : ∀ v ds', Q' v ds' → Go B Z a0 h0 Q (k + rm.cells) (n + rm.slots) ds' q ls (v.toList ++ rest)) : Go B Z a0 h0 Q k n ds pc ls st := by
  subst hp hst
  intro p l e s m args below meth c T locs hs as Cc X N M R
  have hZ := Cc.2.1
  obtain ⟨v, _, ⟨T', L', k', n'⟩, -, X', ⟨Lc, hQ, l1, y1, z1⟩, st'⟩ := specialBackR X Cc.1 (y := y) hin Cc.2.2.2.2.1 (mvR hZ hy w2 w1) (mvT hZ w2) (mvT hZ w4) hy (backOf (W := W) (hM l [] T.heap M) hZ w4 w3 hf hl) (g := mkF m pc ls (argsL.reverse ++ .ref a :: rest)) rfl (hsz.trans Cc.2.2.2.1.symm) (Steps.refl _) (a := a) (argsL := argsL) (rest := rest) (lenOf hpd hlen) rfl (by show 2 * 0 + _ ≤ _; omega) (hb Cc.2.2.1 hd) (fun _ _ => ⟨rfl, rfl, hk, hn⟩)
  dsimp only [Pt.U, Pt.locs, Pt.cells, Pt.slots] at X' l1 y1 z1 st' hQ
  subst l1 y1 z1
  obtain ⟨N', ds', M', R', hq⟩ := hQ
  exact (H v ds' hq p l e s m args below meth c T' _ hs as Cc X' (Fr.app N N') M' (R.call R')).back fun t hr => st'.trans hr
theorem go_callVz {a : Addr} {C : String} (q : Nat) (hp : pc + 3 = q) (hd : decode B.2.1 pc = .ok (.invokevirtual idx, 3)) (w1 : (Jvm.Cond.methodLink B.1.cls idx y).before a0 Z = true) (w2 : (Jvm.Cond.declares y).before a0 Z = true) (w3 : (Jvm.Cond.selects C y z).before a0 Z = true) (w4 : (Jvm.Cond.instanceMethod z).before a0 Z = true) (w5 : (Jvm.Cond.initialized z.cls).before a0 Z = true) (w6 : (Jvm.Cond.code z bytes maxL ret).before a0 Z = true)
    (hnf : ∀ s : State, Z.Warmed39 s.vm → NotFace s y) (hy : y.cls ≠ "java/lang/invoke/MethodHandle" ∧ y.cls ≠ "java/lang/invoke/VarHandle") (hE : ∀ h, Mo Z a0 h0 ds h → Exa Z h a C) (hM : Met (z, bytes, maxL, ret, rm) Z a0 h0 (.ref a :: argsL).toArray ds Q') (hst : st = argsL.reverse ++ .ref a :: rest) (hpd : parseMethodDescriptor y.desc = some ⟨ps, ret⟩) (hlen : argsL.length = ps.length)
    (hsz : ls.size = B.2.2.1) (W : Nat) (hW : (rest.map fun v => v.category).sum = W) (hf : rm.frames + 1 ≤ B.2.2.2.2.frames) (hl : W + (maxL + 11) + rm.locals ≤ B.2.2.2.2.locals) (hk : k + rm.cells ≤ B.2.2.2.2.cells) (hn : n + rm.slots ≤ B.2.2.2.2.slots)
    (H : ∀ v ds', Q' v ds' → Go B Z a0 h0 Q (k + rm.cells) (n + rm.slots) ds' q ls (v.toList ++ rest)) : Go B Z a0 h0 Q k n ds pc ls st := by
  subst hp hst
  intro p l e s m args below meth c T locs hs as Cc X N M R
  have hZ := Cc.2.1
  obtain ⟨cq, kq, qa, qb, qc⟩ := isOf hZ rfl (hE _ M)
  obtain ⟨v, _, ⟨T', L', k', n'⟩, -, X', ⟨Lc, hQ, l1, y1, z1⟩, st'⟩ := X.virtualBack Cc.1 (y := y) (z := z) Cc.2.2.2.2.1 (mvT hZ w1) (mvT hZ w2) (hnf _ hZ) (mvT hZ w3) (mvT hZ w4) hy (backOf (W := W) (hM l [] T.heap M) hZ w6 w5 hf hl) qa qc (g := mkF m pc ls (argsL.reverse ++ .ref a :: rest)) rfl (hsz.trans Cc.2.2.2.1.symm) (Steps.refl _) (argsL := argsL) (rest := rest) (lenOf hpd hlen) rfl (by show 2 * 0 + _ ≤ _; omega) (hb Cc.2.2.1 hd) (fun _ _ => ⟨rfl, rfl, hk, hn⟩)
  dsimp only [Pt.U, Pt.locs, Pt.cells, Pt.slots] at X' l1 y1 z1 st' hQ
  subst l1 y1 z1
  obtain ⟨N', ds', M', R', hq⟩ := hQ
  exact (H v ds' hq p l e s m args below meth c T' _ hs as Cc X' (Fr.app N N') M' (R.call R')).back fun t hr => st'.trans hr
theorem go_callV {a : Addr} {C : String} (q : Nat) (hp : pc + 3 = q) (hd : decode B.2.1 pc = .ok (.invokevirtual idx, 3)) (w1 : (Jvm.Cond.methodLink B.1.cls idx y).before a0 Z = true) (w2 : (Jvm.Cond.declares y).before a0 Z = true) (w3 : (Jvm.Cond.selects C y y).before a0 Z = true) (w4 : (Jvm.Cond.instanceMethod y).before a0 Z = true) (w5 : (Jvm.Cond.initialized y.cls).before a0 Z = true) (w6 : (Jvm.Cond.code y bytes maxL ret).before a0 Z = true)
    (hy : y.cls ≠ "java/lang/invoke/MethodHandle" ∧ y.cls ≠ "java/lang/invoke/VarHandle") (hE : ∀ h, Mo Z a0 h0 ds h → Exa Z h a C) (hM : Met (y, bytes, maxL, ret, rm) Z a0 h0 (.ref a :: argsL).toArray ds Q') (hst : st = argsL.reverse ++ .ref a :: rest) (hpd : parseMethodDescriptor y.desc = some ⟨ps, ret⟩) (hlen : argsL.length = ps.length)
    (hsz : ls.size = B.2.2.1) (W : Nat) (hW : (rest.map fun v => v.category).sum = W) (hf : rm.frames + 1 ≤ B.2.2.2.2.frames) (hl : W + (maxL + 11) + rm.locals ≤ B.2.2.2.2.locals) (hk : k + rm.cells ≤ B.2.2.2.2.cells) (hn : n + rm.slots ≤ B.2.2.2.2.slots)
    (H : ∀ v ds', Q' v ds' → Go B Z a0 h0 Q (k + rm.cells) (n + rm.slots) ds' q ls (v.toList ++ rest)) : Go B Z a0 h0 Q k n ds pc ls st :=
  go_callVz q hp hd w1 w2 w3 w4 w5 w6 (fun s hZ => notFace_of_selects (args := #[]) (mvT hZ w3)) hy hE hM hst hpd hlen hsz W hW hf hl hk hn H
theorem go_callVU {a : Addr} {C owner : String} (q : Nat) (hp : pc + 3 = q) (hd : decode B.2.1 pc = .ok (.invokevirtual idx, 3)) (w1 : (Jvm.Cond.methodLink B.1.cls idx y).before a0 Z = true) (w0 : (Jvm.Cond.sameMethod y.cls owner y.name y.desc).before a0 Z = true) (w2 : (Jvm.Cond.declares ⟨owner, y.name, y.desc⟩).before a0 Z = true) (w3 : (Jvm.Cond.selects C y z).before a0 Z = true) (w4 : (Jvm.Cond.instanceMethod z).before a0 Z = true) (w5 : (Jvm.Cond.initialized z.cls).before a0 Z = true) (w6 : (Jvm.Cond.code z bytes maxL ret).before a0 Z = true)
    (hy : owner ≠ "java/lang/invoke/MethodHandle" ∧ owner ≠ "java/lang/invoke/VarHandle") (hE : ∀ h, Mo Z a0 h0 ds h → Exa Z h a C) (hM : Met (z, bytes, maxL, ret, rm) Z a0 h0 (.ref a :: argsL).toArray ds Q') (hst : st = argsL.reverse ++ .ref a :: rest) (hpd : parseMethodDescriptor y.desc = some ⟨ps, ret⟩) (hlen : argsL.length = ps.length)
    (hsz : ls.size = B.2.2.1) (W : Nat) (hW : (rest.map fun v => v.category).sum = W) (hf : rm.frames + 1 ≤ B.2.2.2.2.frames) (hl : W + (maxL + 11) + rm.locals ≤ B.2.2.2.2.locals) (hk : k + rm.cells ≤ B.2.2.2.2.cells) (hn : n + rm.slots ≤ B.2.2.2.2.slots)
    (H : ∀ v ds', Q' v ds' → Go B Z a0 h0 Q (k + rm.cells) (n + rm.slots) ds' q ls (v.toList ++ rest)) : Go B Z a0 h0 Q k n ds pc ls st := by
  subst hp hst
  intro p l e s m args below meth c T locs hs as Cc X N M R
  have hZ := Cc.2.1
  obtain ⟨cq, kq, qa, qb, qc⟩ := isOf hZ rfl (hE _ M)
  obtain ⟨v, _, ⟨T', L', k', n'⟩, -, X', ⟨Lc, hQ, l1, y1, z1⟩, st'⟩ := X.virtualBackUp Cc.1 (x := y) (y := z) Cc.2.2.2.2.1 (mvT hZ w1) (mvT hZ w0) (mvT hZ w2) hy (mvT hZ w3) (mvT hZ w4) (backOf (W := W) (hM l [] T.heap M) hZ w6 w5 hf hl) qa qc (g := mkF m pc ls (argsL.reverse ++ .ref a :: rest)) rfl (hsz.trans Cc.2.2.2.1.symm) (Steps.refl _) (argsL := argsL) (rest := rest) (lenOf hpd hlen) rfl (by show 2 * 0 + _ ≤ _; omega) (hb Cc.2.2.1 hd) (fun _ _ => ⟨rfl, rfl, hk, hn⟩)
  dsimp only [Pt.U, Pt.locs, Pt.cells, Pt.slots] at X' l1 y1 z1 st' hQ
  subst l1 y1 z1
  obtain ⟨N', ds', M', R', hq⟩ := hQ
  exact (H v ds' hq p l e s m args below meth c T' _ hs as Cc X' (Fr.app N N') M' (R.call R')).back fun t hr => st'.trans hr
theorem go_callP {a : Addr} {C host : String} {kk : Nat} (q : Nat) (hp : pc + 3 = q) (hd : decode B.2.1 pc = .ok (.invokevirtual idx, 3)) (w1 : (Jvm.Cond.methodLink B.1.cls idx y).before a0 Z = true ∨ (Jvm.Cond.methodLinkNest B.1.cls idx y host).before a0 Z = true) (w2 : (Jvm.Cond.instanceMethod y).before a0 Z = true) (w3 : (Jvm.Cond.privateMethod y).before a0 Z = true) (wi : (Jvm.Cond.instantiable y.cls kk).before a0 Z = true) (w5 : (Jvm.Cond.initialized y.cls).before a0 Z = true) (w6 : (Jvm.Cond.code y bytes maxL ret).before a0 Z = true)
    (hy : y.cls ≠ "java/lang/invoke/MethodHandle" ∧ y.cls ≠ "java/lang/invoke/VarHandle") (hE : ∀ h, Mo Z a0 h0 ds h → Exa Z h a C) (hM : Met (y, bytes, maxL, ret, rm) Z a0 h0 (.ref a :: argsL).toArray ds Q') (hst : st = argsL.reverse ++ .ref a :: rest) (hpd : parseMethodDescriptor y.desc = some ⟨ps, ret⟩) (hlen : argsL.length = ps.length)
    (hsz : ls.size = B.2.2.1) (W : Nat) (hW : (rest.map fun v => v.category).sum = W) (hf : rm.frames + 1 ≤ B.2.2.2.2.frames) (hl : W + (maxL + 11) + rm.locals ≤ B.2.2.2.2.locals) (hk : k + rm.cells ≤ B.2.2.2.2.cells) (hn : n + rm.slots ≤ B.2.2.2.2.slots)
    (H : ∀ v ds', Q' v ds' → Go B Z a0 h0 Q (k + rm.cells) (n + rm.slots) ds' q ls (v.toList ++ rest)) : Go B Z a0 h0 Q k n ds pc ls st := by
  subst hp hst
  intro p l e s m args below meth c T locs hs as Cc X N M R
  have hZ := Cc.2.1
  obtain ⟨cell, hcell, hobj⟩ := (hE _ M).cell
  obtain ⟨mk, methM, hnamed, hmethM, hstM, habM⟩ := Cond.instanceMethod_spec (mvT (args := args) hZ w2)
  obtain ⟨methM', cM, hmethM', -, -, -, -, -, -, hsigM⟩ := Cond.code_spec hnamed (mvT (args := args) hZ w6)
  cases hmethM.symm.trans hmethM'
  have hpriv := Cond.privateMethod_at (mvP hZ w3 (args := args))
  have hselP := selectMethod_private (p := e.platform) (c := cell.cls) hmethM (hpriv mk methM hnamed hmethM)
  obtain ⟨cP, kP, f1, hkP, -, hni, -⟩ := Cond.instantiable_spec (mvT (args := args) hZ wi)
  cases f1.symm.trans (findClass_of_methodNamed hnamed)
  have hni' : kP.isInterface = false := by cases hq : kP.isInterface with
    | false => rfl
    | true => rw [hq] at hni; simp at hni
  have hlen' := lenOf hpd hlen _ hsigM
  obtain ⟨vm₁, X₁, hstep₁⟩ : ∃ vm', Stand p l e B.2.2.2.2 s m args below meth c (T.setVm vm') locs k n ∧
      ∀ target, (∀ acts, Steps p.tables e below (doInvoke e ((T.setVm vm').setTop { (mkF m pc ls (argsL.reverse ++ .ref a :: rest)) with stack := rest }) acts mk (.ref a :: argsL).toArray).1 target) → Steps p.tables e below (T.setTop (mkF m pc ls (argsL.reverse ++ .ref a :: rest))) target := by
    rcases w1 with w1 | w1
    · exact X.invokevirtual Cc.1 Cc.2.2.2.2.1 (mvT hZ w1) hnamed hmethM hstM hkP hni' hy hcell hobj hselP hmethM habM hkP hni' rfl hlen' rfl (hb Cc.2.2.1 hd)
    · exact X.invokevirtualNest Cc.1 Cc.2.2.2.2.1 (Cond.methodLinkNest_wide hZ w1 :) hnamed hmethM hstM hkP hni' hy hcell hobj hselP hmethM habM hkP hni' rfl hlen' rfl (hb Cc.2.2.1 hd)
  have hW₁ : s.WarmedH vm₁ := X₁.warmed
  obtain ⟨v, ⟨T', L', k', n'⟩, X', ⟨Lc, hQ, l1, y1, z1⟩, hsteps⟩ := backOf (len := 3) (W := W) (hM l [] T.heap M) hZ w6 w5 hf hl m meth c ⟨T.setVm vm₁, locs, k, n⟩ { (mkF m pc ls (argsL.reverse ++ .ref a :: rest)) with stack := rest } (.invokevirtual idx) mk (.ref a :: argsL).toArray X₁ rfl (hsz.trans Cc.2.2.2.1.symm) (hb Cc.2.2.1 hd) (by show 2 * 0 + (rest.map fun v => v.category).sum ≤ _; omega) (X₁.named hnamed) ⟨rfl, rfl, hk, hn⟩
  dsimp only [Pt.U, Pt.locs, Pt.cells, Pt.slots] at X' l1 y1 z1 hsteps hQ
  subst l1 y1 z1
  obtain ⟨N', ds', M', R', hq⟩ := hQ
  exact (H v ds' hq p l e s m args below meth c T' _ hs as Cc X' (Fr.app N N') M' (R.call R')).back fun t hr => (hstep₁ _ fun acts => by rw [doInvoke_state]; exact Steps.refl _).trans (hsteps.trans hr)
theorem go_callF {a : Addr} {C : String} {cnt : Nat} (q : Nat) (hp : pc + 5 = q) (hd : decode B.2.1 pc = .ok (.invokeinterface idx cnt, 5)) (w1 : (Jvm.Cond.methodLink B.1.cls idx y).before a0 Z = true) (w2 : (Jvm.Cond.declares y).before a0 Z = true) (wf : (Jvm.Cond.interfaceMethod y.cls y.cls y.name y.desc).before a0 Z = true) (tf : ((Jvm.Cond.interfaceMethod y.cls y.cls y.name y.desc).onTables && (Jvm.Cond.interfaceMethod y.cls y.cls y.name y.desc).keepsFace) = true) (w3 : (Jvm.Cond.selects C y z).before a0 Z = true) (w4 : (Jvm.Cond.instanceMethod z).before a0 Z = true) (wp : (Jvm.Cond.publicMethod z).before a0 Z = true) (wu : (Jvm.Cond.unhidden C y.name y.desc).before a0 Z = true) (wc : (Jvm.Cond.castable C y.cls).before a0 Z = true) (w5 : (Jvm.Cond.initialized z.cls).before a0 Z = true) (w6 : (Jvm.Cond.code z bytes maxL ret).before a0 Z = true)
    (hy : y.cls ≠ "java/lang/invoke/MethodHandle" ∧ y.cls ≠ "java/lang/invoke/VarHandle") (hE : ∀ h, Mo Z a0 h0 ds h → Exa Z h a C) (hM : Met (z, bytes, maxL, ret, rm) Z a0 h0 (.ref a :: argsL).toArray ds Q') (hst : st = argsL.reverse ++ .ref a :: rest) (hpd : parseMethodDescriptor y.desc = some ⟨ps, ret⟩) (hlen : argsL.length = ps.length)
    (hsz : ls.size = B.2.2.1) (W : Nat) (hW : (rest.map fun v => v.category).sum = W) (hf : rm.frames + 1 ≤ B.2.2.2.2.frames) (hl : W + (maxL + 11) + rm.locals ≤ B.2.2.2.2.locals) (hk : k + rm.cells ≤ B.2.2.2.2.cells) (hn : n + rm.slots ≤ B.2.2.2.2.slots)
    (H : ∀ v ds', Q' v ds' → Go B Z a0 h0 Q (k + rm.cells) (n + rm.slots) ds' q ls (v.toList ++ rest)) : Go B Z a0 h0 Q k n ds pc ls st := by
  subst hp hst
  intro p l e s m args below meth c T locs hs as Cc X N M R
  have hZ := Cc.2.1
  obtain ⟨cq, kq, qa, qb, qc⟩ := isOf hZ rfl (hE _ M)
  obtain ⟨v, _, ⟨T', L', k', n'⟩, -, X', ⟨Lc, hQ, l1, y1, z1⟩, st'⟩ := X.interfaceBack Cc.1 (xi := y) (y := z) Cc.2.2.2.2.1 (mvT hZ w1) (mvT hZ w2) (mvT hZ wf (hd := tf)) (mvT hZ w3) (mvT hZ w4) (mvT hZ wp) (mvT hZ wu) (mvT hZ wc) hy (backOf (W := W) (hM l [] T.heap M) hZ w6 w5 hf hl) qa qb qc (g := mkF m pc ls (argsL.reverse ++ .ref a :: rest)) rfl (hsz.trans Cc.2.2.2.1.symm) (Steps.refl _) (argsL := argsL) (rest := rest) (lenOf hpd hlen) rfl (by show 2 * 0 + _ ≤ _; omega) (hb Cc.2.2.1 hd) (fun _ _ => ⟨rfl, rfl, hk, hn⟩)
  dsimp only [Pt.U, Pt.locs, Pt.cells, Pt.slots] at X' l1 y1 z1 st' hQ
  subst l1 y1 z1
  obtain ⟨N', ds', M', R', hq⟩ := hQ
  exact (H v ds' hq p l e s m args below meth c T' _ hs as Cc X' (Fr.app N N') M' (R.call R')).back fun t hr => st'.trans hr
theorem go_cast {a : Addr} {K : String} (q : Nat) (hp : pc + 3 = q) (hd : decode B.2.1 pc = .ok (.checkcast idx, 3)) (hst : st = .ref a :: rest) (w : (Jvm.Cond.classLink B.1.cls idx K).before a0 Z = true) (hI : ∀ h, Mo Z a0 h0 ds h → Ins Z h a K true) (H : Go B Z a0 h0 Q k n ds q ls st) : Go B Z a0 h0 Q k n ds pc ls st := by
  subst hp hst
  intro p l e s m args below meth c T locs hs as Cc X N M R
  obtain ⟨T', X', e', st'⟩ := castY X Cc.1 Cc.2.1 Cc.2.2.2.2.1 w rfl (hI _ M) (g := mkF m pc ls (.ref a :: rest)) rfl rfl (hb Cc.2.2.1 hd)
  exact (H p l e s m args below meth c T' locs hs as Cc X' N (by rw [e']; exact M) (by rw [e']; exact R)).back st'
theorem go_instY {a : Addr} {K : String} (q : Nat) (hp : pc + 3 = q) (hd : decode B.2.1 pc = .ok (.instanceof idx, 3)) (hst : st = .ref a :: rest) (w : (Jvm.Cond.classLink B.1.cls idx K).before a0 Z = true) (hI : ∀ h, Mo Z a0 h0 ds h → Ins Z h a K true) (H : Go B Z a0 h0 Q k n ds q ls (.int 1 :: rest)) : Go B Z a0 h0 Q k n ds pc ls st := by
  subst hp hst
  intro p l e s m args below meth c T locs hs as Cc X N M R
  obtain ⟨T', X', e', st'⟩ := instY X Cc.1 Cc.2.1 Cc.2.2.2.2.1 w rfl (hI _ M) (g := mkF m pc ls (.ref a :: rest)) rfl rfl (hb Cc.2.2.1 hd)
  exact (H p l e s m args below meth c T' locs hs as Cc X' N (by rw [e']; exact M) (by rw [e']; exact R)).back st'
theorem go_getN {a : Addr} {C O nm d host : String} {fs : Fds} {v : Value} (i j q : Nat) (hp : pc + 3 = q) (hd : decode B.2.1 pc = .ok (.getfield idx, 3)) (hst : st = .ref a :: rest) (hi : ds[i]? = some (ob a C fs)) (hj : fs[j]? = some (O, nm, d, v)) (w : (Jvm.Cond.fieldLinkNest B.1.cls idx O nm d host).before a0 Z = true)
    (H : Go B Z a0 h0 Q k n ds q ls (v :: rest)) : Go B Z a0 h0 Q k n ds pc ls st := by
  subst hp hst
  intro p l e s m args below meth c T locs hs as Cc X N M R
  obtain ⟨T', X', e', st'⟩ := getF X Cc.1 Cc.2.1 Cc.2.2.2.2.1 (host := host) (Or.inr w) Via.refl rfl ((M.at hi).2.1 _ (List.mem_of_getElem? hj)).1 (g := mkF m pc ls (.ref a :: rest)) rfl rfl (hb Cc.2.2.1 hd)
  exact (H p l e s m args below meth c T' locs hs as Cc X' N (by rw [e']; exact M) (by rw [e']; exact R)).back st'
end Core
end Jvm.OwnW

namespace Jvm.Pilot.@@N@@
open Jvm Jvm.ClassFile Sem Op Lib Jvm.Free Jvm.Stand Jvm.LawKit Jvm.RoadKit Bundle Jvm.OwnW Jvm.Pilot.@@N@@.Jvm.D

def trim (s e y : Int32) : Int32 := if s.toInt < e.toInt ∧ y.toInt = 13 then e - 1 else e
theorem trim_a {s e y : Int32} (h : e.toInt ≤ s.toInt) : trim s e y = e := if_neg (by omega)
theorem trim_b {s e y : Int32} (h : y.toInt ≠ 13) : trim s e y = e := if_neg (by omega)
theorem trim_c {s e y : Int32} (h : s.toInt < e.toInt) (h2 : y.toInt = 13) : trim s e y = e - 1 := if_pos ⟨h, h2⟩
def lz (n z0 z1 z2 z3 : Int32) : Int32 := if n.toInt = 1 then z0 else if n.toInt = 2 then z1 else if n.toInt = 3 then z2 else z3
theorem notneg {x : Int32} (h : 0 ≤ x.toInt) : ¬ x < 0 := by rw [Int32.lt_iff_toInt_lt]; exact Int.not_lt.mpr h
theorem clampLt {x : Int32} {n : Nat} (h : x.toInt < n) (h0 : 0 < n) : x.toNatClampNeg < n := by unfold Int32.toNatClampNeg; omega
def bump (z C : Int32) : Int32 := if z.toInt = 10 then C + 1 else C
def wri (z : Int32) (A : List Value) (l i : Int32) : List Value := if z.toInt = 10 then A.set l.toNatClampNeg (.int i) else A
def bumq (z C : Int32) : Int32 := if z.toInt = 10 then C + 1 else C
theorem bumq_p {z C : Int32} (h : z.toInt = 10) : bumq z C = C + 1 := if_pos h
theorem bumq_n {z C : Int32} (h : ¬ z.toInt = 10) : bumq z C = C := if_neg h
theorem bump_p {z C : Int32} (h : z.toInt = 10) : bump z C = C + 1 := if_pos h
theorem bump_n {z C : Int32} (h : ¬ z.toInt = 10) : bump z C = C := if_neg h
theorem wri_p {z : Int32} {A : List Value} {l i : Int32} (h : z.toInt = 10) : wri z A l i = A.set l.toNatClampNeg (.int i) := if_pos h
theorem wri_n {z : Int32} {A : List Value} {l i : Int32} (h : ¬ z.toInt = 10) : wri z A l i = A := if_neg h
theorem nar_b (y : Int32) : nar .byte (y.toInt8.toInt32) = y.toInt8.toInt32 := by show y.toInt8.toInt32.toInt8.toInt32 = _; simp

def bk0 : List Value := []
def bk1 (z0 : Int32) : List Value := if z0.toInt = 10 then (wri z0 (List.replicate (bump z0 (0 : Int32)).toNatClampNeg (.int (0 : Int32))) (0 : Int32) (0 : Int32)) else ((wri z0 (List.replicate ((bump z0 (0 : Int32)) + (1 : Int32)).toNatClampNeg (.int (0 : Int32))) (0 : Int32) (0 : Int32)).set (bumq z0 (0 : Int32)).toNatClampNeg (.int (1 : Int32)))
def bk2 (z0 z1 : Int32) : List Value := if z1.toInt = 10 then (wri z1 (wri z0 (List.replicate (bump z1 (bump z0 (0 : Int32))).toNatClampNeg (.int (0 : Int32))) (0 : Int32) (0 : Int32)) (bumq z0 (0 : Int32)) (1 : Int32)) else ((wri z1 (wri z0 (List.replicate ((bump z1 (bump z0 (0 : Int32))) + (1 : Int32)).toNatClampNeg (.int (0 : Int32))) (0 : Int32) (0 : Int32)) (bumq z0 (0 : Int32)) (1 : Int32)).set (bumq z1 (bumq z0 (0 : Int32))).toNatClampNeg (.int (2 : Int32)))
def bk3 (z0 z1 z2 : Int32) : List Value := if z2.toInt = 10 then (wri z2 (wri z1 (wri z0 (List.replicate (bump z2 (bump z1 (bump z0 (0 : Int32)))).toNatClampNeg (.int (0 : Int32))) (0 : Int32) (0 : Int32)) (bumq z0 (0 : Int32)) (1 : Int32)) (bumq z1 (bumq z0 (0 : Int32))) (2 : Int32)) else ((wri z2 (wri z1 (wri z0 (List.replicate ((bump z2 (bump z1 (bump z0 (0 : Int32)))) + (1 : Int32)).toNatClampNeg (.int (0 : Int32))) (0 : Int32) (0 : Int32)) (bumq z0 (0 : Int32)) (1 : Int32)) (bumq z1 (bumq z0 (0 : Int32))) (2 : Int32)).set (bumq z2 (bumq z1 (bumq z0 (0 : Int32)))).toNatClampNeg (.int (3 : Int32)))
def bk4 (z0 z1 z2 z3 : Int32) : List Value := if z3.toInt = 10 then (wri z3 (wri z2 (wri z1 (wri z0 (List.replicate (bump z3 (bump z2 (bump z1 (bump z0 (0 : Int32))))).toNatClampNeg (.int (0 : Int32))) (0 : Int32) (0 : Int32)) (bumq z0 (0 : Int32)) (1 : Int32)) (bumq z1 (bumq z0 (0 : Int32))) (2 : Int32)) (bumq z2 (bumq z1 (bumq z0 (0 : Int32)))) (3 : Int32)) else ((wri z3 (wri z2 (wri z1 (wri z0 (List.replicate ((bump z3 (bump z2 (bump z1 (bump z0 (0 : Int32))))) + (1 : Int32)).toNatClampNeg (.int (0 : Int32))) (0 : Int32) (0 : Int32)) (bumq z0 (0 : Int32)) (1 : Int32)) (bumq z1 (bumq z0 (0 : Int32))) (2 : Int32)) (bumq z2 (bumq z1 (bumq z0 (0 : Int32)))) (3 : Int32)).set (bumq z3 (bumq z2 (bumq z1 (bumq z0 (0 : Int32))))).toNatClampNeg (.int (4 : Int32)))
def Fact0 (v91 v92 v93 v94 : List Value) : Prop := ∃ p71 p73 : Int32, (0 : Int) < v93.length.toInt32.toInt ∧ v93[0]? = some (.int p71) ∧ ((0 : Int32).toInt < p71.toInt → ¬ (p71 - (1 : Int32)) < 0 ∧ v94[(p71 - (1 : Int32)).toNatClampNeg]? = some (.int p73)) ∧ v91[0]? = some (.int (0 : Int32)) ∧ v92[0]? = some (.int (trim (0 : Int32) p71 p73))
def Fact1 (v91 v92 v93 v94 : List Value) : Prop := ∃ p71 p73 p74 : Int32, (1 : Int) < v93.length.toInt32.toInt ∧ v93[1]? = some (.int p71) ∧ v93[0]? = some (.int p74) ∧ ((p74 + (1 : Int32)).toInt < p71.toInt → ¬ (p71 - (1 : Int32)) < 0 ∧ v94[(p71 - (1 : Int32)).toNatClampNeg]? = some (.int p73)) ∧ v91[1]? = some (.int (p74 + (1 : Int32))) ∧ v92[1]? = some (.int (trim (p74 + (1 : Int32)) p71 p73))
def Fact2 (v91 v92 v93 v94 : List Value) : Prop := ∃ p71 p73 p74 : Int32, (2 : Int) < v93.length.toInt32.toInt ∧ v93[2]? = some (.int p71) ∧ v93[1]? = some (.int p74) ∧ ((p74 + (1 : Int32)).toInt < p71.toInt → ¬ (p71 - (1 : Int32)) < 0 ∧ v94[(p71 - (1 : Int32)).toNatClampNeg]? = some (.int p73)) ∧ v91[2]? = some (.int (p74 + (1 : Int32))) ∧ v92[2]? = some (.int (trim (p74 + (1 : Int32)) p71 p73))
def Fact3 (v91 v92 v93 v94 : List Value) : Prop := ∃ p71 p73 p74 : Int32, (3 : Int) < v93.length.toInt32.toInt ∧ v93[3]? = some (.int p71) ∧ v93[2]? = some (.int p74) ∧ ((p74 + (1 : Int32)).toInt < p71.toInt → ¬ (p71 - (1 : Int32)) < 0 ∧ v94[(p71 - (1 : Int32)).toNatClampNeg]? = some (.int p73)) ∧ v91[3]? = some (.int (p74 + (1 : Int32))) ∧ v92[3]? = some (.int (trim (p74 + (1 : Int32)) p71 p73))
theorem ite_r {P : Prop} [Decidable P] {c : Int32} (k : Int) (h : 0 ≤ c.toInt ∧ c.toInt ≤ k) (hk : k < 100) : 0 ≤ (if P then c + (1 : Int32) else c).toInt ∧ (if P then c + (1 : Int32) else c).toInt ≤ k + 1 := by
  split
  · have e := c_iadd c 1; have e1 : (1 : Int32).toInt = 1 := rfl; have r := rng32 (c + 1); omega
  · omega
theorem ite_len {P : Prop} [Decidable P] {v : List Value} {i : Nat} {x : Value} (h : v.length = 5) : (if P then v.set i x else v).length = 5 := by split <;> simp [h]
theorem five (i : Int32) (h0 : 0 ≤ i.toInt) (h1 : i.toInt < 5) : i = 0 ∨ i = 1 ∨ i = 2 ∨ i = 3 ∨ i = 4 := by
  have : i.toInt = 0 ∨ i.toInt = 1 ∨ i.toInt = 2 ∨ i.toInt = 3 ∨ i.toInt = 4 := by omega
  rcases this with q | q | q | q | q
  · exact Or.inl (Int32.toInt_inj.mp q)
  · exact Or.inr (Or.inl (Int32.toInt_inj.mp q))
  · exact Or.inr (Or.inr (Or.inl (Int32.toInt_inj.mp q)))
  · exact Or.inr (Or.inr (Or.inr (Or.inl (Int32.toInt_inj.mp q))))
  · exact Or.inr (Or.inr (Or.inr (Or.inr (Int32.toInt_inj.mp q))))

abbrev mem1 (x0 : Addr) (x1 : Addr) (x2 : Addr) : Mem := [ar x0 .byte [], ar x1 .int [], ob x2 "com/example/clauseline/clauseline/model/Document" [("com/example/clauseline/clauseline/model/Document", "recent", "[Lcom/example/clauseline/clauseline/model/Line;", .null), ("com/example/clauseline/clauseline/model/Document", "lines", "Ljava/util/List;", .null), ("com/example/clauseline/clauseline/model/Document", "bytes", "[B", .null), ("com/example/clauseline/clauseline/model/Document", "breaks", "[I", .null)]]
abbrev mem2 (x0 : Addr) (x1 : Addr) (x2 : Addr) (x3 : Addr) : Mem := [ar x0 .byte [], ar x1 .int [], ob x2 "com/example/clauseline/clauseline/model/Document" [("com/example/clauseline/clauseline/model/Document", "recent", "[Lcom/example/clauseline/clauseline/model/Line;", .null), ("com/example/clauseline/clauseline/model/Document", "lines", "Ljava/util/List;", .null), ("com/example/clauseline/clauseline/model/Document", "bytes", "[B", .null), ("com/example/clauseline/clauseline/model/Document", "breaks", "[I", .null)], ar x3 (.object "com/example/clauseline/clauseline/model/Line") [.null, .null, .null, .null, .null, .null, .null, .null, .null, .null, .null, .null, .null, .null, .null, .null]]
abbrev mem3 (x0 : Addr) (x1 : Addr) (x2 : Addr) (x3 : Addr) : Mem := [ar x0 .byte [], ar x1 .int [], ob x2 "com/example/clauseline/clauseline/model/Document" [("com/example/clauseline/clauseline/model/Document", "recent", "[Lcom/example/clauseline/clauseline/model/Line;", (.ref x3)), ("com/example/clauseline/clauseline/model/Document", "lines", "Ljava/util/List;", .null), ("com/example/clauseline/clauseline/model/Document", "bytes", "[B", .null), ("com/example/clauseline/clauseline/model/Document", "breaks", "[I", .null)], ar x3 (.object "com/example/clauseline/clauseline/model/Line") [.null, .null, .null, .null, .null, .null, .null, .null, .null, .null, .null, .null, .null, .null, .null, .null]]
abbrev mem4 (x0 : Addr) (x1 : Addr) (x2 : Addr) (x3 : Addr) (x4 : Addr) : Mem := [ar x0 .byte [], ar x1 .int [], ob x2 "com/example/clauseline/clauseline/model/Document" [("com/example/clauseline/clauseline/model/Document", "recent", "[Lcom/example/clauseline/clauseline/model/Line;", (.ref x3)), ("com/example/clauseline/clauseline/model/Document", "lines", "Ljava/util/List;", .null), ("com/example/clauseline/clauseline/model/Document", "bytes", "[B", .null), ("com/example/clauseline/clauseline/model/Document", "breaks", "[I", .null)], ar x3 (.object "com/example/clauseline/clauseline/model/Line") [.null, .null, .null, .null, .null, .null, .null, .null, .null, .null, .null, .null, .null, .null, .null, .null], ob x4 "com/example/clauseline/clauseline/model/Document$Lines" [("com/example/clauseline/clauseline/model/Document$Lines", "this$0", "Lcom/example/clauseline/clauseline/model/Document;", .null), ("java/util/AbstractList", "modCount", "I", (.int (0 : Int32)))]]
abbrev mem5 (x0 : Addr) (x1 : Addr) (x2 : Addr) (x3 : Addr) (x4 : Addr) : Mem := [ob x0 "com/example/clauseline/clauseline/model/Document" [("com/example/clauseline/clauseline/model/Document", "recent", "[Lcom/example/clauseline/clauseline/model/Line;", (.ref x1)), ("com/example/clauseline/clauseline/model/Document", "lines", "Ljava/util/List;", .null), ("com/example/clauseline/clauseline/model/Document", "bytes", "[B", .null), ("com/example/clauseline/clauseline/model/Document", "breaks", "[I", .null)], ar x1 (.object "com/example/clauseline/clauseline/model/Line") [.null, .null, .null, .null, .null, .null, .null, .null, .null, .null, .null, .null, .null, .null, .null, .null], ob x2 "com/example/clauseline/clauseline/model/Document$Lines" [("com/example/clauseline/clauseline/model/Document$Lines", "this$0", "Lcom/example/clauseline/clauseline/model/Document;", .null), ("java/util/AbstractList", "modCount", "I", (.int (0 : Int32)))], ar x3 .byte [], ar x4 .int []]
abbrev mem6 (x0 : Addr) (x1 : Addr) (x2 : Addr) : Mem := [ob x0 "com/example/clauseline/clauseline/model/Document" [("com/example/clauseline/clauseline/model/Document", "recent", "[Lcom/example/clauseline/clauseline/model/Line;", (.ref x1)), ("com/example/clauseline/clauseline/model/Document", "lines", "Ljava/util/List;", .null), ("com/example/clauseline/clauseline/model/Document", "bytes", "[B", .null), ("com/example/clauseline/clauseline/model/Document", "breaks", "[I", .null)], ar x1 (.object "com/example/clauseline/clauseline/model/Line") [.null, .null, .null, .null, .null, .null, .null, .null, .null, .null, .null, .null, .null, .null, .null, .null], ob x2 "com/example/clauseline/clauseline/model/Document$Lines" [("com/example/clauseline/clauseline/model/Document$Lines", "this$0", "Lcom/example/clauseline/clauseline/model/Document;", .null), ("java/util/AbstractList", "modCount", "I", (.int (0 : Int32)))]]
abbrev mem7 (x0 : Addr) (x1 : Addr) (x2 : Addr) : Mem := [ob x0 "com/example/clauseline/clauseline/model/Document" [("com/example/clauseline/clauseline/model/Document", "recent", "[Lcom/example/clauseline/clauseline/model/Line;", (.ref x1)), ("com/example/clauseline/clauseline/model/Document", "lines", "Ljava/util/List;", .null), ("com/example/clauseline/clauseline/model/Document", "bytes", "[B", .null), ("com/example/clauseline/clauseline/model/Document", "breaks", "[I", .null)], ar x1 (.object "com/example/clauseline/clauseline/model/Line") [.null, .null, .null, .null, .null, .null, .null, .null, .null, .null, .null, .null, .null, .null, .null, .null], ob x2 "com/example/clauseline/clauseline/model/Document$Lines" [("com/example/clauseline/clauseline/model/Document$Lines", "this$0", "Lcom/example/clauseline/clauseline/model/Document;", (.ref x0)), ("java/util/AbstractList", "modCount", "I", (.int (0 : Int32)))]]
abbrev mem8 (x0 : Addr) (x1 : Addr) (x2 : Addr) (x3 : Addr) (x4 : Addr) : Mem := [ob x0 "com/example/clauseline/clauseline/model/Document" [("com/example/clauseline/clauseline/model/Document", "recent", "[Lcom/example/clauseline/clauseline/model/Line;", (.ref x1)), ("com/example/clauseline/clauseline/model/Document", "lines", "Ljava/util/List;", .null), ("com/example/clauseline/clauseline/model/Document", "bytes", "[B", .null), ("com/example/clauseline/clauseline/model/Document", "breaks", "[I", .null)], ar x1 (.object "com/example/clauseline/clauseline/model/Line") [.null, .null, .null, .null, .null, .null, .null, .null, .null, .null, .null, .null, .null, .null, .null, .null], ob x2 "com/example/clauseline/clauseline/model/Document$Lines" [("com/example/clauseline/clauseline/model/Document$Lines", "this$0", "Lcom/example/clauseline/clauseline/model/Document;", (.ref x0)), ("java/util/AbstractList", "modCount", "I", (.int (0 : Int32)))], ar x3 .byte [], ar x4 .int []]
abbrev mem9 (x0 : Addr) (x1 : Addr) (x2 : Addr) (x3 : Addr) (x4 : Addr) : Mem := [ob x0 "com/example/clauseline/clauseline/model/Document" [("com/example/clauseline/clauseline/model/Document", "recent", "[Lcom/example/clauseline/clauseline/model/Line;", (.ref x1)), ("com/example/clauseline/clauseline/model/Document", "lines", "Ljava/util/List;", (.ref x2)), ("com/example/clauseline/clauseline/model/Document", "bytes", "[B", .null), ("com/example/clauseline/clauseline/model/Document", "breaks", "[I", .null)], ar x1 (.object "com/example/clauseline/clauseline/model/Line") [.null, .null, .null, .null, .null, .null, .null, .null, .null, .null, .null, .null, .null, .null, .null, .null], ob x2 "com/example/clauseline/clauseline/model/Document$Lines" [("com/example/clauseline/clauseline/model/Document$Lines", "this$0", "Lcom/example/clauseline/clauseline/model/Document;", (.ref x0)), ("java/util/AbstractList", "modCount", "I", (.int (0 : Int32)))], ar x3 .byte [], ar x4 .int []]
abbrev mem10 (x0 : Addr) (x1 : Addr) (x2 : Addr) (x3 : Addr) (x4 : Addr) : Mem := [ob x0 "com/example/clauseline/clauseline/model/Document" [("com/example/clauseline/clauseline/model/Document", "recent", "[Lcom/example/clauseline/clauseline/model/Line;", (.ref x1)), ("com/example/clauseline/clauseline/model/Document", "lines", "Ljava/util/List;", (.ref x2)), ("com/example/clauseline/clauseline/model/Document", "bytes", "[B", (.ref x3)), ("com/example/clauseline/clauseline/model/Document", "breaks", "[I", .null)], ar x1 (.object "com/example/clauseline/clauseline/model/Line") [.null, .null, .null, .null, .null, .null, .null, .null, .null, .null, .null, .null, .null, .null, .null, .null], ob x2 "com/example/clauseline/clauseline/model/Document$Lines" [("com/example/clauseline/clauseline/model/Document$Lines", "this$0", "Lcom/example/clauseline/clauseline/model/Document;", (.ref x0)), ("java/util/AbstractList", "modCount", "I", (.int (0 : Int32)))], ar x3 .byte [], ar x4 .int []]
abbrev mem11 (x0 : Addr) (x1 : Addr) (x2 : Addr) (x3 : Addr) (x4 : Addr) : Mem := [ob x0 "com/example/clauseline/clauseline/model/Document" [("com/example/clauseline/clauseline/model/Document", "recent", "[Lcom/example/clauseline/clauseline/model/Line;", (.ref x1)), ("com/example/clauseline/clauseline/model/Document", "lines", "Ljava/util/List;", (.ref x2)), ("com/example/clauseline/clauseline/model/Document", "bytes", "[B", (.ref x3)), ("com/example/clauseline/clauseline/model/Document", "breaks", "[I", (.ref x4))], ar x1 (.object "com/example/clauseline/clauseline/model/Line") [.null, .null, .null, .null, .null, .null, .null, .null, .null, .null, .null, .null, .null, .null, .null, .null], ob x2 "com/example/clauseline/clauseline/model/Document$Lines" [("com/example/clauseline/clauseline/model/Document$Lines", "this$0", "Lcom/example/clauseline/clauseline/model/Document;", (.ref x0)), ("java/util/AbstractList", "modCount", "I", (.int (0 : Int32)))], ar x3 .byte [], ar x4 .int []]
abbrev mem12 (x0 : Addr) (x1 : Addr) (x2 : Addr) (x3 : Addr) (x4 : Addr) : Mem := [ob x0 "com/example/clauseline/clauseline/model/Document" [("com/example/clauseline/clauseline/model/Document", "recent", "[Lcom/example/clauseline/clauseline/model/Line;", (.ref x1)), ("com/example/clauseline/clauseline/model/Document", "lines", "Ljava/util/List;", (.ref x2)), ("com/example/clauseline/clauseline/model/Document", "bytes", "[B", (.ref x3)), ("com/example/clauseline/clauseline/model/Document", "breaks", "[I", (.ref x4))], ar x1 (.object "com/example/clauseline/clauseline/model/Line") [.null, .null, .null, .null, .null, .null, .null, .null, .null, .null, .null, .null, .null, .null, .null, .null], ob x2 "com/example/clauseline/clauseline/model/Document$Lines" [("com/example/clauseline/clauseline/model/Document$Lines", "this$0", "Lcom/example/clauseline/clauseline/model/Document;", (.ref x0)), ("java/util/AbstractList", "modCount", "I", (.int (0 : Int32)))], ar x3 .byte [], ar x4 .int (bk0)]
abbrev mem13 (x0 : Addr) (x1 : Int32) (x2 : Addr) (x3 : List Value) (x4 : Addr) : Mem := [ar x0 .byte [(.int x1)], ar x2 .int x3, ob x4 "com/example/clauseline/clauseline/model/Document" [("com/example/clauseline/clauseline/model/Document", "recent", "[Lcom/example/clauseline/clauseline/model/Line;", .null), ("com/example/clauseline/clauseline/model/Document", "lines", "Ljava/util/List;", .null), ("com/example/clauseline/clauseline/model/Document", "bytes", "[B", .null), ("com/example/clauseline/clauseline/model/Document", "breaks", "[I", .null)]]
abbrev mem14 (x0 : Addr) (x1 : Int32) (x2 : Addr) (x3 : List Value) (x4 : Addr) (x5 : Addr) : Mem := [ar x0 .byte [(.int x1)], ar x2 .int x3, ob x4 "com/example/clauseline/clauseline/model/Document" [("com/example/clauseline/clauseline/model/Document", "recent", "[Lcom/example/clauseline/clauseline/model/Line;", .null), ("com/example/clauseline/clauseline/model/Document", "lines", "Ljava/util/List;", .null), ("com/example/clauseline/clauseline/model/Document", "bytes", "[B", .null), ("com/example/clauseline/clauseline/model/Document", "breaks", "[I", .null)], ar x5 (.object "com/example/clauseline/clauseline/model/Line") [.null, .null, .null, .null, .null, .null, .null, .null, .null, .null, .null, .null, .null, .null, .null, .null]]
abbrev mem15 (x0 : Addr) (x1 : Int32) (x2 : Addr) (x3 : List Value) (x4 : Addr) (x5 : Addr) : Mem := [ar x0 .byte [(.int x1)], ar x2 .int x3, ob x4 "com/example/clauseline/clauseline/model/Document" [("com/example/clauseline/clauseline/model/Document", "recent", "[Lcom/example/clauseline/clauseline/model/Line;", (.ref x5)), ("com/example/clauseline/clauseline/model/Document", "lines", "Ljava/util/List;", .null), ("com/example/clauseline/clauseline/model/Document", "bytes", "[B", .null), ("com/example/clauseline/clauseline/model/Document", "breaks", "[I", .null)], ar x5 (.object "com/example/clauseline/clauseline/model/Line") [.null, .null, .null, .null, .null, .null, .null, .null, .null, .null, .null, .null, .null, .null, .null, .null]]
abbrev mem16 (x0 : Addr) (x1 : Int32) (x2 : Addr) (x3 : List Value) (x4 : Addr) (x5 : Addr) (x6 : Addr) : Mem := [ar x0 .byte [(.int x1)], ar x2 .int x3, ob x4 "com/example/clauseline/clauseline/model/Document" [("com/example/clauseline/clauseline/model/Document", "recent", "[Lcom/example/clauseline/clauseline/model/Line;", (.ref x5)), ("com/example/clauseline/clauseline/model/Document", "lines", "Ljava/util/List;", .null), ("com/example/clauseline/clauseline/model/Document", "bytes", "[B", .null), ("com/example/clauseline/clauseline/model/Document", "breaks", "[I", .null)], ar x5 (.object "com/example/clauseline/clauseline/model/Line") [.null, .null, .null, .null, .null, .null, .null, .null, .null, .null, .null, .null, .null, .null, .null, .null], ob x6 "com/example/clauseline/clauseline/model/Document$Lines" [("com/example/clauseline/clauseline/model/Document$Lines", "this$0", "Lcom/example/clauseline/clauseline/model/Document;", .null), ("java/util/AbstractList", "modCount", "I", (.int (0 : Int32)))]]
abbrev mem17 (x0 : Addr) (x1 : Addr) (x2 : Addr) (x3 : Addr) (x4 : Int32) (x5 : Addr) (x6 : List Value) : Mem := [ob x0 "com/example/clauseline/clauseline/model/Document" [("com/example/clauseline/clauseline/model/Document", "recent", "[Lcom/example/clauseline/clauseline/model/Line;", (.ref x1)), ("com/example/clauseline/clauseline/model/Document", "lines", "Ljava/util/List;", .null), ("com/example/clauseline/clauseline/model/Document", "bytes", "[B", .null), ("com/example/clauseline/clauseline/model/Document", "breaks", "[I", .null)], ar x1 (.object "com/example/clauseline/clauseline/model/Line") [.null, .null, .null, .null, .null, .null, .null, .null, .null, .null, .null, .null, .null, .null, .null, .null], ob x2 "com/example/clauseline/clauseline/model/Document$Lines" [("com/example/clauseline/clauseline/model/Document$Lines", "this$0", "Lcom/example/clauseline/clauseline/model/Document;", .null), ("java/util/AbstractList", "modCount", "I", (.int (0 : Int32)))], ar x3 .byte [(.int x4)], ar x5 .int x6]
abbrev mem18 (x0 : Addr) (x1 : Addr) (x2 : Addr) (x3 : Addr) (x4 : Int32) (x5 : Addr) (x6 : List Value) : Mem := [ob x0 "com/example/clauseline/clauseline/model/Document" [("com/example/clauseline/clauseline/model/Document", "recent", "[Lcom/example/clauseline/clauseline/model/Line;", (.ref x1)), ("com/example/clauseline/clauseline/model/Document", "lines", "Ljava/util/List;", .null), ("com/example/clauseline/clauseline/model/Document", "bytes", "[B", .null), ("com/example/clauseline/clauseline/model/Document", "breaks", "[I", .null)], ar x1 (.object "com/example/clauseline/clauseline/model/Line") [.null, .null, .null, .null, .null, .null, .null, .null, .null, .null, .null, .null, .null, .null, .null, .null], ob x2 "com/example/clauseline/clauseline/model/Document$Lines" [("com/example/clauseline/clauseline/model/Document$Lines", "this$0", "Lcom/example/clauseline/clauseline/model/Document;", (.ref x0)), ("java/util/AbstractList", "modCount", "I", (.int (0 : Int32)))], ar x3 .byte [(.int x4)], ar x5 .int x6]
abbrev mem19 (x0 : Addr) (x1 : Addr) (x2 : Addr) (x3 : Addr) (x4 : Int32) (x5 : Addr) (x6 : List Value) : Mem := [ob x0 "com/example/clauseline/clauseline/model/Document" [("com/example/clauseline/clauseline/model/Document", "recent", "[Lcom/example/clauseline/clauseline/model/Line;", (.ref x1)), ("com/example/clauseline/clauseline/model/Document", "lines", "Ljava/util/List;", (.ref x2)), ("com/example/clauseline/clauseline/model/Document", "bytes", "[B", .null), ("com/example/clauseline/clauseline/model/Document", "breaks", "[I", .null)], ar x1 (.object "com/example/clauseline/clauseline/model/Line") [.null, .null, .null, .null, .null, .null, .null, .null, .null, .null, .null, .null, .null, .null, .null, .null], ob x2 "com/example/clauseline/clauseline/model/Document$Lines" [("com/example/clauseline/clauseline/model/Document$Lines", "this$0", "Lcom/example/clauseline/clauseline/model/Document;", (.ref x0)), ("java/util/AbstractList", "modCount", "I", (.int (0 : Int32)))], ar x3 .byte [(.int x4)], ar x5 .int x6]
abbrev mem20 (x0 : Addr) (x1 : Addr) (x2 : Addr) (x3 : Addr) (x4 : Int32) (x5 : Addr) (x6 : List Value) : Mem := [ob x0 "com/example/clauseline/clauseline/model/Document" [("com/example/clauseline/clauseline/model/Document", "recent", "[Lcom/example/clauseline/clauseline/model/Line;", (.ref x1)), ("com/example/clauseline/clauseline/model/Document", "lines", "Ljava/util/List;", (.ref x2)), ("com/example/clauseline/clauseline/model/Document", "bytes", "[B", (.ref x3)), ("com/example/clauseline/clauseline/model/Document", "breaks", "[I", .null)], ar x1 (.object "com/example/clauseline/clauseline/model/Line") [.null, .null, .null, .null, .null, .null, .null, .null, .null, .null, .null, .null, .null, .null, .null, .null], ob x2 "com/example/clauseline/clauseline/model/Document$Lines" [("com/example/clauseline/clauseline/model/Document$Lines", "this$0", "Lcom/example/clauseline/clauseline/model/Document;", (.ref x0)), ("java/util/AbstractList", "modCount", "I", (.int (0 : Int32)))], ar x3 .byte [(.int x4)], ar x5 .int x6]
abbrev mem21 (x0 : Addr) (x1 : Addr) (x2 : Addr) (x3 : Addr) (x4 : Addr) (x5 : Int32) (x6 : List Value) : Mem := [ob x0 "com/example/clauseline/clauseline/model/Document" [("com/example/clauseline/clauseline/model/Document", "recent", "[Lcom/example/clauseline/clauseline/model/Line;", (.ref x1)), ("com/example/clauseline/clauseline/model/Document", "lines", "Ljava/util/List;", (.ref x2)), ("com/example/clauseline/clauseline/model/Document", "bytes", "[B", (.ref x3)), ("com/example/clauseline/clauseline/model/Document", "breaks", "[I", (.ref x4))], ar x1 (.object "com/example/clauseline/clauseline/model/Line") [.null, .null, .null, .null, .null, .null, .null, .null, .null, .null, .null, .null, .null, .null, .null, .null], ob x2 "com/example/clauseline/clauseline/model/Document$Lines" [("com/example/clauseline/clauseline/model/Document$Lines", "this$0", "Lcom/example/clauseline/clauseline/model/Document;", (.ref x0)), ("java/util/AbstractList", "modCount", "I", (.int (0 : Int32)))], ar x3 .byte [(.int x5)], ar x4 .int x6]
abbrev mem22 (x0 : Addr) (x1 : Addr) (x2 : Addr) (x3 : Addr) (x4 : Addr) (x5 : Int32) : Mem := [ob x0 "com/example/clauseline/clauseline/model/Document" [("com/example/clauseline/clauseline/model/Document", "recent", "[Lcom/example/clauseline/clauseline/model/Line;", (.ref x1)), ("com/example/clauseline/clauseline/model/Document", "lines", "Ljava/util/List;", (.ref x2)), ("com/example/clauseline/clauseline/model/Document", "bytes", "[B", (.ref x3)), ("com/example/clauseline/clauseline/model/Document", "breaks", "[I", (.ref x4))], ar x1 (.object "com/example/clauseline/clauseline/model/Line") [.null, .null, .null, .null, .null, .null, .null, .null, .null, .null, .null, .null, .null, .null, .null, .null], ob x2 "com/example/clauseline/clauseline/model/Document$Lines" [("com/example/clauseline/clauseline/model/Document$Lines", "this$0", "Lcom/example/clauseline/clauseline/model/Document;", (.ref x0)), ("java/util/AbstractList", "modCount", "I", (.int (0 : Int32)))], ar x3 .byte [(.int x5)], ar x4 .int (bk1 x5)]
abbrev mem23 (x0 : Addr) (x1 : Int32) (x2 : Int32) (x3 : Addr) (x4 : List Value) (x5 : Addr) : Mem := [ar x0 .byte [(.int x1), (.int x2)], ar x3 .int x4, ob x5 "com/example/clauseline/clauseline/model/Document" [("com/example/clauseline/clauseline/model/Document", "recent", "[Lcom/example/clauseline/clauseline/model/Line;", .null), ("com/example/clauseline/clauseline/model/Document", "lines", "Ljava/util/List;", .null), ("com/example/clauseline/clauseline/model/Document", "bytes", "[B", .null), ("com/example/clauseline/clauseline/model/Document", "breaks", "[I", .null)]]
abbrev mem24 (x0 : Addr) (x1 : Int32) (x2 : Int32) (x3 : Addr) (x4 : List Value) (x5 : Addr) (x6 : Addr) : Mem := [ar x0 .byte [(.int x1), (.int x2)], ar x3 .int x4, ob x5 "com/example/clauseline/clauseline/model/Document" [("com/example/clauseline/clauseline/model/Document", "recent", "[Lcom/example/clauseline/clauseline/model/Line;", .null), ("com/example/clauseline/clauseline/model/Document", "lines", "Ljava/util/List;", .null), ("com/example/clauseline/clauseline/model/Document", "bytes", "[B", .null), ("com/example/clauseline/clauseline/model/Document", "breaks", "[I", .null)], ar x6 (.object "com/example/clauseline/clauseline/model/Line") [.null, .null, .null, .null, .null, .null, .null, .null, .null, .null, .null, .null, .null, .null, .null, .null]]
abbrev mem25 (x0 : Addr) (x1 : Int32) (x2 : Int32) (x3 : Addr) (x4 : List Value) (x5 : Addr) (x6 : Addr) : Mem := [ar x0 .byte [(.int x1), (.int x2)], ar x3 .int x4, ob x5 "com/example/clauseline/clauseline/model/Document" [("com/example/clauseline/clauseline/model/Document", "recent", "[Lcom/example/clauseline/clauseline/model/Line;", (.ref x6)), ("com/example/clauseline/clauseline/model/Document", "lines", "Ljava/util/List;", .null), ("com/example/clauseline/clauseline/model/Document", "bytes", "[B", .null), ("com/example/clauseline/clauseline/model/Document", "breaks", "[I", .null)], ar x6 (.object "com/example/clauseline/clauseline/model/Line") [.null, .null, .null, .null, .null, .null, .null, .null, .null, .null, .null, .null, .null, .null, .null, .null]]
abbrev mem26 (x0 : Addr) (x1 : Int32) (x2 : Int32) (x3 : Addr) (x4 : List Value) (x5 : Addr) (x6 : Addr) (x7 : Addr) : Mem := [ar x0 .byte [(.int x1), (.int x2)], ar x3 .int x4, ob x5 "com/example/clauseline/clauseline/model/Document" [("com/example/clauseline/clauseline/model/Document", "recent", "[Lcom/example/clauseline/clauseline/model/Line;", (.ref x6)), ("com/example/clauseline/clauseline/model/Document", "lines", "Ljava/util/List;", .null), ("com/example/clauseline/clauseline/model/Document", "bytes", "[B", .null), ("com/example/clauseline/clauseline/model/Document", "breaks", "[I", .null)], ar x6 (.object "com/example/clauseline/clauseline/model/Line") [.null, .null, .null, .null, .null, .null, .null, .null, .null, .null, .null, .null, .null, .null, .null, .null], ob x7 "com/example/clauseline/clauseline/model/Document$Lines" [("com/example/clauseline/clauseline/model/Document$Lines", "this$0", "Lcom/example/clauseline/clauseline/model/Document;", .null), ("java/util/AbstractList", "modCount", "I", (.int (0 : Int32)))]]
abbrev mem27 (x0 : Addr) (x1 : Addr) (x2 : Addr) (x3 : Addr) (x4 : Int32) (x5 : Int32) (x6 : Addr) (x7 : List Value) : Mem := [ob x0 "com/example/clauseline/clauseline/model/Document" [("com/example/clauseline/clauseline/model/Document", "recent", "[Lcom/example/clauseline/clauseline/model/Line;", (.ref x1)), ("com/example/clauseline/clauseline/model/Document", "lines", "Ljava/util/List;", .null), ("com/example/clauseline/clauseline/model/Document", "bytes", "[B", .null), ("com/example/clauseline/clauseline/model/Document", "breaks", "[I", .null)], ar x1 (.object "com/example/clauseline/clauseline/model/Line") [.null, .null, .null, .null, .null, .null, .null, .null, .null, .null, .null, .null, .null, .null, .null, .null], ob x2 "com/example/clauseline/clauseline/model/Document$Lines" [("com/example/clauseline/clauseline/model/Document$Lines", "this$0", "Lcom/example/clauseline/clauseline/model/Document;", .null), ("java/util/AbstractList", "modCount", "I", (.int (0 : Int32)))], ar x3 .byte [(.int x4), (.int x5)], ar x6 .int x7]
abbrev mem28 (x0 : Addr) (x1 : Addr) (x2 : Addr) (x3 : Addr) (x4 : Int32) (x5 : Int32) (x6 : Addr) (x7 : List Value) : Mem := [ob x0 "com/example/clauseline/clauseline/model/Document" [("com/example/clauseline/clauseline/model/Document", "recent", "[Lcom/example/clauseline/clauseline/model/Line;", (.ref x1)), ("com/example/clauseline/clauseline/model/Document", "lines", "Ljava/util/List;", .null), ("com/example/clauseline/clauseline/model/Document", "bytes", "[B", .null), ("com/example/clauseline/clauseline/model/Document", "breaks", "[I", .null)], ar x1 (.object "com/example/clauseline/clauseline/model/Line") [.null, .null, .null, .null, .null, .null, .null, .null, .null, .null, .null, .null, .null, .null, .null, .null], ob x2 "com/example/clauseline/clauseline/model/Document$Lines" [("com/example/clauseline/clauseline/model/Document$Lines", "this$0", "Lcom/example/clauseline/clauseline/model/Document;", (.ref x0)), ("java/util/AbstractList", "modCount", "I", (.int (0 : Int32)))], ar x3 .byte [(.int x4), (.int x5)], ar x6 .int x7]
abbrev mem29 (x0 : Addr) (x1 : Addr) (x2 : Addr) (x3 : Addr) (x4 : Int32) (x5 : Int32) (x6 : Addr) (x7 : List Value) : Mem := [ob x0 "com/example/clauseline/clauseline/model/Document" [("com/example/clauseline/clauseline/model/Document", "recent", "[Lcom/example/clauseline/clauseline/model/Line;", (.ref x1)), ("com/example/clauseline/clauseline/model/Document", "lines", "Ljava/util/List;", (.ref x2)), ("com/example/clauseline/clauseline/model/Document", "bytes", "[B", .null), ("com/example/clauseline/clauseline/model/Document", "breaks", "[I", .null)], ar x1 (.object "com/example/clauseline/clauseline/model/Line") [.null, .null, .null, .null, .null, .null, .null, .null, .null, .null, .null, .null, .null, .null, .null, .null], ob x2 "com/example/clauseline/clauseline/model/Document$Lines" [("com/example/clauseline/clauseline/model/Document$Lines", "this$0", "Lcom/example/clauseline/clauseline/model/Document;", (.ref x0)), ("java/util/AbstractList", "modCount", "I", (.int (0 : Int32)))], ar x3 .byte [(.int x4), (.int x5)], ar x6 .int x7]
abbrev mem30 (x0 : Addr) (x1 : Addr) (x2 : Addr) (x3 : Addr) (x4 : Int32) (x5 : Int32) (x6 : Addr) (x7 : List Value) : Mem := [ob x0 "com/example/clauseline/clauseline/model/Document" [("com/example/clauseline/clauseline/model/Document", "recent", "[Lcom/example/clauseline/clauseline/model/Line;", (.ref x1)), ("com/example/clauseline/clauseline/model/Document", "lines", "Ljava/util/List;", (.ref x2)), ("com/example/clauseline/clauseline/model/Document", "bytes", "[B", (.ref x3)), ("com/example/clauseline/clauseline/model/Document", "breaks", "[I", .null)], ar x1 (.object "com/example/clauseline/clauseline/model/Line") [.null, .null, .null, .null, .null, .null, .null, .null, .null, .null, .null, .null, .null, .null, .null, .null], ob x2 "com/example/clauseline/clauseline/model/Document$Lines" [("com/example/clauseline/clauseline/model/Document$Lines", "this$0", "Lcom/example/clauseline/clauseline/model/Document;", (.ref x0)), ("java/util/AbstractList", "modCount", "I", (.int (0 : Int32)))], ar x3 .byte [(.int x4), (.int x5)], ar x6 .int x7]
abbrev mem31 (x0 : Addr) (x1 : Addr) (x2 : Addr) (x3 : Addr) (x4 : Addr) (x5 : Int32) (x6 : Int32) (x7 : List Value) : Mem := [ob x0 "com/example/clauseline/clauseline/model/Document" [("com/example/clauseline/clauseline/model/Document", "recent", "[Lcom/example/clauseline/clauseline/model/Line;", (.ref x1)), ("com/example/clauseline/clauseline/model/Document", "lines", "Ljava/util/List;", (.ref x2)), ("com/example/clauseline/clauseline/model/Document", "bytes", "[B", (.ref x3)), ("com/example/clauseline/clauseline/model/Document", "breaks", "[I", (.ref x4))], ar x1 (.object "com/example/clauseline/clauseline/model/Line") [.null, .null, .null, .null, .null, .null, .null, .null, .null, .null, .null, .null, .null, .null, .null, .null], ob x2 "com/example/clauseline/clauseline/model/Document$Lines" [("com/example/clauseline/clauseline/model/Document$Lines", "this$0", "Lcom/example/clauseline/clauseline/model/Document;", (.ref x0)), ("java/util/AbstractList", "modCount", "I", (.int (0 : Int32)))], ar x3 .byte [(.int x5), (.int x6)], ar x4 .int x7]
abbrev mem32 (x0 : Addr) (x1 : Addr) (x2 : Addr) (x3 : Addr) (x4 : Addr) (x5 : Int32) (x6 : Int32) : Mem := [ob x0 "com/example/clauseline/clauseline/model/Document" [("com/example/clauseline/clauseline/model/Document", "recent", "[Lcom/example/clauseline/clauseline/model/Line;", (.ref x1)), ("com/example/clauseline/clauseline/model/Document", "lines", "Ljava/util/List;", (.ref x2)), ("com/example/clauseline/clauseline/model/Document", "bytes", "[B", (.ref x3)), ("com/example/clauseline/clauseline/model/Document", "breaks", "[I", (.ref x4))], ar x1 (.object "com/example/clauseline/clauseline/model/Line") [.null, .null, .null, .null, .null, .null, .null, .null, .null, .null, .null, .null, .null, .null, .null, .null], ob x2 "com/example/clauseline/clauseline/model/Document$Lines" [("com/example/clauseline/clauseline/model/Document$Lines", "this$0", "Lcom/example/clauseline/clauseline/model/Document;", (.ref x0)), ("java/util/AbstractList", "modCount", "I", (.int (0 : Int32)))], ar x3 .byte [(.int x5), (.int x6)], ar x4 .int (bk2 x5 x6)]
abbrev mem33 (x0 : Addr) (x1 : Int32) (x2 : Int32) (x3 : Int32) (x4 : Addr) (x5 : List Value) (x6 : Addr) : Mem := [ar x0 .byte [(.int x1), (.int x2), (.int x3)], ar x4 .int x5, ob x6 "com/example/clauseline/clauseline/model/Document" [("com/example/clauseline/clauseline/model/Document", "recent", "[Lcom/example/clauseline/clauseline/model/Line;", .null), ("com/example/clauseline/clauseline/model/Document", "lines", "Ljava/util/List;", .null), ("com/example/clauseline/clauseline/model/Document", "bytes", "[B", .null), ("com/example/clauseline/clauseline/model/Document", "breaks", "[I", .null)]]
abbrev mem34 (x0 : Addr) (x1 : Int32) (x2 : Int32) (x3 : Int32) (x4 : Addr) (x5 : List Value) (x6 : Addr) (x7 : Addr) : Mem := [ar x0 .byte [(.int x1), (.int x2), (.int x3)], ar x4 .int x5, ob x6 "com/example/clauseline/clauseline/model/Document" [("com/example/clauseline/clauseline/model/Document", "recent", "[Lcom/example/clauseline/clauseline/model/Line;", .null), ("com/example/clauseline/clauseline/model/Document", "lines", "Ljava/util/List;", .null), ("com/example/clauseline/clauseline/model/Document", "bytes", "[B", .null), ("com/example/clauseline/clauseline/model/Document", "breaks", "[I", .null)], ar x7 (.object "com/example/clauseline/clauseline/model/Line") [.null, .null, .null, .null, .null, .null, .null, .null, .null, .null, .null, .null, .null, .null, .null, .null]]
abbrev mem35 (x0 : Addr) (x1 : Int32) (x2 : Int32) (x3 : Int32) (x4 : Addr) (x5 : List Value) (x6 : Addr) (x7 : Addr) : Mem := [ar x0 .byte [(.int x1), (.int x2), (.int x3)], ar x4 .int x5, ob x6 "com/example/clauseline/clauseline/model/Document" [("com/example/clauseline/clauseline/model/Document", "recent", "[Lcom/example/clauseline/clauseline/model/Line;", (.ref x7)), ("com/example/clauseline/clauseline/model/Document", "lines", "Ljava/util/List;", .null), ("com/example/clauseline/clauseline/model/Document", "bytes", "[B", .null), ("com/example/clauseline/clauseline/model/Document", "breaks", "[I", .null)], ar x7 (.object "com/example/clauseline/clauseline/model/Line") [.null, .null, .null, .null, .null, .null, .null, .null, .null, .null, .null, .null, .null, .null, .null, .null]]
abbrev mem36 (x0 : Addr) (x1 : Int32) (x2 : Int32) (x3 : Int32) (x4 : Addr) (x5 : List Value) (x6 : Addr) (x7 : Addr) (x8 : Addr) : Mem := [ar x0 .byte [(.int x1), (.int x2), (.int x3)], ar x4 .int x5, ob x6 "com/example/clauseline/clauseline/model/Document" [("com/example/clauseline/clauseline/model/Document", "recent", "[Lcom/example/clauseline/clauseline/model/Line;", (.ref x7)), ("com/example/clauseline/clauseline/model/Document", "lines", "Ljava/util/List;", .null), ("com/example/clauseline/clauseline/model/Document", "bytes", "[B", .null), ("com/example/clauseline/clauseline/model/Document", "breaks", "[I", .null)], ar x7 (.object "com/example/clauseline/clauseline/model/Line") [.null, .null, .null, .null, .null, .null, .null, .null, .null, .null, .null, .null, .null, .null, .null, .null], ob x8 "com/example/clauseline/clauseline/model/Document$Lines" [("com/example/clauseline/clauseline/model/Document$Lines", "this$0", "Lcom/example/clauseline/clauseline/model/Document;", .null), ("java/util/AbstractList", "modCount", "I", (.int (0 : Int32)))]]
abbrev mem37 (x0 : Addr) (x1 : Addr) (x2 : Addr) (x3 : Addr) (x4 : Int32) (x5 : Int32) (x6 : Int32) (x7 : Addr) (x8 : List Value) : Mem := [ob x0 "com/example/clauseline/clauseline/model/Document" [("com/example/clauseline/clauseline/model/Document", "recent", "[Lcom/example/clauseline/clauseline/model/Line;", (.ref x1)), ("com/example/clauseline/clauseline/model/Document", "lines", "Ljava/util/List;", .null), ("com/example/clauseline/clauseline/model/Document", "bytes", "[B", .null), ("com/example/clauseline/clauseline/model/Document", "breaks", "[I", .null)], ar x1 (.object "com/example/clauseline/clauseline/model/Line") [.null, .null, .null, .null, .null, .null, .null, .null, .null, .null, .null, .null, .null, .null, .null, .null], ob x2 "com/example/clauseline/clauseline/model/Document$Lines" [("com/example/clauseline/clauseline/model/Document$Lines", "this$0", "Lcom/example/clauseline/clauseline/model/Document;", .null), ("java/util/AbstractList", "modCount", "I", (.int (0 : Int32)))], ar x3 .byte [(.int x4), (.int x5), (.int x6)], ar x7 .int x8]
abbrev mem38 (x0 : Addr) (x1 : Addr) (x2 : Addr) (x3 : Addr) (x4 : Int32) (x5 : Int32) (x6 : Int32) (x7 : Addr) (x8 : List Value) : Mem := [ob x0 "com/example/clauseline/clauseline/model/Document" [("com/example/clauseline/clauseline/model/Document", "recent", "[Lcom/example/clauseline/clauseline/model/Line;", (.ref x1)), ("com/example/clauseline/clauseline/model/Document", "lines", "Ljava/util/List;", .null), ("com/example/clauseline/clauseline/model/Document", "bytes", "[B", .null), ("com/example/clauseline/clauseline/model/Document", "breaks", "[I", .null)], ar x1 (.object "com/example/clauseline/clauseline/model/Line") [.null, .null, .null, .null, .null, .null, .null, .null, .null, .null, .null, .null, .null, .null, .null, .null], ob x2 "com/example/clauseline/clauseline/model/Document$Lines" [("com/example/clauseline/clauseline/model/Document$Lines", "this$0", "Lcom/example/clauseline/clauseline/model/Document;", (.ref x0)), ("java/util/AbstractList", "modCount", "I", (.int (0 : Int32)))], ar x3 .byte [(.int x4), (.int x5), (.int x6)], ar x7 .int x8]
abbrev mem39 (x0 : Addr) (x1 : Addr) (x2 : Addr) (x3 : Addr) (x4 : Int32) (x5 : Int32) (x6 : Int32) (x7 : Addr) (x8 : List Value) : Mem := [ob x0 "com/example/clauseline/clauseline/model/Document" [("com/example/clauseline/clauseline/model/Document", "recent", "[Lcom/example/clauseline/clauseline/model/Line;", (.ref x1)), ("com/example/clauseline/clauseline/model/Document", "lines", "Ljava/util/List;", (.ref x2)), ("com/example/clauseline/clauseline/model/Document", "bytes", "[B", .null), ("com/example/clauseline/clauseline/model/Document", "breaks", "[I", .null)], ar x1 (.object "com/example/clauseline/clauseline/model/Line") [.null, .null, .null, .null, .null, .null, .null, .null, .null, .null, .null, .null, .null, .null, .null, .null], ob x2 "com/example/clauseline/clauseline/model/Document$Lines" [("com/example/clauseline/clauseline/model/Document$Lines", "this$0", "Lcom/example/clauseline/clauseline/model/Document;", (.ref x0)), ("java/util/AbstractList", "modCount", "I", (.int (0 : Int32)))], ar x3 .byte [(.int x4), (.int x5), (.int x6)], ar x7 .int x8]
abbrev mem40 (x0 : Addr) (x1 : Addr) (x2 : Addr) (x3 : Addr) (x4 : Int32) (x5 : Int32) (x6 : Int32) (x7 : Addr) (x8 : List Value) : Mem := [ob x0 "com/example/clauseline/clauseline/model/Document" [("com/example/clauseline/clauseline/model/Document", "recent", "[Lcom/example/clauseline/clauseline/model/Line;", (.ref x1)), ("com/example/clauseline/clauseline/model/Document", "lines", "Ljava/util/List;", (.ref x2)), ("com/example/clauseline/clauseline/model/Document", "bytes", "[B", (.ref x3)), ("com/example/clauseline/clauseline/model/Document", "breaks", "[I", .null)], ar x1 (.object "com/example/clauseline/clauseline/model/Line") [.null, .null, .null, .null, .null, .null, .null, .null, .null, .null, .null, .null, .null, .null, .null, .null], ob x2 "com/example/clauseline/clauseline/model/Document$Lines" [("com/example/clauseline/clauseline/model/Document$Lines", "this$0", "Lcom/example/clauseline/clauseline/model/Document;", (.ref x0)), ("java/util/AbstractList", "modCount", "I", (.int (0 : Int32)))], ar x3 .byte [(.int x4), (.int x5), (.int x6)], ar x7 .int x8]
abbrev mem41 (x0 : Addr) (x1 : Addr) (x2 : Addr) (x3 : Addr) (x4 : Addr) (x5 : Int32) (x6 : Int32) (x7 : Int32) (x8 : List Value) : Mem := [ob x0 "com/example/clauseline/clauseline/model/Document" [("com/example/clauseline/clauseline/model/Document", "recent", "[Lcom/example/clauseline/clauseline/model/Line;", (.ref x1)), ("com/example/clauseline/clauseline/model/Document", "lines", "Ljava/util/List;", (.ref x2)), ("com/example/clauseline/clauseline/model/Document", "bytes", "[B", (.ref x3)), ("com/example/clauseline/clauseline/model/Document", "breaks", "[I", (.ref x4))], ar x1 (.object "com/example/clauseline/clauseline/model/Line") [.null, .null, .null, .null, .null, .null, .null, .null, .null, .null, .null, .null, .null, .null, .null, .null], ob x2 "com/example/clauseline/clauseline/model/Document$Lines" [("com/example/clauseline/clauseline/model/Document$Lines", "this$0", "Lcom/example/clauseline/clauseline/model/Document;", (.ref x0)), ("java/util/AbstractList", "modCount", "I", (.int (0 : Int32)))], ar x3 .byte [(.int x5), (.int x6), (.int x7)], ar x4 .int x8]
abbrev mem42 (x0 : Addr) (x1 : Addr) (x2 : Addr) (x3 : Addr) (x4 : Addr) (x5 : Int32) (x6 : Int32) (x7 : Int32) : Mem := [ob x0 "com/example/clauseline/clauseline/model/Document" [("com/example/clauseline/clauseline/model/Document", "recent", "[Lcom/example/clauseline/clauseline/model/Line;", (.ref x1)), ("com/example/clauseline/clauseline/model/Document", "lines", "Ljava/util/List;", (.ref x2)), ("com/example/clauseline/clauseline/model/Document", "bytes", "[B", (.ref x3)), ("com/example/clauseline/clauseline/model/Document", "breaks", "[I", (.ref x4))], ar x1 (.object "com/example/clauseline/clauseline/model/Line") [.null, .null, .null, .null, .null, .null, .null, .null, .null, .null, .null, .null, .null, .null, .null, .null], ob x2 "com/example/clauseline/clauseline/model/Document$Lines" [("com/example/clauseline/clauseline/model/Document$Lines", "this$0", "Lcom/example/clauseline/clauseline/model/Document;", (.ref x0)), ("java/util/AbstractList", "modCount", "I", (.int (0 : Int32)))], ar x3 .byte [(.int x5), (.int x6), (.int x7)], ar x4 .int (bk3 x5 x6 x7)]
abbrev mem43 (x0 : Addr) (x1 : Int32) (x2 : Int32) (x3 : Int32) (x4 : Int32) (x5 : Addr) (x6 : List Value) (x7 : Addr) : Mem := [ar x0 .byte [(.int x1), (.int x2), (.int x3), (.int x4)], ar x5 .int x6, ob x7 "com/example/clauseline/clauseline/model/Document" [("com/example/clauseline/clauseline/model/Document", "recent", "[Lcom/example/clauseline/clauseline/model/Line;", .null), ("com/example/clauseline/clauseline/model/Document", "lines", "Ljava/util/List;", .null), ("com/example/clauseline/clauseline/model/Document", "bytes", "[B", .null), ("com/example/clauseline/clauseline/model/Document", "breaks", "[I", .null)]]
abbrev mem44 (x0 : Addr) (x1 : Int32) (x2 : Int32) (x3 : Int32) (x4 : Int32) (x5 : Addr) (x6 : List Value) (x7 : Addr) (x8 : Addr) : Mem := [ar x0 .byte [(.int x1), (.int x2), (.int x3), (.int x4)], ar x5 .int x6, ob x7 "com/example/clauseline/clauseline/model/Document" [("com/example/clauseline/clauseline/model/Document", "recent", "[Lcom/example/clauseline/clauseline/model/Line;", .null), ("com/example/clauseline/clauseline/model/Document", "lines", "Ljava/util/List;", .null), ("com/example/clauseline/clauseline/model/Document", "bytes", "[B", .null), ("com/example/clauseline/clauseline/model/Document", "breaks", "[I", .null)], ar x8 (.object "com/example/clauseline/clauseline/model/Line") [.null, .null, .null, .null, .null, .null, .null, .null, .null, .null, .null, .null, .null, .null, .null, .null]]
abbrev mem45 (x0 : Addr) (x1 : Int32) (x2 : Int32) (x3 : Int32) (x4 : Int32) (x5 : Addr) (x6 : List Value) (x7 : Addr) (x8 : Addr) : Mem := [ar x0 .byte [(.int x1), (.int x2), (.int x3), (.int x4)], ar x5 .int x6, ob x7 "com/example/clauseline/clauseline/model/Document" [("com/example/clauseline/clauseline/model/Document", "recent", "[Lcom/example/clauseline/clauseline/model/Line;", (.ref x8)), ("com/example/clauseline/clauseline/model/Document", "lines", "Ljava/util/List;", .null), ("com/example/clauseline/clauseline/model/Document", "bytes", "[B", .null), ("com/example/clauseline/clauseline/model/Document", "breaks", "[I", .null)], ar x8 (.object "com/example/clauseline/clauseline/model/Line") [.null, .null, .null, .null, .null, .null, .null, .null, .null, .null, .null, .null, .null, .null, .null, .null]]
abbrev mem46 (x0 : Addr) (x1 : Int32) (x2 : Int32) (x3 : Int32) (x4 : Int32) (x5 : Addr) (x6 : List Value) (x7 : Addr) (x8 : Addr) (x9 : Addr) : Mem := [ar x0 .byte [(.int x1), (.int x2), (.int x3), (.int x4)], ar x5 .int x6, ob x7 "com/example/clauseline/clauseline/model/Document" [("com/example/clauseline/clauseline/model/Document", "recent", "[Lcom/example/clauseline/clauseline/model/Line;", (.ref x8)), ("com/example/clauseline/clauseline/model/Document", "lines", "Ljava/util/List;", .null), ("com/example/clauseline/clauseline/model/Document", "bytes", "[B", .null), ("com/example/clauseline/clauseline/model/Document", "breaks", "[I", .null)], ar x8 (.object "com/example/clauseline/clauseline/model/Line") [.null, .null, .null, .null, .null, .null, .null, .null, .null, .null, .null, .null, .null, .null, .null, .null], ob x9 "com/example/clauseline/clauseline/model/Document$Lines" [("com/example/clauseline/clauseline/model/Document$Lines", "this$0", "Lcom/example/clauseline/clauseline/model/Document;", .null), ("java/util/AbstractList", "modCount", "I", (.int (0 : Int32)))]]
abbrev mem47 (x0 : Addr) (x1 : Addr) (x2 : Addr) (x3 : Addr) (x4 : Int32) (x5 : Int32) (x6 : Int32) (x7 : Int32) (x8 : Addr) (x9 : List Value) : Mem := [ob x0 "com/example/clauseline/clauseline/model/Document" [("com/example/clauseline/clauseline/model/Document", "recent", "[Lcom/example/clauseline/clauseline/model/Line;", (.ref x1)), ("com/example/clauseline/clauseline/model/Document", "lines", "Ljava/util/List;", .null), ("com/example/clauseline/clauseline/model/Document", "bytes", "[B", .null), ("com/example/clauseline/clauseline/model/Document", "breaks", "[I", .null)], ar x1 (.object "com/example/clauseline/clauseline/model/Line") [.null, .null, .null, .null, .null, .null, .null, .null, .null, .null, .null, .null, .null, .null, .null, .null], ob x2 "com/example/clauseline/clauseline/model/Document$Lines" [("com/example/clauseline/clauseline/model/Document$Lines", "this$0", "Lcom/example/clauseline/clauseline/model/Document;", .null), ("java/util/AbstractList", "modCount", "I", (.int (0 : Int32)))], ar x3 .byte [(.int x4), (.int x5), (.int x6), (.int x7)], ar x8 .int x9]
abbrev mem48 (x0 : Addr) (x1 : Addr) (x2 : Addr) (x3 : Addr) (x4 : Int32) (x5 : Int32) (x6 : Int32) (x7 : Int32) (x8 : Addr) (x9 : List Value) : Mem := [ob x0 "com/example/clauseline/clauseline/model/Document" [("com/example/clauseline/clauseline/model/Document", "recent", "[Lcom/example/clauseline/clauseline/model/Line;", (.ref x1)), ("com/example/clauseline/clauseline/model/Document", "lines", "Ljava/util/List;", .null), ("com/example/clauseline/clauseline/model/Document", "bytes", "[B", .null), ("com/example/clauseline/clauseline/model/Document", "breaks", "[I", .null)], ar x1 (.object "com/example/clauseline/clauseline/model/Line") [.null, .null, .null, .null, .null, .null, .null, .null, .null, .null, .null, .null, .null, .null, .null, .null], ob x2 "com/example/clauseline/clauseline/model/Document$Lines" [("com/example/clauseline/clauseline/model/Document$Lines", "this$0", "Lcom/example/clauseline/clauseline/model/Document;", (.ref x0)), ("java/util/AbstractList", "modCount", "I", (.int (0 : Int32)))], ar x3 .byte [(.int x4), (.int x5), (.int x6), (.int x7)], ar x8 .int x9]
abbrev mem49 (x0 : Addr) (x1 : Addr) (x2 : Addr) (x3 : Addr) (x4 : Int32) (x5 : Int32) (x6 : Int32) (x7 : Int32) (x8 : Addr) (x9 : List Value) : Mem := [ob x0 "com/example/clauseline/clauseline/model/Document" [("com/example/clauseline/clauseline/model/Document", "recent", "[Lcom/example/clauseline/clauseline/model/Line;", (.ref x1)), ("com/example/clauseline/clauseline/model/Document", "lines", "Ljava/util/List;", (.ref x2)), ("com/example/clauseline/clauseline/model/Document", "bytes", "[B", .null), ("com/example/clauseline/clauseline/model/Document", "breaks", "[I", .null)], ar x1 (.object "com/example/clauseline/clauseline/model/Line") [.null, .null, .null, .null, .null, .null, .null, .null, .null, .null, .null, .null, .null, .null, .null, .null], ob x2 "com/example/clauseline/clauseline/model/Document$Lines" [("com/example/clauseline/clauseline/model/Document$Lines", "this$0", "Lcom/example/clauseline/clauseline/model/Document;", (.ref x0)), ("java/util/AbstractList", "modCount", "I", (.int (0 : Int32)))], ar x3 .byte [(.int x4), (.int x5), (.int x6), (.int x7)], ar x8 .int x9]
abbrev mem50 (x0 : Addr) (x1 : Addr) (x2 : Addr) (x3 : Addr) (x4 : Int32) (x5 : Int32) (x6 : Int32) (x7 : Int32) (x8 : Addr) (x9 : List Value) : Mem := [ob x0 "com/example/clauseline/clauseline/model/Document" [("com/example/clauseline/clauseline/model/Document", "recent", "[Lcom/example/clauseline/clauseline/model/Line;", (.ref x1)), ("com/example/clauseline/clauseline/model/Document", "lines", "Ljava/util/List;", (.ref x2)), ("com/example/clauseline/clauseline/model/Document", "bytes", "[B", (.ref x3)), ("com/example/clauseline/clauseline/model/Document", "breaks", "[I", .null)], ar x1 (.object "com/example/clauseline/clauseline/model/Line") [.null, .null, .null, .null, .null, .null, .null, .null, .null, .null, .null, .null, .null, .null, .null, .null], ob x2 "com/example/clauseline/clauseline/model/Document$Lines" [("com/example/clauseline/clauseline/model/Document$Lines", "this$0", "Lcom/example/clauseline/clauseline/model/Document;", (.ref x0)), ("java/util/AbstractList", "modCount", "I", (.int (0 : Int32)))], ar x3 .byte [(.int x4), (.int x5), (.int x6), (.int x7)], ar x8 .int x9]
abbrev mem51 (x0 : Addr) (x1 : Addr) (x2 : Addr) (x3 : Addr) (x4 : Addr) (x5 : Int32) (x6 : Int32) (x7 : Int32) (x8 : Int32) (x9 : List Value) : Mem := [ob x0 "com/example/clauseline/clauseline/model/Document" [("com/example/clauseline/clauseline/model/Document", "recent", "[Lcom/example/clauseline/clauseline/model/Line;", (.ref x1)), ("com/example/clauseline/clauseline/model/Document", "lines", "Ljava/util/List;", (.ref x2)), ("com/example/clauseline/clauseline/model/Document", "bytes", "[B", (.ref x3)), ("com/example/clauseline/clauseline/model/Document", "breaks", "[I", (.ref x4))], ar x1 (.object "com/example/clauseline/clauseline/model/Line") [.null, .null, .null, .null, .null, .null, .null, .null, .null, .null, .null, .null, .null, .null, .null, .null], ob x2 "com/example/clauseline/clauseline/model/Document$Lines" [("com/example/clauseline/clauseline/model/Document$Lines", "this$0", "Lcom/example/clauseline/clauseline/model/Document;", (.ref x0)), ("java/util/AbstractList", "modCount", "I", (.int (0 : Int32)))], ar x3 .byte [(.int x5), (.int x6), (.int x7), (.int x8)], ar x4 .int x9]
abbrev mem52 (x0 : Addr) (x1 : Int32) (x2 : Int32) (x3 : Int32) (x4 : Int32) (x5 : Addr) : Mem := [ar x0 .byte [(.int x1), (.int x2), (.int x3), (.int x4)], ar x5 .int ((wri x4 (wri x3 (wri x2 (wri x1 (List.replicate ((bump x4 (bump x3 (bump x2 (bump x1 (0 : Int32))))) + (1 : Int32)).toNatClampNeg (.int (0 : Int32))) (0 : Int32) (0 : Int32)) (bumq x1 (0 : Int32)) (1 : Int32)) (bumq x2 (bumq x1 (0 : Int32))) (2 : Int32)) (bumq x3 (bumq x2 (bumq x1 (0 : Int32)))) (3 : Int32)).set (bumq x4 (bumq x3 (bumq x2 (bumq x1 (0 : Int32))))).toNatClampNeg (.int (4 : Int32)))]
abbrev mem53 (x0 : Addr) (x1 : Addr) (x2 : Addr) (x3 : Addr) (x4 : Addr) (x5 : Int32) (x6 : Int32) (x7 : Int32) (x8 : Int32) : Mem := [ob x0 "com/example/clauseline/clauseline/model/Document" [("com/example/clauseline/clauseline/model/Document", "recent", "[Lcom/example/clauseline/clauseline/model/Line;", (.ref x1)), ("com/example/clauseline/clauseline/model/Document", "lines", "Ljava/util/List;", (.ref x2)), ("com/example/clauseline/clauseline/model/Document", "bytes", "[B", (.ref x3)), ("com/example/clauseline/clauseline/model/Document", "breaks", "[I", (.ref x4))], ar x1 (.object "com/example/clauseline/clauseline/model/Line") [.null, .null, .null, .null, .null, .null, .null, .null, .null, .null, .null, .null, .null, .null, .null, .null], ob x2 "com/example/clauseline/clauseline/model/Document$Lines" [("com/example/clauseline/clauseline/model/Document$Lines", "this$0", "Lcom/example/clauseline/clauseline/model/Document;", (.ref x0)), ("java/util/AbstractList", "modCount", "I", (.int (0 : Int32)))], ar x3 .byte [(.int x5), (.int x6), (.int x7), (.int x8)], ar x4 .int (bk4 x5 x6 x7 x8)]
abbrev mem54 (x0 : Addr) (x1 : Addr) (x2 : Addr) (x3 : Addr) (x4 : Addr) (x5 : Value) (x6 : List Value) (x7 : List Value) (x8 : Addr) (x9 : List Value) (x10 : Addr) (x11 : List Value) : Mem := [ob x0 "com/example/clauseline/clauseline/model/Document" [("com/example/clauseline/clauseline/model/Document", "recent", "[Lcom/example/clauseline/clauseline/model/Line;", (.ref x1)), ("com/example/clauseline/clauseline/model/Document", "lines", "Ljava/util/List;", (.ref x2)), ("com/example/clauseline/clauseline/model/Document", "bytes", "[B", (.ref x3)), ("com/example/clauseline/clauseline/model/Document", "breaks", "[I", (.ref x4))], ar x1 (.object "com/example/clauseline/clauseline/model/Line") [x5, .null, .null, .null, .null, .null, .null, .null, .null, .null, .null, .null, .null, .null, .null, .null], ob x2 "com/example/clauseline/clauseline/model/Document$Lines" [("com/example/clauseline/clauseline/model/Document$Lines", "this$0", "Lcom/example/clauseline/clauseline/model/Document;", (.ref x0)), ("java/util/AbstractList", "modCount", "I", (.int (0 : Int32)))], ar x3 .byte x6, ar x4 .int x7, ar x8 .int x9, ar x10 .int x11]
abbrev mem55 (x0 : Addr) (x1 : Addr) (x2 : Addr) (x3 : Addr) (x4 : Addr) (x5 : List Value) (x6 : List Value) (x7 : Addr) (x8 : List Value) (x9 : Addr) (x10 : List Value) : Mem := [ob x0 "com/example/clauseline/clauseline/model/Document" [("com/example/clauseline/clauseline/model/Document", "recent", "[Lcom/example/clauseline/clauseline/model/Line;", (.ref x1)), ("com/example/clauseline/clauseline/model/Document", "lines", "Ljava/util/List;", (.ref x2)), ("com/example/clauseline/clauseline/model/Document", "bytes", "[B", (.ref x3)), ("com/example/clauseline/clauseline/model/Document", "breaks", "[I", (.ref x4))], ar x1 (.object "com/example/clauseline/clauseline/model/Line") [.null, .null, .null, .null, .null, .null, .null, .null, .null, .null, .null, .null, .null, .null, .null, .null], ob x2 "com/example/clauseline/clauseline/model/Document$Lines" [("com/example/clauseline/clauseline/model/Document$Lines", "this$0", "Lcom/example/clauseline/clauseline/model/Document;", (.ref x0)), ("java/util/AbstractList", "modCount", "I", (.int (0 : Int32)))], ar x3 .byte x5, ar x4 .int x6, ar x7 .int x8, ar x9 .int x10]
abbrev mem56 (x0 : Addr) (x1 : Addr) (x2 : Addr) (x3 : Addr) (x4 : Addr) (x5 : List Value) (x6 : List Value) : Mem := [ob x0 "com/example/clauseline/clauseline/model/Document" [("com/example/clauseline/clauseline/model/Document", "recent", "[Lcom/example/clauseline/clauseline/model/Line;", (.ref x1)), ("com/example/clauseline/clauseline/model/Document", "lines", "Ljava/util/List;", (.ref x2)), ("com/example/clauseline/clauseline/model/Document", "bytes", "[B", (.ref x3)), ("com/example/clauseline/clauseline/model/Document", "breaks", "[I", (.ref x4))], ar x1 (.object "com/example/clauseline/clauseline/model/Line") [.null, .null, .null, .null, .null, .null, .null, .null, .null, .null, .null, .null, .null, .null, .null, .null], ob x2 "com/example/clauseline/clauseline/model/Document$Lines" [("com/example/clauseline/clauseline/model/Document$Lines", "this$0", "Lcom/example/clauseline/clauseline/model/Document;", (.ref x0)), ("java/util/AbstractList", "modCount", "I", (.int (0 : Int32)))], ar x3 .byte x5, ar x4 .int x6]
abbrev mem57 (x0 : Addr) (x1 : Addr) (x2 : Addr) (x3 : Addr) (x4 : Addr) (x5 : List Value) (x6 : List Value) (x7 : Addr) : Mem := [ob x0 "com/example/clauseline/clauseline/model/Document" [("com/example/clauseline/clauseline/model/Document", "recent", "[Lcom/example/clauseline/clauseline/model/Line;", (.ref x1)), ("com/example/clauseline/clauseline/model/Document", "lines", "Ljava/util/List;", (.ref x2)), ("com/example/clauseline/clauseline/model/Document", "bytes", "[B", (.ref x3)), ("com/example/clauseline/clauseline/model/Document", "breaks", "[I", (.ref x4))], ar x1 (.object "com/example/clauseline/clauseline/model/Line") [.null, .null, .null, .null, .null, .null, .null, .null, .null, .null, .null, .null, .null, .null, .null, .null], ob x2 "com/example/clauseline/clauseline/model/Document$Lines" [("com/example/clauseline/clauseline/model/Document$Lines", "this$0", "Lcom/example/clauseline/clauseline/model/Document;", (.ref x0)), ("java/util/AbstractList", "modCount", "I", (.int (0 : Int32)))], ar x3 .byte x5, ar x4 .int x6, ob x7 "com/example/clauseline/clauseline/model/Line" [("com/example/clauseline/clauseline/model/Line", "bytes", "[B", .null), ("com/example/clauseline/clauseline/model/Line", "start", "I", (.int (0 : Int32))), ("com/example/clauseline/clauseline/model/Line", "end", "I", (.int (0 : Int32)))]]
abbrev mem58 (x0 : Addr) (x1 : List Value) (x2 : Addr) (x3 : Addr) (x4 : Addr) (x5 : Addr) (x6 : Addr) (x7 : List Value) : Mem := [ar x0 .byte x1, ob x2 "com/example/clauseline/clauseline/model/Line" [("com/example/clauseline/clauseline/model/Line", "bytes", "[B", .null), ("com/example/clauseline/clauseline/model/Line", "start", "I", (.int (0 : Int32))), ("com/example/clauseline/clauseline/model/Line", "end", "I", (.int (0 : Int32)))], ob x3 "com/example/clauseline/clauseline/model/Document" [("com/example/clauseline/clauseline/model/Document", "recent", "[Lcom/example/clauseline/clauseline/model/Line;", (.ref x4)), ("com/example/clauseline/clauseline/model/Document", "lines", "Ljava/util/List;", (.ref x5)), ("com/example/clauseline/clauseline/model/Document", "bytes", "[B", (.ref x0)), ("com/example/clauseline/clauseline/model/Document", "breaks", "[I", (.ref x6))], ar x4 (.object "com/example/clauseline/clauseline/model/Line") [.null, .null, .null, .null, .null, .null, .null, .null, .null, .null, .null, .null, .null, .null, .null, .null], ob x5 "com/example/clauseline/clauseline/model/Document$Lines" [("com/example/clauseline/clauseline/model/Document$Lines", "this$0", "Lcom/example/clauseline/clauseline/model/Document;", (.ref x3)), ("java/util/AbstractList", "modCount", "I", (.int (0 : Int32)))], ar x6 .int x7]
abbrev mem59 (x0 : Addr) (x1 : Addr) (x2 : Addr) (x3 : Addr) (x4 : Addr) (x5 : List Value) : Mem := [ob x0 "com/example/clauseline/clauseline/model/Document" [("com/example/clauseline/clauseline/model/Document", "recent", "[Lcom/example/clauseline/clauseline/model/Line;", (.ref x1)), ("com/example/clauseline/clauseline/model/Document", "lines", "Ljava/util/List;", (.ref x2)), ("com/example/clauseline/clauseline/model/Document", "bytes", "[B", (.ref x3)), ("com/example/clauseline/clauseline/model/Document", "breaks", "[I", (.ref x4))], ar x1 (.object "com/example/clauseline/clauseline/model/Line") [.null, .null, .null, .null, .null, .null, .null, .null, .null, .null, .null, .null, .null, .null, .null, .null], ob x2 "com/example/clauseline/clauseline/model/Document$Lines" [("com/example/clauseline/clauseline/model/Document$Lines", "this$0", "Lcom/example/clauseline/clauseline/model/Document;", (.ref x0)), ("java/util/AbstractList", "modCount", "I", (.int (0 : Int32)))], ar x4 .int x5]
abbrev mem60 (x0 : Addr) (x1 : List Value) (x2 : Addr) (x3 : Int32) (x4 : Int32) (x5 : Addr) (x6 : Addr) (x7 : Addr) (x8 : Addr) (x9 : List Value) : Mem := [ar x0 .byte x1, ob x2 "com/example/clauseline/clauseline/model/Line" [("com/example/clauseline/clauseline/model/Line", "bytes", "[B", (.ref x0)), ("com/example/clauseline/clauseline/model/Line", "start", "I", (.int (0 : Int32))), ("com/example/clauseline/clauseline/model/Line", "end", "I", (.int (trim (0 : Int32) x3 x4)))], ob x5 "com/example/clauseline/clauseline/model/Document" [("com/example/clauseline/clauseline/model/Document", "recent", "[Lcom/example/clauseline/clauseline/model/Line;", (.ref x6)), ("com/example/clauseline/clauseline/model/Document", "lines", "Ljava/util/List;", (.ref x7)), ("com/example/clauseline/clauseline/model/Document", "bytes", "[B", (.ref x0)), ("com/example/clauseline/clauseline/model/Document", "breaks", "[I", (.ref x8))], ar x6 (.object "com/example/clauseline/clauseline/model/Line") [.null, .null, .null, .null, .null, .null, .null, .null, .null, .null, .null, .null, .null, .null, .null, .null], ob x7 "com/example/clauseline/clauseline/model/Document$Lines" [("com/example/clauseline/clauseline/model/Document$Lines", "this$0", "Lcom/example/clauseline/clauseline/model/Document;", (.ref x5)), ("java/util/AbstractList", "modCount", "I", (.int (0 : Int32)))], ar x8 .int x9]
abbrev mem61 (x0 : Addr) (x1 : List Value) (x2 : Addr) (x3 : Int32) (x4 : Int32) (x5 : Addr) (x6 : Addr) (x7 : Addr) (x8 : Addr) (x9 : List Value) : Mem := [ar x0 .byte x1, ob x2 "com/example/clauseline/clauseline/model/Line" [("com/example/clauseline/clauseline/model/Line", "bytes", "[B", (.ref x0)), ("com/example/clauseline/clauseline/model/Line", "start", "I", (.int (0 : Int32))), ("com/example/clauseline/clauseline/model/Line", "end", "I", (.int (trim (0 : Int32) x3 x4)))], ob x5 "com/example/clauseline/clauseline/model/Document" [("com/example/clauseline/clauseline/model/Document", "recent", "[Lcom/example/clauseline/clauseline/model/Line;", (.ref x6)), ("com/example/clauseline/clauseline/model/Document", "lines", "Ljava/util/List;", (.ref x7)), ("com/example/clauseline/clauseline/model/Document", "bytes", "[B", (.ref x0)), ("com/example/clauseline/clauseline/model/Document", "breaks", "[I", (.ref x8))], ar x6 (.object "com/example/clauseline/clauseline/model/Line") [(.ref x2), .null, .null, .null, .null, .null, .null, .null, .null, .null, .null, .null, .null, .null, .null, .null], ob x7 "com/example/clauseline/clauseline/model/Document$Lines" [("com/example/clauseline/clauseline/model/Document$Lines", "this$0", "Lcom/example/clauseline/clauseline/model/Document;", (.ref x5)), ("java/util/AbstractList", "modCount", "I", (.int (0 : Int32)))], ar x8 .int x9]
abbrev mem62 (x0 : Addr) (x1 : List Value) (x2 : Addr) (x3 : Int32) (x4 : Int32) (x5 : Addr) (x6 : Addr) (x7 : Addr) (x8 : Addr) (x9 : List Value) (x10 : Addr) (x11 : List Value) (x12 : Addr) (x13 : List Value) : Mem := [ar x0 .byte x1, ob x2 "com/example/clauseline/clauseline/model/Line" [("com/example/clauseline/clauseline/model/Line", "bytes", "[B", (.ref x0)), ("com/example/clauseline/clauseline/model/Line", "start", "I", (.int (0 : Int32))), ("com/example/clauseline/clauseline/model/Line", "end", "I", (.int (trim (0 : Int32) x3 x4)))], ob x5 "com/example/clauseline/clauseline/model/Document" [("com/example/clauseline/clauseline/model/Document", "recent", "[Lcom/example/clauseline/clauseline/model/Line;", (.ref x6)), ("com/example/clauseline/clauseline/model/Document", "lines", "Ljava/util/List;", (.ref x7)), ("com/example/clauseline/clauseline/model/Document", "bytes", "[B", (.ref x0)), ("com/example/clauseline/clauseline/model/Document", "breaks", "[I", (.ref x8))], ar x6 (.object "com/example/clauseline/clauseline/model/Line") [(.ref x2), .null, .null, .null, .null, .null, .null, .null, .null, .null, .null, .null, .null, .null, .null, .null], ob x7 "com/example/clauseline/clauseline/model/Document$Lines" [("com/example/clauseline/clauseline/model/Document$Lines", "this$0", "Lcom/example/clauseline/clauseline/model/Document;", (.ref x5)), ("java/util/AbstractList", "modCount", "I", (.int (0 : Int32)))], ar x8 .int x9, ar x10 .int x11, ar x12 .int x13]
abbrev mem63 (x0 : Addr) (x1 : Addr) (x2 : Addr) (x3 : Addr) (x4 : Addr) (x5 : Addr) (x6 : List Value) (x7 : Addr) (x8 : List Value) (x9 : Addr) (x10 : List Value) : Mem := [ob x0 "com/example/clauseline/clauseline/model/Document" [("com/example/clauseline/clauseline/model/Document", "recent", "[Lcom/example/clauseline/clauseline/model/Line;", (.ref x1)), ("com/example/clauseline/clauseline/model/Document", "lines", "Ljava/util/List;", (.ref x2)), ("com/example/clauseline/clauseline/model/Document", "bytes", "[B", (.ref x3)), ("com/example/clauseline/clauseline/model/Document", "breaks", "[I", (.ref x4))], ar x1 (.object "com/example/clauseline/clauseline/model/Line") [(.ref x5), .null, .null, .null, .null, .null, .null, .null, .null, .null, .null, .null, .null, .null, .null, .null], ob x2 "com/example/clauseline/clauseline/model/Document$Lines" [("com/example/clauseline/clauseline/model/Document$Lines", "this$0", "Lcom/example/clauseline/clauseline/model/Document;", (.ref x0)), ("java/util/AbstractList", "modCount", "I", (.int (0 : Int32)))], ar x4 .int x6, ar x7 .int x8, ar x9 .int x10]
abbrev mem64 (x0 : Addr) (x1 : List Value) (x2 : Addr) (x3 : Addr) (x4 : Addr) (x5 : Addr) (x6 : Addr) (x7 : List Value) (x8 : Addr) (x9 : List Value) (x10 : Addr) (x11 : List Value) : Mem := [ar x0 .byte x1, ob x2 "com/example/clauseline/clauseline/model/Document" [("com/example/clauseline/clauseline/model/Document", "recent", "[Lcom/example/clauseline/clauseline/model/Line;", (.ref x3)), ("com/example/clauseline/clauseline/model/Document", "lines", "Ljava/util/List;", (.ref x4)), ("com/example/clauseline/clauseline/model/Document", "bytes", "[B", (.ref x0)), ("com/example/clauseline/clauseline/model/Document", "breaks", "[I", (.ref x5))], ar x3 (.object "com/example/clauseline/clauseline/model/Line") [(.ref x6), .null, .null, .null, .null, .null, .null, .null, .null, .null, .null, .null, .null, .null, .null, .null], ob x4 "com/example/clauseline/clauseline/model/Document$Lines" [("com/example/clauseline/clauseline/model/Document$Lines", "this$0", "Lcom/example/clauseline/clauseline/model/Document;", (.ref x2)), ("java/util/AbstractList", "modCount", "I", (.int (0 : Int32)))], ar x5 .int x7, ar x8 .int x9, ar x10 .int x11]
abbrev mem65 (x0 : Addr) (x1 : Addr) (x2 : Addr) (x3 : Addr) (x4 : Addr) (x5 : Addr) (x6 : List Value) (x7 : List Value) (x8 : Addr) (x9 : List Value) (x10 : Addr) (x11 : List Value) : Mem := [ob x0 "com/example/clauseline/clauseline/model/Document" [("com/example/clauseline/clauseline/model/Document", "recent", "[Lcom/example/clauseline/clauseline/model/Line;", (.ref x1)), ("com/example/clauseline/clauseline/model/Document", "lines", "Ljava/util/List;", (.ref x2)), ("com/example/clauseline/clauseline/model/Document", "bytes", "[B", (.ref x3)), ("com/example/clauseline/clauseline/model/Document", "breaks", "[I", (.ref x4))], ar x1 (.object "com/example/clauseline/clauseline/model/Line") [(.ref x5), .null, .null, .null, .null, .null, .null, .null, .null, .null, .null, .null, .null, .null, .null, .null], ob x2 "com/example/clauseline/clauseline/model/Document$Lines" [("com/example/clauseline/clauseline/model/Document$Lines", "this$0", "Lcom/example/clauseline/clauseline/model/Document;", (.ref x0)), ("java/util/AbstractList", "modCount", "I", (.int (0 : Int32)))], ar x3 .byte x6, ar x4 .int x7, ar x8 .int x9, ar x10 .int x11]
abbrev mem66 (x0 : Addr) (x1 : Addr) (x2 : Addr) (x3 : Addr) (x4 : Addr) (x5 : Value) (x6 : Value) (x7 : List Value) (x8 : List Value) (x9 : Addr) (x10 : List Value) (x11 : Addr) (x12 : List Value) : Mem := [ob x0 "com/example/clauseline/clauseline/model/Document" [("com/example/clauseline/clauseline/model/Document", "recent", "[Lcom/example/clauseline/clauseline/model/Line;", (.ref x1)), ("com/example/clauseline/clauseline/model/Document", "lines", "Ljava/util/List;", (.ref x2)), ("com/example/clauseline/clauseline/model/Document", "bytes", "[B", (.ref x3)), ("com/example/clauseline/clauseline/model/Document", "breaks", "[I", (.ref x4))], ar x1 (.object "com/example/clauseline/clauseline/model/Line") [x5, x6, .null, .null, .null, .null, .null, .null, .null, .null, .null, .null, .null, .null, .null, .null], ob x2 "com/example/clauseline/clauseline/model/Document$Lines" [("com/example/clauseline/clauseline/model/Document$Lines", "this$0", "Lcom/example/clauseline/clauseline/model/Document;", (.ref x0)), ("java/util/AbstractList", "modCount", "I", (.int (0 : Int32)))], ar x3 .byte x7, ar x4 .int x8, ar x9 .int x10, ar x11 .int x12]
abbrev mem67 (x0 : Addr) (x1 : Addr) (x2 : Addr) (x3 : Addr) (x4 : Addr) (x5 : Value) (x6 : List Value) (x7 : List Value) : Mem := [ob x0 "com/example/clauseline/clauseline/model/Document" [("com/example/clauseline/clauseline/model/Document", "recent", "[Lcom/example/clauseline/clauseline/model/Line;", (.ref x1)), ("com/example/clauseline/clauseline/model/Document", "lines", "Ljava/util/List;", (.ref x2)), ("com/example/clauseline/clauseline/model/Document", "bytes", "[B", (.ref x3)), ("com/example/clauseline/clauseline/model/Document", "breaks", "[I", (.ref x4))], ar x1 (.object "com/example/clauseline/clauseline/model/Line") [x5, .null, .null, .null, .null, .null, .null, .null, .null, .null, .null, .null, .null, .null, .null, .null], ob x2 "com/example/clauseline/clauseline/model/Document$Lines" [("com/example/clauseline/clauseline/model/Document$Lines", "this$0", "Lcom/example/clauseline/clauseline/model/Document;", (.ref x0)), ("java/util/AbstractList", "modCount", "I", (.int (0 : Int32)))], ar x3 .byte x6, ar x4 .int x7]
abbrev mem68 (x0 : Addr) (x1 : Addr) (x2 : Addr) (x3 : Addr) (x4 : Addr) (x5 : Value) (x6 : List Value) (x7 : List Value) (x8 : Addr) : Mem := [ob x0 "com/example/clauseline/clauseline/model/Document" [("com/example/clauseline/clauseline/model/Document", "recent", "[Lcom/example/clauseline/clauseline/model/Line;", (.ref x1)), ("com/example/clauseline/clauseline/model/Document", "lines", "Ljava/util/List;", (.ref x2)), ("com/example/clauseline/clauseline/model/Document", "bytes", "[B", (.ref x3)), ("com/example/clauseline/clauseline/model/Document", "breaks", "[I", (.ref x4))], ar x1 (.object "com/example/clauseline/clauseline/model/Line") [x5, .null, .null, .null, .null, .null, .null, .null, .null, .null, .null, .null, .null, .null, .null, .null], ob x2 "com/example/clauseline/clauseline/model/Document$Lines" [("com/example/clauseline/clauseline/model/Document$Lines", "this$0", "Lcom/example/clauseline/clauseline/model/Document;", (.ref x0)), ("java/util/AbstractList", "modCount", "I", (.int (0 : Int32)))], ar x3 .byte x6, ar x4 .int x7, ob x8 "com/example/clauseline/clauseline/model/Line" [("com/example/clauseline/clauseline/model/Line", "bytes", "[B", .null), ("com/example/clauseline/clauseline/model/Line", "start", "I", (.int (0 : Int32))), ("com/example/clauseline/clauseline/model/Line", "end", "I", (.int (0 : Int32)))]]
abbrev mem69 (x0 : Addr) (x1 : List Value) (x2 : Addr) (x3 : Addr) (x4 : Addr) (x5 : Addr) (x6 : Addr) (x7 : Value) (x8 : List Value) : Mem := [ar x0 .byte x1, ob x2 "com/example/clauseline/clauseline/model/Line" [("com/example/clauseline/clauseline/model/Line", "bytes", "[B", .null), ("com/example/clauseline/clauseline/model/Line", "start", "I", (.int (0 : Int32))), ("com/example/clauseline/clauseline/model/Line", "end", "I", (.int (0 : Int32)))], ob x3 "com/example/clauseline/clauseline/model/Document" [("com/example/clauseline/clauseline/model/Document", "recent", "[Lcom/example/clauseline/clauseline/model/Line;", (.ref x4)), ("com/example/clauseline/clauseline/model/Document", "lines", "Ljava/util/List;", (.ref x5)), ("com/example/clauseline/clauseline/model/Document", "bytes", "[B", (.ref x0)), ("com/example/clauseline/clauseline/model/Document", "breaks", "[I", (.ref x6))], ar x4 (.object "com/example/clauseline/clauseline/model/Line") [x7, .null, .null, .null, .null, .null, .null, .null, .null, .null, .null, .null, .null, .null, .null, .null], ob x5 "com/example/clauseline/clauseline/model/Document$Lines" [("com/example/clauseline/clauseline/model/Document$Lines", "this$0", "Lcom/example/clauseline/clauseline/model/Document;", (.ref x3)), ("java/util/AbstractList", "modCount", "I", (.int (0 : Int32)))], ar x6 .int x8]
abbrev mem70 (x0 : Addr) (x1 : Addr) (x2 : Addr) (x3 : Addr) (x4 : Addr) (x5 : Value) (x6 : List Value) : Mem := [ob x0 "com/example/clauseline/clauseline/model/Document" [("com/example/clauseline/clauseline/model/Document", "recent", "[Lcom/example/clauseline/clauseline/model/Line;", (.ref x1)), ("com/example/clauseline/clauseline/model/Document", "lines", "Ljava/util/List;", (.ref x2)), ("com/example/clauseline/clauseline/model/Document", "bytes", "[B", (.ref x3)), ("com/example/clauseline/clauseline/model/Document", "breaks", "[I", (.ref x4))], ar x1 (.object "com/example/clauseline/clauseline/model/Line") [x5, .null, .null, .null, .null, .null, .null, .null, .null, .null, .null, .null, .null, .null, .null, .null], ob x2 "com/example/clauseline/clauseline/model/Document$Lines" [("com/example/clauseline/clauseline/model/Document$Lines", "this$0", "Lcom/example/clauseline/clauseline/model/Document;", (.ref x0)), ("java/util/AbstractList", "modCount", "I", (.int (0 : Int32)))], ar x4 .int x6]
abbrev mem71 (x0 : Addr) (x1 : List Value) (x2 : Addr) (x3 : Int32) (x4 : Int32) (x5 : Int32) (x6 : Addr) (x7 : Addr) (x8 : Addr) (x9 : Addr) (x10 : Value) (x11 : List Value) : Mem := [ar x0 .byte x1, ob x2 "com/example/clauseline/clauseline/model/Line" [("com/example/clauseline/clauseline/model/Line", "bytes", "[B", (.ref x0)), ("com/example/clauseline/clauseline/model/Line", "start", "I", (.int (x3 + (1 : Int32)))), ("com/example/clauseline/clauseline/model/Line", "end", "I", (.int (trim (x3 + (1 : Int32)) x4 x5)))], ob x6 "com/example/clauseline/clauseline/model/Document" [("com/example/clauseline/clauseline/model/Document", "recent", "[Lcom/example/clauseline/clauseline/model/Line;", (.ref x7)), ("com/example/clauseline/clauseline/model/Document", "lines", "Ljava/util/List;", (.ref x8)), ("com/example/clauseline/clauseline/model/Document", "bytes", "[B", (.ref x0)), ("com/example/clauseline/clauseline/model/Document", "breaks", "[I", (.ref x9))], ar x7 (.object "com/example/clauseline/clauseline/model/Line") [x10, .null, .null, .null, .null, .null, .null, .null, .null, .null, .null, .null, .null, .null, .null, .null], ob x8 "com/example/clauseline/clauseline/model/Document$Lines" [("com/example/clauseline/clauseline/model/Document$Lines", "this$0", "Lcom/example/clauseline/clauseline/model/Document;", (.ref x6)), ("java/util/AbstractList", "modCount", "I", (.int (0 : Int32)))], ar x9 .int x11]
abbrev mem72 (x0 : Addr) (x1 : List Value) (x2 : Addr) (x3 : Int32) (x4 : Int32) (x5 : Int32) (x6 : Addr) (x7 : Addr) (x8 : Addr) (x9 : Addr) (x10 : Value) (x11 : List Value) : Mem := [ar x0 .byte x1, ob x2 "com/example/clauseline/clauseline/model/Line" [("com/example/clauseline/clauseline/model/Line", "bytes", "[B", (.ref x0)), ("com/example/clauseline/clauseline/model/Line", "start", "I", (.int (x3 + (1 : Int32)))), ("com/example/clauseline/clauseline/model/Line", "end", "I", (.int (trim (x3 + (1 : Int32)) x4 x5)))], ob x6 "com/example/clauseline/clauseline/model/Document" [("com/example/clauseline/clauseline/model/Document", "recent", "[Lcom/example/clauseline/clauseline/model/Line;", (.ref x7)), ("com/example/clauseline/clauseline/model/Document", "lines", "Ljava/util/List;", (.ref x8)), ("com/example/clauseline/clauseline/model/Document", "bytes", "[B", (.ref x0)), ("com/example/clauseline/clauseline/model/Document", "breaks", "[I", (.ref x9))], ar x7 (.object "com/example/clauseline/clauseline/model/Line") [x10, (.ref x2), .null, .null, .null, .null, .null, .null, .null, .null, .null, .null, .null, .null, .null, .null], ob x8 "com/example/clauseline/clauseline/model/Document$Lines" [("com/example/clauseline/clauseline/model/Document$Lines", "this$0", "Lcom/example/clauseline/clauseline/model/Document;", (.ref x6)), ("java/util/AbstractList", "modCount", "I", (.int (0 : Int32)))], ar x9 .int x11]
abbrev mem73 (x0 : Addr) (x1 : List Value) (x2 : Addr) (x3 : Int32) (x4 : Int32) (x5 : Int32) (x6 : Addr) (x7 : Addr) (x8 : Addr) (x9 : Addr) (x10 : Value) (x11 : List Value) (x12 : Addr) (x13 : List Value) (x14 : Addr) (x15 : List Value) : Mem := [ar x0 .byte x1, ob x2 "com/example/clauseline/clauseline/model/Line" [("com/example/clauseline/clauseline/model/Line", "bytes", "[B", (.ref x0)), ("com/example/clauseline/clauseline/model/Line", "start", "I", (.int (x3 + (1 : Int32)))), ("com/example/clauseline/clauseline/model/Line", "end", "I", (.int (trim (x3 + (1 : Int32)) x4 x5)))], ob x6 "com/example/clauseline/clauseline/model/Document" [("com/example/clauseline/clauseline/model/Document", "recent", "[Lcom/example/clauseline/clauseline/model/Line;", (.ref x7)), ("com/example/clauseline/clauseline/model/Document", "lines", "Ljava/util/List;", (.ref x8)), ("com/example/clauseline/clauseline/model/Document", "bytes", "[B", (.ref x0)), ("com/example/clauseline/clauseline/model/Document", "breaks", "[I", (.ref x9))], ar x7 (.object "com/example/clauseline/clauseline/model/Line") [x10, (.ref x2), .null, .null, .null, .null, .null, .null, .null, .null, .null, .null, .null, .null, .null, .null], ob x8 "com/example/clauseline/clauseline/model/Document$Lines" [("com/example/clauseline/clauseline/model/Document$Lines", "this$0", "Lcom/example/clauseline/clauseline/model/Document;", (.ref x6)), ("java/util/AbstractList", "modCount", "I", (.int (0 : Int32)))], ar x9 .int x11, ar x12 .int x13, ar x14 .int x15]
abbrev mem74 (x0 : Addr) (x1 : Addr) (x2 : Addr) (x3 : Addr) (x4 : Addr) (x5 : Value) (x6 : Addr) (x7 : List Value) (x8 : Addr) (x9 : List Value) (x10 : Addr) (x11 : List Value) : Mem := [ob x0 "com/example/clauseline/clauseline/model/Document" [("com/example/clauseline/clauseline/model/Document", "recent", "[Lcom/example/clauseline/clauseline/model/Line;", (.ref x1)), ("com/example/clauseline/clauseline/model/Document", "lines", "Ljava/util/List;", (.ref x2)), ("com/example/clauseline/clauseline/model/Document", "bytes", "[B", (.ref x3)), ("com/example/clauseline/clauseline/model/Document", "breaks", "[I", (.ref x4))], ar x1 (.object "com/example/clauseline/clauseline/model/Line") [x5, (.ref x6), .null, .null, .null, .null, .null, .null, .null, .null, .null, .null, .null, .null, .null, .null], ob x2 "com/example/clauseline/clauseline/model/Document$Lines" [("com/example/clauseline/clauseline/model/Document$Lines", "this$0", "Lcom/example/clauseline/clauseline/model/Document;", (.ref x0)), ("java/util/AbstractList", "modCount", "I", (.int (0 : Int32)))], ar x4 .int x7, ar x8 .int x9, ar x10 .int x11]
abbrev mem75 (x0 : Addr) (x1 : List Value) (x2 : Addr) (x3 : Addr) (x4 : Addr) (x5 : Addr) (x6 : Value) (x7 : Addr) (x8 : List Value) (x9 : Addr) (x10 : List Value) (x11 : Addr) (x12 : List Value) : Mem := [ar x0 .byte x1, ob x2 "com/example/clauseline/clauseline/model/Document" [("com/example/clauseline/clauseline/model/Document", "recent", "[Lcom/example/clauseline/clauseline/model/Line;", (.ref x3)), ("com/example/clauseline/clauseline/model/Document", "lines", "Ljava/util/List;", (.ref x4)), ("com/example/clauseline/clauseline/model/Document", "bytes", "[B", (.ref x0)), ("com/example/clauseline/clauseline/model/Document", "breaks", "[I", (.ref x5))], ar x3 (.object "com/example/clauseline/clauseline/model/Line") [x6, (.ref x7), .null, .null, .null, .null, .null, .null, .null, .null, .null, .null, .null, .null, .null, .null], ob x4 "com/example/clauseline/clauseline/model/Document$Lines" [("com/example/clauseline/clauseline/model/Document$Lines", "this$0", "Lcom/example/clauseline/clauseline/model/Document;", (.ref x2)), ("java/util/AbstractList", "modCount", "I", (.int (0 : Int32)))], ar x5 .int x8, ar x9 .int x10, ar x11 .int x12]
abbrev mem76 (x0 : Addr) (x1 : Addr) (x2 : Addr) (x3 : Addr) (x4 : Addr) (x5 : Value) (x6 : Addr) (x7 : List Value) (x8 : List Value) (x9 : Addr) (x10 : List Value) (x11 : Addr) (x12 : List Value) : Mem := [ob x0 "com/example/clauseline/clauseline/model/Document" [("com/example/clauseline/clauseline/model/Document", "recent", "[Lcom/example/clauseline/clauseline/model/Line;", (.ref x1)), ("com/example/clauseline/clauseline/model/Document", "lines", "Ljava/util/List;", (.ref x2)), ("com/example/clauseline/clauseline/model/Document", "bytes", "[B", (.ref x3)), ("com/example/clauseline/clauseline/model/Document", "breaks", "[I", (.ref x4))], ar x1 (.object "com/example/clauseline/clauseline/model/Line") [x5, (.ref x6), .null, .null, .null, .null, .null, .null, .null, .null, .null, .null, .null, .null, .null, .null], ob x2 "com/example/clauseline/clauseline/model/Document$Lines" [("com/example/clauseline/clauseline/model/Document$Lines", "this$0", "Lcom/example/clauseline/clauseline/model/Document;", (.ref x0)), ("java/util/AbstractList", "modCount", "I", (.int (0 : Int32)))], ar x3 .byte x7, ar x4 .int x8, ar x9 .int x10, ar x11 .int x12]
abbrev mem77 (x0 : Addr) (x1 : Addr) (x2 : Addr) (x3 : Addr) (x4 : Addr) (x5 : Value) (x6 : Value) (x7 : Value) (x8 : List Value) (x9 : List Value) (x10 : Addr) (x11 : List Value) (x12 : Addr) (x13 : List Value) : Mem := [ob x0 "com/example/clauseline/clauseline/model/Document" [("com/example/clauseline/clauseline/model/Document", "recent", "[Lcom/example/clauseline/clauseline/model/Line;", (.ref x1)), ("com/example/clauseline/clauseline/model/Document", "lines", "Ljava/util/List;", (.ref x2)), ("com/example/clauseline/clauseline/model/Document", "bytes", "[B", (.ref x3)), ("com/example/clauseline/clauseline/model/Document", "breaks", "[I", (.ref x4))], ar x1 (.object "com/example/clauseline/clauseline/model/Line") [x5, x6, x7, .null, .null, .null, .null, .null, .null, .null, .null, .null, .null, .null, .null, .null], ob x2 "com/example/clauseline/clauseline/model/Document$Lines" [("com/example/clauseline/clauseline/model/Document$Lines", "this$0", "Lcom/example/clauseline/clauseline/model/Document;", (.ref x0)), ("java/util/AbstractList", "modCount", "I", (.int (0 : Int32)))], ar x3 .byte x8, ar x4 .int x9, ar x10 .int x11, ar x12 .int x13]
abbrev mem78 (x0 : Addr) (x1 : Addr) (x2 : Addr) (x3 : Addr) (x4 : Addr) (x5 : Value) (x6 : Value) (x7 : List Value) (x8 : List Value) : Mem := [ob x0 "com/example/clauseline/clauseline/model/Document" [("com/example/clauseline/clauseline/model/Document", "recent", "[Lcom/example/clauseline/clauseline/model/Line;", (.ref x1)), ("com/example/clauseline/clauseline/model/Document", "lines", "Ljava/util/List;", (.ref x2)), ("com/example/clauseline/clauseline/model/Document", "bytes", "[B", (.ref x3)), ("com/example/clauseline/clauseline/model/Document", "breaks", "[I", (.ref x4))], ar x1 (.object "com/example/clauseline/clauseline/model/Line") [x5, x6, .null, .null, .null, .null, .null, .null, .null, .null, .null, .null, .null, .null, .null, .null], ob x2 "com/example/clauseline/clauseline/model/Document$Lines" [("com/example/clauseline/clauseline/model/Document$Lines", "this$0", "Lcom/example/clauseline/clauseline/model/Document;", (.ref x0)), ("java/util/AbstractList", "modCount", "I", (.int (0 : Int32)))], ar x3 .byte x7, ar x4 .int x8]
abbrev mem79 (x0 : Addr) (x1 : Addr) (x2 : Addr) (x3 : Addr) (x4 : Addr) (x5 : Value) (x6 : Value) (x7 : List Value) (x8 : List Value) (x9 : Addr) : Mem := [ob x0 "com/example/clauseline/clauseline/model/Document" [("com/example/clauseline/clauseline/model/Document", "recent", "[Lcom/example/clauseline/clauseline/model/Line;", (.ref x1)), ("com/example/clauseline/clauseline/model/Document", "lines", "Ljava/util/List;", (.ref x2)), ("com/example/clauseline/clauseline/model/Document", "bytes", "[B", (.ref x3)), ("com/example/clauseline/clauseline/model/Document", "breaks", "[I", (.ref x4))], ar x1 (.object "com/example/clauseline/clauseline/model/Line") [x5, x6, .null, .null, .null, .null, .null, .null, .null, .null, .null, .null, .null, .null, .null, .null], ob x2 "com/example/clauseline/clauseline/model/Document$Lines" [("com/example/clauseline/clauseline/model/Document$Lines", "this$0", "Lcom/example/clauseline/clauseline/model/Document;", (.ref x0)), ("java/util/AbstractList", "modCount", "I", (.int (0 : Int32)))], ar x3 .byte x7, ar x4 .int x8, ob x9 "com/example/clauseline/clauseline/model/Line" [("com/example/clauseline/clauseline/model/Line", "bytes", "[B", .null), ("com/example/clauseline/clauseline/model/Line", "start", "I", (.int (0 : Int32))), ("com/example/clauseline/clauseline/model/Line", "end", "I", (.int (0 : Int32)))]]
abbrev mem80 (x0 : Addr) (x1 : List Value) (x2 : Addr) (x3 : Addr) (x4 : Addr) (x5 : Addr) (x6 : Addr) (x7 : Value) (x8 : Value) (x9 : List Value) : Mem := [ar x0 .byte x1, ob x2 "com/example/clauseline/clauseline/model/Line" [("com/example/clauseline/clauseline/model/Line", "bytes", "[B", .null), ("com/example/clauseline/clauseline/model/Line", "start", "I", (.int (0 : Int32))), ("com/example/clauseline/clauseline/model/Line", "end", "I", (.int (0 : Int32)))], ob x3 "com/example/clauseline/clauseline/model/Document" [("com/example/clauseline/clauseline/model/Document", "recent", "[Lcom/example/clauseline/clauseline/model/Line;", (.ref x4)), ("com/example/clauseline/clauseline/model/Document", "lines", "Ljava/util/List;", (.ref x5)), ("com/example/clauseline/clauseline/model/Document", "bytes", "[B", (.ref x0)), ("com/example/clauseline/clauseline/model/Document", "breaks", "[I", (.ref x6))], ar x4 (.object "com/example/clauseline/clauseline/model/Line") [x7, x8, .null, .null, .null, .null, .null, .null, .null, .null, .null, .null, .null, .null, .null, .null], ob x5 "com/example/clauseline/clauseline/model/Document$Lines" [("com/example/clauseline/clauseline/model/Document$Lines", "this$0", "Lcom/example/clauseline/clauseline/model/Document;", (.ref x3)), ("java/util/AbstractList", "modCount", "I", (.int (0 : Int32)))], ar x6 .int x9]
abbrev mem81 (x0 : Addr) (x1 : Addr) (x2 : Addr) (x3 : Addr) (x4 : Addr) (x5 : Value) (x6 : Value) (x7 : List Value) : Mem := [ob x0 "com/example/clauseline/clauseline/model/Document" [("com/example/clauseline/clauseline/model/Document", "recent", "[Lcom/example/clauseline/clauseline/model/Line;", (.ref x1)), ("com/example/clauseline/clauseline/model/Document", "lines", "Ljava/util/List;", (.ref x2)), ("com/example/clauseline/clauseline/model/Document", "bytes", "[B", (.ref x3)), ("com/example/clauseline/clauseline/model/Document", "breaks", "[I", (.ref x4))], ar x1 (.object "com/example/clauseline/clauseline/model/Line") [x5, x6, .null, .null, .null, .null, .null, .null, .null, .null, .null, .null, .null, .null, .null, .null], ob x2 "com/example/clauseline/clauseline/model/Document$Lines" [("com/example/clauseline/clauseline/model/Document$Lines", "this$0", "Lcom/example/clauseline/clauseline/model/Document;", (.ref x0)), ("java/util/AbstractList", "modCount", "I", (.int (0 : Int32)))], ar x4 .int x7]
abbrev mem82 (x0 : Addr) (x1 : List Value) (x2 : Addr) (x3 : Int32) (x4 : Int32) (x5 : Int32) (x6 : Addr) (x7 : Addr) (x8 : Addr) (x9 : Addr) (x10 : Value) (x11 : Value) (x12 : List Value) : Mem := [ar x0 .byte x1, ob x2 "com/example/clauseline/clauseline/model/Line" [("com/example/clauseline/clauseline/model/Line", "bytes", "[B", (.ref x0)), ("com/example/clauseline/clauseline/model/Line", "start", "I", (.int (x3 + (1 : Int32)))), ("com/example/clauseline/clauseline/model/Line", "end", "I", (.int (trim (x3 + (1 : Int32)) x4 x5)))], ob x6 "com/example/clauseline/clauseline/model/Document" [("com/example/clauseline/clauseline/model/Document", "recent", "[Lcom/example/clauseline/clauseline/model/Line;", (.ref x7)), ("com/example/clauseline/clauseline/model/Document", "lines", "Ljava/util/List;", (.ref x8)), ("com/example/clauseline/clauseline/model/Document", "bytes", "[B", (.ref x0)), ("com/example/clauseline/clauseline/model/Document", "breaks", "[I", (.ref x9))], ar x7 (.object "com/example/clauseline/clauseline/model/Line") [x10, x11, .null, .null, .null, .null, .null, .null, .null, .null, .null, .null, .null, .null, .null, .null], ob x8 "com/example/clauseline/clauseline/model/Document$Lines" [("com/example/clauseline/clauseline/model/Document$Lines", "this$0", "Lcom/example/clauseline/clauseline/model/Document;", (.ref x6)), ("java/util/AbstractList", "modCount", "I", (.int (0 : Int32)))], ar x9 .int x12]
abbrev mem83 (x0 : Addr) (x1 : List Value) (x2 : Addr) (x3 : Int32) (x4 : Int32) (x5 : Int32) (x6 : Addr) (x7 : Addr) (x8 : Addr) (x9 : Addr) (x10 : Value) (x11 : Value) (x12 : List Value) : Mem := [ar x0 .byte x1, ob x2 "com/example/clauseline/clauseline/model/Line" [("com/example/clauseline/clauseline/model/Line", "bytes", "[B", (.ref x0)), ("com/example/clauseline/clauseline/model/Line", "start", "I", (.int (x3 + (1 : Int32)))), ("com/example/clauseline/clauseline/model/Line", "end", "I", (.int (trim (x3 + (1 : Int32)) x4 x5)))], ob x6 "com/example/clauseline/clauseline/model/Document" [("com/example/clauseline/clauseline/model/Document", "recent", "[Lcom/example/clauseline/clauseline/model/Line;", (.ref x7)), ("com/example/clauseline/clauseline/model/Document", "lines", "Ljava/util/List;", (.ref x8)), ("com/example/clauseline/clauseline/model/Document", "bytes", "[B", (.ref x0)), ("com/example/clauseline/clauseline/model/Document", "breaks", "[I", (.ref x9))], ar x7 (.object "com/example/clauseline/clauseline/model/Line") [x10, x11, (.ref x2), .null, .null, .null, .null, .null, .null, .null, .null, .null, .null, .null, .null, .null], ob x8 "com/example/clauseline/clauseline/model/Document$Lines" [("com/example/clauseline/clauseline/model/Document$Lines", "this$0", "Lcom/example/clauseline/clauseline/model/Document;", (.ref x6)), ("java/util/AbstractList", "modCount", "I", (.int (0 : Int32)))], ar x9 .int x12]
abbrev mem84 (x0 : Addr) (x1 : List Value) (x2 : Addr) (x3 : Int32) (x4 : Int32) (x5 : Int32) (x6 : Addr) (x7 : Addr) (x8 : Addr) (x9 : Addr) (x10 : Value) (x11 : Value) (x12 : List Value) (x13 : Addr) (x14 : List Value) (x15 : Addr) (x16 : List Value) : Mem := [ar x0 .byte x1, ob x2 "com/example/clauseline/clauseline/model/Line" [("com/example/clauseline/clauseline/model/Line", "bytes", "[B", (.ref x0)), ("com/example/clauseline/clauseline/model/Line", "start", "I", (.int (x3 + (1 : Int32)))), ("com/example/clauseline/clauseline/model/Line", "end", "I", (.int (trim (x3 + (1 : Int32)) x4 x5)))], ob x6 "com/example/clauseline/clauseline/model/Document" [("com/example/clauseline/clauseline/model/Document", "recent", "[Lcom/example/clauseline/clauseline/model/Line;", (.ref x7)), ("com/example/clauseline/clauseline/model/Document", "lines", "Ljava/util/List;", (.ref x8)), ("com/example/clauseline/clauseline/model/Document", "bytes", "[B", (.ref x0)), ("com/example/clauseline/clauseline/model/Document", "breaks", "[I", (.ref x9))], ar x7 (.object "com/example/clauseline/clauseline/model/Line") [x10, x11, (.ref x2), .null, .null, .null, .null, .null, .null, .null, .null, .null, .null, .null, .null, .null], ob x8 "com/example/clauseline/clauseline/model/Document$Lines" [("com/example/clauseline/clauseline/model/Document$Lines", "this$0", "Lcom/example/clauseline/clauseline/model/Document;", (.ref x6)), ("java/util/AbstractList", "modCount", "I", (.int (0 : Int32)))], ar x9 .int x12, ar x13 .int x14, ar x15 .int x16]
abbrev mem85 (x0 : Addr) (x1 : Addr) (x2 : Addr) (x3 : Addr) (x4 : Addr) (x5 : Value) (x6 : Value) (x7 : Addr) (x8 : List Value) (x9 : Addr) (x10 : List Value) (x11 : Addr) (x12 : List Value) : Mem := [ob x0 "com/example/clauseline/clauseline/model/Document" [("com/example/clauseline/clauseline/model/Document", "recent", "[Lcom/example/clauseline/clauseline/model/Line;", (.ref x1)), ("com/example/clauseline/clauseline/model/Document", "lines", "Ljava/util/List;", (.ref x2)), ("com/example/clauseline/clauseline/model/Document", "bytes", "[B", (.ref x3)), ("com/example/clauseline/clauseline/model/Document", "breaks", "[I", (.ref x4))], ar x1 (.object "com/example/clauseline/clauseline/model/Line") [x5, x6, (.ref x7), .null, .null, .null, .null, .null, .null, .null, .null, .null, .null, .null, .null, .null], ob x2 "com/example/clauseline/clauseline/model/Document$Lines" [("com/example/clauseline/clauseline/model/Document$Lines", "this$0", "Lcom/example/clauseline/clauseline/model/Document;", (.ref x0)), ("java/util/AbstractList", "modCount", "I", (.int (0 : Int32)))], ar x4 .int x8, ar x9 .int x10, ar x11 .int x12]
abbrev mem86 (x0 : Addr) (x1 : List Value) (x2 : Addr) (x3 : Addr) (x4 : Addr) (x5 : Addr) (x6 : Value) (x7 : Value) (x8 : Addr) (x9 : List Value) (x10 : Addr) (x11 : List Value) (x12 : Addr) (x13 : List Value) : Mem := [ar x0 .byte x1, ob x2 "com/example/clauseline/clauseline/model/Document" [("com/example/clauseline/clauseline/model/Document", "recent", "[Lcom/example/clauseline/clauseline/model/Line;", (.ref x3)), ("com/example/clauseline/clauseline/model/Document", "lines", "Ljava/util/List;", (.ref x4)), ("com/example/clauseline/clauseline/model/Document", "bytes", "[B", (.ref x0)), ("com/example/clauseline/clauseline/model/Document", "breaks", "[I", (.ref x5))], ar x3 (.object "com/example/clauseline/clauseline/model/Line") [x6, x7, (.ref x8), .null, .null, .null, .null, .null, .null, .null, .null, .null, .null, .null, .null, .null], ob x4 "com/example/clauseline/clauseline/model/Document$Lines" [("com/example/clauseline/clauseline/model/Document$Lines", "this$0", "Lcom/example/clauseline/clauseline/model/Document;", (.ref x2)), ("java/util/AbstractList", "modCount", "I", (.int (0 : Int32)))], ar x5 .int x9, ar x10 .int x11, ar x12 .int x13]
abbrev mem87 (x0 : Addr) (x1 : Addr) (x2 : Addr) (x3 : Addr) (x4 : Addr) (x5 : Value) (x6 : Value) (x7 : Addr) (x8 : List Value) (x9 : List Value) (x10 : Addr) (x11 : List Value) (x12 : Addr) (x13 : List Value) : Mem := [ob x0 "com/example/clauseline/clauseline/model/Document" [("com/example/clauseline/clauseline/model/Document", "recent", "[Lcom/example/clauseline/clauseline/model/Line;", (.ref x1)), ("com/example/clauseline/clauseline/model/Document", "lines", "Ljava/util/List;", (.ref x2)), ("com/example/clauseline/clauseline/model/Document", "bytes", "[B", (.ref x3)), ("com/example/clauseline/clauseline/model/Document", "breaks", "[I", (.ref x4))], ar x1 (.object "com/example/clauseline/clauseline/model/Line") [x5, x6, (.ref x7), .null, .null, .null, .null, .null, .null, .null, .null, .null, .null, .null, .null, .null], ob x2 "com/example/clauseline/clauseline/model/Document$Lines" [("com/example/clauseline/clauseline/model/Document$Lines", "this$0", "Lcom/example/clauseline/clauseline/model/Document;", (.ref x0)), ("java/util/AbstractList", "modCount", "I", (.int (0 : Int32)))], ar x3 .byte x8, ar x4 .int x9, ar x10 .int x11, ar x12 .int x13]
abbrev mem88 (x0 : Addr) (x1 : Addr) (x2 : Addr) (x3 : Addr) (x4 : Addr) (x5 : Value) (x6 : Value) (x7 : Value) (x8 : Value) (x9 : List Value) (x10 : List Value) (x11 : Addr) (x12 : List Value) (x13 : Addr) (x14 : List Value) : Mem := [ob x0 "com/example/clauseline/clauseline/model/Document" [("com/example/clauseline/clauseline/model/Document", "recent", "[Lcom/example/clauseline/clauseline/model/Line;", (.ref x1)), ("com/example/clauseline/clauseline/model/Document", "lines", "Ljava/util/List;", (.ref x2)), ("com/example/clauseline/clauseline/model/Document", "bytes", "[B", (.ref x3)), ("com/example/clauseline/clauseline/model/Document", "breaks", "[I", (.ref x4))], ar x1 (.object "com/example/clauseline/clauseline/model/Line") [x5, x6, x7, x8, .null, .null, .null, .null, .null, .null, .null, .null, .null, .null, .null, .null], ob x2 "com/example/clauseline/clauseline/model/Document$Lines" [("com/example/clauseline/clauseline/model/Document$Lines", "this$0", "Lcom/example/clauseline/clauseline/model/Document;", (.ref x0)), ("java/util/AbstractList", "modCount", "I", (.int (0 : Int32)))], ar x3 .byte x9, ar x4 .int x10, ar x11 .int x12, ar x13 .int x14]
abbrev mem89 (x0 : Addr) (x1 : Addr) (x2 : Addr) (x3 : Addr) (x4 : Addr) (x5 : Value) (x6 : Value) (x7 : Value) (x8 : List Value) (x9 : List Value) : Mem := [ob x0 "com/example/clauseline/clauseline/model/Document" [("com/example/clauseline/clauseline/model/Document", "recent", "[Lcom/example/clauseline/clauseline/model/Line;", (.ref x1)), ("com/example/clauseline/clauseline/model/Document", "lines", "Ljava/util/List;", (.ref x2)), ("com/example/clauseline/clauseline/model/Document", "bytes", "[B", (.ref x3)), ("com/example/clauseline/clauseline/model/Document", "breaks", "[I", (.ref x4))], ar x1 (.object "com/example/clauseline/clauseline/model/Line") [x5, x6, x7, .null, .null, .null, .null, .null, .null, .null, .null, .null, .null, .null, .null, .null], ob x2 "com/example/clauseline/clauseline/model/Document$Lines" [("com/example/clauseline/clauseline/model/Document$Lines", "this$0", "Lcom/example/clauseline/clauseline/model/Document;", (.ref x0)), ("java/util/AbstractList", "modCount", "I", (.int (0 : Int32)))], ar x3 .byte x8, ar x4 .int x9]
abbrev mem90 (x0 : Addr) (x1 : Addr) (x2 : Addr) (x3 : Addr) (x4 : Addr) (x5 : Value) (x6 : Value) (x7 : Value) (x8 : List Value) (x9 : List Value) (x10 : Addr) : Mem := [ob x0 "com/example/clauseline/clauseline/model/Document" [("com/example/clauseline/clauseline/model/Document", "recent", "[Lcom/example/clauseline/clauseline/model/Line;", (.ref x1)), ("com/example/clauseline/clauseline/model/Document", "lines", "Ljava/util/List;", (.ref x2)), ("com/example/clauseline/clauseline/model/Document", "bytes", "[B", (.ref x3)), ("com/example/clauseline/clauseline/model/Document", "breaks", "[I", (.ref x4))], ar x1 (.object "com/example/clauseline/clauseline/model/Line") [x5, x6, x7, .null, .null, .null, .null, .null, .null, .null, .null, .null, .null, .null, .null, .null], ob x2 "com/example/clauseline/clauseline/model/Document$Lines" [("com/example/clauseline/clauseline/model/Document$Lines", "this$0", "Lcom/example/clauseline/clauseline/model/Document;", (.ref x0)), ("java/util/AbstractList", "modCount", "I", (.int (0 : Int32)))], ar x3 .byte x8, ar x4 .int x9, ob x10 "com/example/clauseline/clauseline/model/Line" [("com/example/clauseline/clauseline/model/Line", "bytes", "[B", .null), ("com/example/clauseline/clauseline/model/Line", "start", "I", (.int (0 : Int32))), ("com/example/clauseline/clauseline/model/Line", "end", "I", (.int (0 : Int32)))]]
abbrev mem91 (x0 : Addr) (x1 : List Value) (x2 : Addr) (x3 : Addr) (x4 : Addr) (x5 : Addr) (x6 : Addr) (x7 : Value) (x8 : Value) (x9 : Value) (x10 : List Value) : Mem := [ar x0 .byte x1, ob x2 "com/example/clauseline/clauseline/model/Line" [("com/example/clauseline/clauseline/model/Line", "bytes", "[B", .null), ("com/example/clauseline/clauseline/model/Line", "start", "I", (.int (0 : Int32))), ("com/example/clauseline/clauseline/model/Line", "end", "I", (.int (0 : Int32)))], ob x3 "com/example/clauseline/clauseline/model/Document" [("com/example/clauseline/clauseline/model/Document", "recent", "[Lcom/example/clauseline/clauseline/model/Line;", (.ref x4)), ("com/example/clauseline/clauseline/model/Document", "lines", "Ljava/util/List;", (.ref x5)), ("com/example/clauseline/clauseline/model/Document", "bytes", "[B", (.ref x0)), ("com/example/clauseline/clauseline/model/Document", "breaks", "[I", (.ref x6))], ar x4 (.object "com/example/clauseline/clauseline/model/Line") [x7, x8, x9, .null, .null, .null, .null, .null, .null, .null, .null, .null, .null, .null, .null, .null], ob x5 "com/example/clauseline/clauseline/model/Document$Lines" [("com/example/clauseline/clauseline/model/Document$Lines", "this$0", "Lcom/example/clauseline/clauseline/model/Document;", (.ref x3)), ("java/util/AbstractList", "modCount", "I", (.int (0 : Int32)))], ar x6 .int x10]
abbrev mem92 (x0 : Addr) (x1 : Addr) (x2 : Addr) (x3 : Addr) (x4 : Addr) (x5 : Value) (x6 : Value) (x7 : Value) (x8 : List Value) : Mem := [ob x0 "com/example/clauseline/clauseline/model/Document" [("com/example/clauseline/clauseline/model/Document", "recent", "[Lcom/example/clauseline/clauseline/model/Line;", (.ref x1)), ("com/example/clauseline/clauseline/model/Document", "lines", "Ljava/util/List;", (.ref x2)), ("com/example/clauseline/clauseline/model/Document", "bytes", "[B", (.ref x3)), ("com/example/clauseline/clauseline/model/Document", "breaks", "[I", (.ref x4))], ar x1 (.object "com/example/clauseline/clauseline/model/Line") [x5, x6, x7, .null, .null, .null, .null, .null, .null, .null, .null, .null, .null, .null, .null, .null], ob x2 "com/example/clauseline/clauseline/model/Document$Lines" [("com/example/clauseline/clauseline/model/Document$Lines", "this$0", "Lcom/example/clauseline/clauseline/model/Document;", (.ref x0)), ("java/util/AbstractList", "modCount", "I", (.int (0 : Int32)))], ar x4 .int x8]
abbrev mem93 (x0 : Addr) (x1 : List Value) (x2 : Addr) (x3 : Int32) (x4 : Int32) (x5 : Int32) (x6 : Addr) (x7 : Addr) (x8 : Addr) (x9 : Addr) (x10 : Value) (x11 : Value) (x12 : Value) (x13 : List Value) : Mem := [ar x0 .byte x1, ob x2 "com/example/clauseline/clauseline/model/Line" [("com/example/clauseline/clauseline/model/Line", "bytes", "[B", (.ref x0)), ("com/example/clauseline/clauseline/model/Line", "start", "I", (.int (x3 + (1 : Int32)))), ("com/example/clauseline/clauseline/model/Line", "end", "I", (.int (trim (x3 + (1 : Int32)) x4 x5)))], ob x6 "com/example/clauseline/clauseline/model/Document" [("com/example/clauseline/clauseline/model/Document", "recent", "[Lcom/example/clauseline/clauseline/model/Line;", (.ref x7)), ("com/example/clauseline/clauseline/model/Document", "lines", "Ljava/util/List;", (.ref x8)), ("com/example/clauseline/clauseline/model/Document", "bytes", "[B", (.ref x0)), ("com/example/clauseline/clauseline/model/Document", "breaks", "[I", (.ref x9))], ar x7 (.object "com/example/clauseline/clauseline/model/Line") [x10, x11, x12, .null, .null, .null, .null, .null, .null, .null, .null, .null, .null, .null, .null, .null], ob x8 "com/example/clauseline/clauseline/model/Document$Lines" [("com/example/clauseline/clauseline/model/Document$Lines", "this$0", "Lcom/example/clauseline/clauseline/model/Document;", (.ref x6)), ("java/util/AbstractList", "modCount", "I", (.int (0 : Int32)))], ar x9 .int x13]
abbrev mem94 (x0 : Addr) (x1 : List Value) (x2 : Addr) (x3 : Int32) (x4 : Int32) (x5 : Int32) (x6 : Addr) (x7 : Addr) (x8 : Addr) (x9 : Addr) (x10 : Value) (x11 : Value) (x12 : Value) (x13 : List Value) : Mem := [ar x0 .byte x1, ob x2 "com/example/clauseline/clauseline/model/Line" [("com/example/clauseline/clauseline/model/Line", "bytes", "[B", (.ref x0)), ("com/example/clauseline/clauseline/model/Line", "start", "I", (.int (x3 + (1 : Int32)))), ("com/example/clauseline/clauseline/model/Line", "end", "I", (.int (trim (x3 + (1 : Int32)) x4 x5)))], ob x6 "com/example/clauseline/clauseline/model/Document" [("com/example/clauseline/clauseline/model/Document", "recent", "[Lcom/example/clauseline/clauseline/model/Line;", (.ref x7)), ("com/example/clauseline/clauseline/model/Document", "lines", "Ljava/util/List;", (.ref x8)), ("com/example/clauseline/clauseline/model/Document", "bytes", "[B", (.ref x0)), ("com/example/clauseline/clauseline/model/Document", "breaks", "[I", (.ref x9))], ar x7 (.object "com/example/clauseline/clauseline/model/Line") [x10, x11, x12, (.ref x2), .null, .null, .null, .null, .null, .null, .null, .null, .null, .null, .null, .null], ob x8 "com/example/clauseline/clauseline/model/Document$Lines" [("com/example/clauseline/clauseline/model/Document$Lines", "this$0", "Lcom/example/clauseline/clauseline/model/Document;", (.ref x6)), ("java/util/AbstractList", "modCount", "I", (.int (0 : Int32)))], ar x9 .int x13]
abbrev mem95 (x0 : Addr) (x1 : List Value) (x2 : Addr) (x3 : Int32) (x4 : Int32) (x5 : Int32) (x6 : Addr) (x7 : Addr) (x8 : Addr) (x9 : Addr) (x10 : Value) (x11 : Value) (x12 : Value) (x13 : List Value) (x14 : Addr) (x15 : List Value) (x16 : Addr) (x17 : List Value) : Mem := [ar x0 .byte x1, ob x2 "com/example/clauseline/clauseline/model/Line" [("com/example/clauseline/clauseline/model/Line", "bytes", "[B", (.ref x0)), ("com/example/clauseline/clauseline/model/Line", "start", "I", (.int (x3 + (1 : Int32)))), ("com/example/clauseline/clauseline/model/Line", "end", "I", (.int (trim (x3 + (1 : Int32)) x4 x5)))], ob x6 "com/example/clauseline/clauseline/model/Document" [("com/example/clauseline/clauseline/model/Document", "recent", "[Lcom/example/clauseline/clauseline/model/Line;", (.ref x7)), ("com/example/clauseline/clauseline/model/Document", "lines", "Ljava/util/List;", (.ref x8)), ("com/example/clauseline/clauseline/model/Document", "bytes", "[B", (.ref x0)), ("com/example/clauseline/clauseline/model/Document", "breaks", "[I", (.ref x9))], ar x7 (.object "com/example/clauseline/clauseline/model/Line") [x10, x11, x12, (.ref x2), .null, .null, .null, .null, .null, .null, .null, .null, .null, .null, .null, .null], ob x8 "com/example/clauseline/clauseline/model/Document$Lines" [("com/example/clauseline/clauseline/model/Document$Lines", "this$0", "Lcom/example/clauseline/clauseline/model/Document;", (.ref x6)), ("java/util/AbstractList", "modCount", "I", (.int (0 : Int32)))], ar x9 .int x13, ar x14 .int x15, ar x16 .int x17]
abbrev mem96 (x0 : Addr) (x1 : Addr) (x2 : Addr) (x3 : Addr) (x4 : Addr) (x5 : Value) (x6 : Value) (x7 : Value) (x8 : Addr) (x9 : List Value) (x10 : Addr) (x11 : List Value) (x12 : Addr) (x13 : List Value) : Mem := [ob x0 "com/example/clauseline/clauseline/model/Document" [("com/example/clauseline/clauseline/model/Document", "recent", "[Lcom/example/clauseline/clauseline/model/Line;", (.ref x1)), ("com/example/clauseline/clauseline/model/Document", "lines", "Ljava/util/List;", (.ref x2)), ("com/example/clauseline/clauseline/model/Document", "bytes", "[B", (.ref x3)), ("com/example/clauseline/clauseline/model/Document", "breaks", "[I", (.ref x4))], ar x1 (.object "com/example/clauseline/clauseline/model/Line") [x5, x6, x7, (.ref x8), .null, .null, .null, .null, .null, .null, .null, .null, .null, .null, .null, .null], ob x2 "com/example/clauseline/clauseline/model/Document$Lines" [("com/example/clauseline/clauseline/model/Document$Lines", "this$0", "Lcom/example/clauseline/clauseline/model/Document;", (.ref x0)), ("java/util/AbstractList", "modCount", "I", (.int (0 : Int32)))], ar x4 .int x9, ar x10 .int x11, ar x12 .int x13]
abbrev mem97 (x0 : Addr) (x1 : List Value) (x2 : Addr) (x3 : Addr) (x4 : Addr) (x5 : Addr) (x6 : Value) (x7 : Value) (x8 : Value) (x9 : Addr) (x10 : List Value) (x11 : Addr) (x12 : List Value) (x13 : Addr) (x14 : List Value) : Mem := [ar x0 .byte x1, ob x2 "com/example/clauseline/clauseline/model/Document" [("com/example/clauseline/clauseline/model/Document", "recent", "[Lcom/example/clauseline/clauseline/model/Line;", (.ref x3)), ("com/example/clauseline/clauseline/model/Document", "lines", "Ljava/util/List;", (.ref x4)), ("com/example/clauseline/clauseline/model/Document", "bytes", "[B", (.ref x0)), ("com/example/clauseline/clauseline/model/Document", "breaks", "[I", (.ref x5))], ar x3 (.object "com/example/clauseline/clauseline/model/Line") [x6, x7, x8, (.ref x9), .null, .null, .null, .null, .null, .null, .null, .null, .null, .null, .null, .null], ob x4 "com/example/clauseline/clauseline/model/Document$Lines" [("com/example/clauseline/clauseline/model/Document$Lines", "this$0", "Lcom/example/clauseline/clauseline/model/Document;", (.ref x2)), ("java/util/AbstractList", "modCount", "I", (.int (0 : Int32)))], ar x5 .int x10, ar x11 .int x12, ar x13 .int x14]
abbrev mem98 (x0 : Addr) (x1 : Addr) (x2 : Addr) (x3 : Addr) (x4 : Addr) (x5 : Value) (x6 : Value) (x7 : Value) (x8 : Addr) (x9 : List Value) (x10 : List Value) (x11 : Addr) (x12 : List Value) (x13 : Addr) (x14 : List Value) : Mem := [ob x0 "com/example/clauseline/clauseline/model/Document" [("com/example/clauseline/clauseline/model/Document", "recent", "[Lcom/example/clauseline/clauseline/model/Line;", (.ref x1)), ("com/example/clauseline/clauseline/model/Document", "lines", "Ljava/util/List;", (.ref x2)), ("com/example/clauseline/clauseline/model/Document", "bytes", "[B", (.ref x3)), ("com/example/clauseline/clauseline/model/Document", "breaks", "[I", (.ref x4))], ar x1 (.object "com/example/clauseline/clauseline/model/Line") [x5, x6, x7, (.ref x8), .null, .null, .null, .null, .null, .null, .null, .null, .null, .null, .null, .null], ob x2 "com/example/clauseline/clauseline/model/Document$Lines" [("com/example/clauseline/clauseline/model/Document$Lines", "this$0", "Lcom/example/clauseline/clauseline/model/Document;", (.ref x0)), ("java/util/AbstractList", "modCount", "I", (.int (0 : Int32)))], ar x3 .byte x9, ar x4 .int x10, ar x11 .int x12, ar x13 .int x14]
abbrev mem99 (x0 : Addr) (x1 : Addr) (x2 : Addr) (x3 : Addr) (x4 : Addr) (x5 : Addr) (x6 : List Value) (x7 : Addr) (x8 : List Value) : Mem := [ob x0 "com/example/clauseline/clauseline/model/Document" [("com/example/clauseline/clauseline/model/Document", "recent", "[Lcom/example/clauseline/clauseline/model/Line;", (.ref x1)), ("com/example/clauseline/clauseline/model/Document", "lines", "Ljava/util/List;", (.ref x2)), ("com/example/clauseline/clauseline/model/Document", "bytes", "[B", (.ref x3)), ("com/example/clauseline/clauseline/model/Document", "breaks", "[I", (.ref x4))], ar x1 (.object "com/example/clauseline/clauseline/model/Line") [.null, .null, .null, .null, .null, .null, .null, .null, .null, .null, .null, .null, .null, .null, .null, .null], ob x2 "com/example/clauseline/clauseline/model/Document$Lines" [("com/example/clauseline/clauseline/model/Document$Lines", "this$0", "Lcom/example/clauseline/clauseline/model/Document;", (.ref x0)), ("java/util/AbstractList", "modCount", "I", (.int (0 : Int32)))], ar x3 .byte [], ar x4 .int (bk0), ar x5 .int x6, ar x7 .int x8]
abbrev mem100 (x0 : Addr) (x1 : Addr) (x2 : Addr) (x3 : Addr) (x4 : Addr) (x5 : Int32) (x6 : Addr) (x7 : List Value) (x8 : Addr) (x9 : List Value) : Mem := [ob x0 "com/example/clauseline/clauseline/model/Document" [("com/example/clauseline/clauseline/model/Document", "recent", "[Lcom/example/clauseline/clauseline/model/Line;", (.ref x1)), ("com/example/clauseline/clauseline/model/Document", "lines", "Ljava/util/List;", (.ref x2)), ("com/example/clauseline/clauseline/model/Document", "bytes", "[B", (.ref x3)), ("com/example/clauseline/clauseline/model/Document", "breaks", "[I", (.ref x4))], ar x1 (.object "com/example/clauseline/clauseline/model/Line") [.null, .null, .null, .null, .null, .null, .null, .null, .null, .null, .null, .null, .null, .null, .null, .null], ob x2 "com/example/clauseline/clauseline/model/Document$Lines" [("com/example/clauseline/clauseline/model/Document$Lines", "this$0", "Lcom/example/clauseline/clauseline/model/Document;", (.ref x0)), ("java/util/AbstractList", "modCount", "I", (.int (0 : Int32)))], ar x3 .byte [(.int x5)], ar x4 .int (bk1 x5), ar x6 .int x7, ar x8 .int x9]
abbrev mem101 (x0 : Addr) (x1 : Addr) (x2 : Addr) (x3 : Addr) (x4 : Addr) (x5 : Int32) (x6 : Int32) (x7 : Addr) (x8 : List Value) (x9 : Addr) (x10 : List Value) : Mem := [ob x0 "com/example/clauseline/clauseline/model/Document" [("com/example/clauseline/clauseline/model/Document", "recent", "[Lcom/example/clauseline/clauseline/model/Line;", (.ref x1)), ("com/example/clauseline/clauseline/model/Document", "lines", "Ljava/util/List;", (.ref x2)), ("com/example/clauseline/clauseline/model/Document", "bytes", "[B", (.ref x3)), ("com/example/clauseline/clauseline/model/Document", "breaks", "[I", (.ref x4))], ar x1 (.object "com/example/clauseline/clauseline/model/Line") [.null, .null, .null, .null, .null, .null, .null, .null, .null, .null, .null, .null, .null, .null, .null, .null], ob x2 "com/example/clauseline/clauseline/model/Document$Lines" [("com/example/clauseline/clauseline/model/Document$Lines", "this$0", "Lcom/example/clauseline/clauseline/model/Document;", (.ref x0)), ("java/util/AbstractList", "modCount", "I", (.int (0 : Int32)))], ar x3 .byte [(.int x5), (.int x6)], ar x4 .int (bk2 x5 x6), ar x7 .int x8, ar x9 .int x10]
abbrev mem102 (x0 : Addr) (x1 : Addr) (x2 : Addr) (x3 : Addr) (x4 : Addr) (x5 : Int32) (x6 : Int32) (x7 : Int32) (x8 : Addr) (x9 : List Value) (x10 : Addr) (x11 : List Value) : Mem := [ob x0 "com/example/clauseline/clauseline/model/Document" [("com/example/clauseline/clauseline/model/Document", "recent", "[Lcom/example/clauseline/clauseline/model/Line;", (.ref x1)), ("com/example/clauseline/clauseline/model/Document", "lines", "Ljava/util/List;", (.ref x2)), ("com/example/clauseline/clauseline/model/Document", "bytes", "[B", (.ref x3)), ("com/example/clauseline/clauseline/model/Document", "breaks", "[I", (.ref x4))], ar x1 (.object "com/example/clauseline/clauseline/model/Line") [.null, .null, .null, .null, .null, .null, .null, .null, .null, .null, .null, .null, .null, .null, .null, .null], ob x2 "com/example/clauseline/clauseline/model/Document$Lines" [("com/example/clauseline/clauseline/model/Document$Lines", "this$0", "Lcom/example/clauseline/clauseline/model/Document;", (.ref x0)), ("java/util/AbstractList", "modCount", "I", (.int (0 : Int32)))], ar x3 .byte [(.int x5), (.int x6), (.int x7)], ar x4 .int (bk3 x5 x6 x7), ar x8 .int x9, ar x10 .int x11]
abbrev mem103 (x0 : Addr) (x1 : Addr) (x2 : Addr) (x3 : Addr) (x4 : Addr) (x5 : Int32) (x6 : Int32) (x7 : Int32) (x8 : Int32) (x9 : Addr) (x10 : List Value) (x11 : Addr) (x12 : List Value) : Mem := [ob x0 "com/example/clauseline/clauseline/model/Document" [("com/example/clauseline/clauseline/model/Document", "recent", "[Lcom/example/clauseline/clauseline/model/Line;", (.ref x1)), ("com/example/clauseline/clauseline/model/Document", "lines", "Ljava/util/List;", (.ref x2)), ("com/example/clauseline/clauseline/model/Document", "bytes", "[B", (.ref x3)), ("com/example/clauseline/clauseline/model/Document", "breaks", "[I", (.ref x4))], ar x1 (.object "com/example/clauseline/clauseline/model/Line") [.null, .null, .null, .null, .null, .null, .null, .null, .null, .null, .null, .null, .null, .null, .null, .null], ob x2 "com/example/clauseline/clauseline/model/Document$Lines" [("com/example/clauseline/clauseline/model/Document$Lines", "this$0", "Lcom/example/clauseline/clauseline/model/Document;", (.ref x0)), ("java/util/AbstractList", "modCount", "I", (.int (0 : Int32)))], ar x3 .byte [(.int x5), (.int x6), (.int x7), (.int x8)], ar x4 .int (bk4 x5 x6 x7 x8), ar x9 .int x10, ar x11 .int x12]

theorem d1_0 : decode method_2_code 0 = .ok (.iload_n 0, 1) := by decide +kernel
theorem d1_1 : decode method_2_code 1 = .ok (.iconst 3, 1) := by decide +kernel
theorem d1_2 : decode method_2_code 2 = .ok (.iand, 1) := by decide +kernel
theorem d1_3 : decode method_2_code 3 = .ok (.istore_n 1, 1) := by decide +kernel
theorem d1_4 : decode method_2_code 4 = .ok (.iload_n 1, 1) := by decide +kernel
theorem d1_5 : decode method_2_code 5 = .ok (.ifCond .ne 6, 3) := by decide +kernel
theorem d1_8 : decode method_2_code 8 = .ok (.bipush 10, 2) := by decide +kernel
theorem d1_10 : decode method_2_code 10 = .ok (.ireturn, 1) := by decide +kernel
theorem d1_11 : decode method_2_code 11 = .ok (.iload_n 1, 1) := by decide +kernel
theorem d1_12 : decode method_2_code 12 = .ok (.iconst 1, 1) := by decide +kernel
theorem d1_13 : decode method_2_code 13 = .ok (.if_icmp .ne 6, 3) := by decide +kernel
theorem d1_16 : decode method_2_code 16 = .ok (.bipush 13, 2) := by decide +kernel
theorem d1_18 : decode method_2_code 18 = .ok (.ireturn, 1) := by decide +kernel
theorem d1_19 : decode method_2_code 19 = .ok (.iload_n 0, 1) := by decide +kernel
theorem d1_20 : decode method_2_code 20 = .ok (.iconst 2, 1) := by decide +kernel
theorem d1_21 : decode method_2_code 21 = .ok (.ishr, 1) := by decide +kernel
theorem d1_22 : decode method_2_code 22 = .ok (.i2b, 1) := by decide +kernel
theorem d1_23 : decode method_2_code 23 = .ok (.ireturn, 1) := by decide +kernel
theorem pn1 : plainFor (⟨"com/example/clauseline/clauseline/model/DocumentOfPinLaw", "draw", "(I)B"⟩ : MethodName) = true := by first | (apply plainFor_of_name; simp [plainName, overriddenIn]; done) | decide +kernel
def B1 : Bdy := (⟨"com/example/clauseline/clauseline/model/DocumentOfPinLaw", "draw", "(I)B"⟩, method_2_code, 2, (some .byte), ({ frames := 0, cells := 0, slots := 0, locals := 0 } : Room))
set_option maxRecDepth 65536 in
set_option maxHeartbeats 4000000 in
theorem m_draw (Z : State) (a0 : Array Value) (hw : ∀ d ∈ tables_1, d.before a0 Z = true) (h0 : Heap) (ds : Mem) (p1 : Int32) :
    Met B1 Z a0 h0 #[(.int p1)] ds (fun v ds' => ∃ z : Int32, v = some (.int z) ∧ ds = ds' ∧ nar .byte z = z) := by
  refine Met.of pn1 (ls := #[.val (.int p1), .unset]) (fun m => by first | (simp [entryFrame, mkF, argsToLocals, Value.category, B1]; done) | rfl) ?_
  show Go B1 Z a0 h0 _ 0 0 ds 0 #[.val (.int p1), .unset] []
  refine go_iloadN 1 rfl d1_0 rfl ?_
  refine go_iconst (3 : Int32) 2 rfl d1_1 rfl ?_
  refine go_iand 3 rfl d1_2 rfl ?_
  refine go_istoreN #[.val (.int p1), .val (.int (p1 &&& (3 : Int32)))] 4 rfl d1_3 rfl rfl ?_
  refine go_iloadN 5 rfl d1_4 rfl ?_
  refine go_if 11 8 rfl (by decide) rfl d1_5 rfl (fun (hc5_0 : (p1 &&& (3 : Int32)).toInt ≠ 0) => ?_) (fun (hc5_0 : ¬ ((p1 &&& (3 : Int32)).toInt ≠ 0)) => ?_)
  · refine go_iloadN 12 rfl d1_11 rfl ?_
    refine go_iconst (1 : Int32) 13 rfl d1_12 rfl ?_
    refine go_icmp 19 16 rfl (by decide) rfl d1_13 rfl (fun (hc13_1 : (p1 &&& (3 : Int32)).toInt ≠ (1 : Int)) => ?_) (fun (hc13_1 : ¬ ((p1 &&& (3 : Int32)).toInt ≠ (1 : Int))) => ?_)
    · refine go_iloadN 20 rfl d1_19 rfl ?_
      refine go_iconst (2 : Int32) 21 rfl d1_20 rfl ?_
      refine go_ishr 22 rfl d1_21 rfl ?_
      refine go_i2b 23 rfl d1_22 rfl ?_
      exact go_ireturn d1_23 rfl (Or.inr (Or.inr (Or.inl rfl))) rfl (congrArg Value.int (nar_b _)) (by decide) (by decide) ⟨_, rfl, rfl, nar_b _⟩
    · refine go_bipush (13 : Int32) 18 rfl d1_16 rfl ?_
      exact go_ireturn d1_18 rfl (Or.inr (Or.inr (Or.inl rfl))) rfl rfl (by decide) (by decide) ⟨_, rfl, rfl, rfl⟩
  · refine go_bipush (10 : Int32) 10 rfl d1_8 rfl ?_
    exact go_ireturn d1_10 rfl (Or.inr (Or.inr (Or.inl rfl))) rfl rfl (by decide) (by decide) ⟨_, rfl, rfl, rfl⟩
theorem d12_0 : decode method_3_code 0 = .ok (.aload_n 0, 1) := by decide +kernel
theorem d12_1 : decode method_3_code 1 = .ok (.iload_n 2, 1) := by decide +kernel
theorem d12_2 : decode method_3_code 2 = .ok (.iload_n 3, 1) := by decide +kernel
theorem d12_3 : decode method_3_code 3 = .ok (.iastore, 1) := by decide +kernel
theorem d12_4 : decode method_3_code 4 = .ok (.aload_n 1, 1) := by decide +kernel
theorem d12_5 : decode method_3_code 5 = .ok (.iload_n 2, 1) := by decide +kernel
theorem d12_6 : decode method_3_code 6 = .ok (.iload 4, 2) := by decide +kernel
theorem d12_8 : decode method_3_code 8 = .ok (.iload_n 3, 1) := by decide +kernel
theorem d12_9 : decode method_3_code 9 = .ok (.if_icmp .le 15, 3) := by decide +kernel
theorem d12_12 : decode method_3_code 12 = .ok (.iload 5, 2) := by decide +kernel
theorem d12_14 : decode method_3_code 14 = .ok (.ifCond .eq 10, 3) := by decide +kernel
theorem d12_17 : decode method_3_code 17 = .ok (.iload 4, 2) := by decide +kernel
theorem d12_19 : decode method_3_code 19 = .ok (.iconst 1, 1) := by decide +kernel
theorem d12_20 : decode method_3_code 20 = .ok (.isub, 1) := by decide +kernel
theorem d12_21 : decode method_3_code 21 = .ok (.goto 5, 3) := by decide +kernel
theorem d12_24 : decode method_3_code 24 = .ok (.iload 4, 2) := by decide +kernel
theorem d12_26 : decode method_3_code 26 = .ok (.iastore, 1) := by decide +kernel
theorem d12_27 : decode method_3_code 27 = .ok (.iload_n 2, 1) := by decide +kernel
theorem d12_28 : decode method_3_code 28 = .ok (.iconst 1, 1) := by decide +kernel
theorem d12_29 : decode method_3_code 29 = .ok (.iadd, 1) := by decide +kernel
theorem d12_30 : decode method_3_code 30 = .ok (.ireturn, 1) := by decide +kernel
theorem pn12 : plainFor (⟨"com/example/clauseline/clauseline/model/DocumentOfPinLaw", "close", "([I[IIIIZ)I"⟩ : MethodName) = true := by first | (apply plainFor_of_name; simp [plainName, overriddenIn]; done) | decide +kernel
def B12 : Bdy := (⟨"com/example/clauseline/clauseline/model/DocumentOfPinLaw", "close", "([I[IIIIZ)I"⟩, method_3_code, 6, (some .int), ({ frames := 0, cells := 0, slots := 0, locals := 0 } : Room))
set_option maxRecDepth 65536 in
set_option maxHeartbeats 4000000 in
theorem m_close (Z : State) (a0 : Array Value) (hw : ∀ d ∈ tables_1, d.before a0 Z = true) (h0 : Heap) (a1 a2 : Addr) (v91 v92 : List Value) (p1 p2 p3 p4 p5 : Int32) (hc : 0 ≤ p1.toInt ∧ p1.toInt < 5) (hE : v91.length = 5) (hF : v92.length = 5) (hz : p2.toInt < p3.toInt → (p4.toInt ≠ 0 ↔ p5.toInt = 13)) :
    Met B12 Z a0 h0 #[(.ref a1), (.ref a2), (.int p1), (.int p2), (.int p3), (.int p4)] [ar a1 .int v91, ar a2 .int v92] (Ret (some (.int (p1 + (1 : Int32)))) [ar a1 .int (v91.set p1.toNatClampNeg (.int p2)), ar a2 .int (v92.set p1.toNatClampNeg (.int (trim p2 p3 p5)))]) := by
  refine Met.of pn12 (ls := #[.val (.ref a1), .val (.ref a2), .val (.int p1), .val (.int p2), .val (.int p3), .val (.int p4)]) (fun m => by first | (simp [entryFrame, mkF, argsToLocals, Value.category, B12]; done) | rfl) ?_
  show Go B12 Z a0 h0 _ 0 0 [ar a1 .int v91, ar a2 .int v92] 0 #[.val (.ref a1), .val (.ref a2), .val (.int p1), .val (.int p2), .val (.int p3), .val (.int p4)] []
  refine go_aloadN 1 rfl d12_0 rfl rfl ?_
  refine go_iloadN 2 rfl d12_1 rfl ?_
  refine go_iloadN 3 rfl d12_2 rfl ?_
  refine go_iastore 0 4 rfl d12_3 rfl rfl (notneg hc.1) (by rw [hE]; exact clampLt (by omega) (by decide)) ?_
  show Go B12 Z a0 h0 _ 0 0 [ar a1 .int (v91.set p1.toNatClampNeg (.int p2)), ar a2 .int v92] 4 #[.val (.ref a1), .val (.ref a2), .val (.int p1), .val (.int p2), .val (.int p3), .val (.int p4)] []
  refine go_aloadN 5 rfl d12_4 rfl rfl ?_
  refine go_iloadN 6 rfl d12_5 rfl ?_
  refine go_iload 8 rfl d12_6 rfl ?_
  refine go_iloadN 9 rfl d12_8 rfl ?_
  refine go_icmp 24 12 rfl (by decide) rfl d12_9 rfl (fun (hc9_2 : p3.toInt ≤ p2.toInt) => ?_) (fun (hc9_2 : ¬ (p3.toInt ≤ p2.toInt)) => ?_)
  · refine go_iload 26 rfl d12_24 rfl ?_
    refine go_iastore 1 27 rfl d12_26 rfl rfl (notneg hc.1) (by rw [hF]; exact clampLt (by omega) (by decide)) ?_
    show Go B12 Z a0 h0 _ 0 0 [ar a1 .int (v91.set p1.toNatClampNeg (.int p2)), ar a2 .int (v92.set p1.toNatClampNeg (.int p3))] 27 #[.val (.ref a1), .val (.ref a2), .val (.int p1), .val (.int p2), .val (.int p3), .val (.int p4)] []
    refine go_iloadN 28 rfl d12_27 rfl ?_
    refine go_iconst (1 : Int32) 29 rfl d12_28 rfl ?_
    refine go_iadd 30 rfl d12_29 rfl ?_
    exact go_ireturn d12_30 rfl (Or.inl rfl) rfl rfl (by decide) (by decide) (by rw [trim_a (by omega)]; exact ⟨rfl, rfl⟩)
  · refine go_iload 14 rfl d12_12 rfl ?_
    refine go_if 24 17 rfl (by decide) rfl d12_14 rfl (fun (hc14_3 : p4.toInt = 0) => ?_) (fun (hc14_3 : ¬ (p4.toInt = 0)) => ?_)
    · refine go_iload 26 rfl d12_24 rfl ?_
      refine go_iastore 1 27 rfl d12_26 rfl rfl (notneg hc.1) (by rw [hF]; exact clampLt (by omega) (by decide)) ?_
      show Go B12 Z a0 h0 _ 0 0 [ar a1 .int (v91.set p1.toNatClampNeg (.int p2)), ar a2 .int (v92.set p1.toNatClampNeg (.int p3))] 27 #[.val (.ref a1), .val (.ref a2), .val (.int p1), .val (.int p2), .val (.int p3), .val (.int p4)] []
      refine go_iloadN 28 rfl d12_27 rfl ?_
      refine go_iconst (1 : Int32) 29 rfl d12_28 rfl ?_
      refine go_iadd 30 rfl d12_29 rfl ?_
      exact go_ireturn d12_30 rfl (Or.inl rfl) rfl rfl (by decide) (by decide) (by rw [trim_b (by have := hz (by omega); omega)]; exact ⟨rfl, rfl⟩)
    · refine go_iload 19 rfl d12_17 rfl ?_
      refine go_iconst (1 : Int32) 20 rfl d12_19 rfl ?_
      refine go_isub 21 rfl d12_20 rfl ?_
      refine go_goto 26 (by decide) rfl d12_21 ?_
      refine go_iastore 1 27 rfl d12_26 rfl rfl (notneg hc.1) (by rw [hF]; exact clampLt (by omega) (by decide)) ?_
      show Go B12 Z a0 h0 _ 0 0 [ar a1 .int (v91.set p1.toNatClampNeg (.int p2)), ar a2 .int (v92.set p1.toNatClampNeg (.int (p3 - (1 : Int32))))] 27 #[.val (.ref a1), .val (.ref a2), .val (.int p1), .val (.int p2), .val (.int p3), .val (.int p4)] []
      refine go_iloadN 28 rfl d12_27 rfl ?_
      refine go_iconst (1 : Int32) 29 rfl d12_28 rfl ?_
      refine go_iadd 30 rfl d12_29 rfl ?_
      exact go_ireturn d12_30 rfl (Or.inl rfl) rfl rfl (by decide) (by decide) (by rw [trim_c (by omega) (by have := hz (by omega); omega)]; exact ⟨rfl, rfl⟩)
theorem pn0 : plainFor (⟨"com/example/clauseline/clauseline/model/DocumentOfPinLaw", "law", "(IIIII)Z"⟩ : MethodName) = true := by first | (apply plainFor_of_name; simp [plainName, overriddenIn]; done) | decide +kernel
def B0 : Bdy := (x, code, maxLocals, ret, room_1)
set_option maxRecDepth 65536 in
set_option maxHeartbeats 4000000 in
theorem seg0 (Z : State) (a0 : Array Value) (hw : ∀ d ∈ tables_1, d.before a0 Z = true) (h0 : Heap) (p1 p2 p3 p4 p5 p6 z0 z1 z2 z3 : Int32) (a1 a2 a3 : Addr) (v94 v91 v92 : List Value) (p7 p8 : Int32) (hc : 0 ≤ p7.toInt ∧ p7.toInt ≤ 0) (hE : v91.length = 5) (hF : v92.length = 5) (hst : p8.toInt = 0)
    (K : Go B0 Z a0 h0 (fun v _ => v = some (.int 1)) 3 14 [ar a1 .byte v94, ar a2 .int (if (0 : Int) < p6.toInt ∧ z0.toInt = 10 then v91.set p7.toNatClampNeg (.int p8) else v91), ar a3 .int (if (0 : Int) < p6.toInt ∧ z0.toInt = 10 then v92.set p7.toNatClampNeg (.int (trim p8 (0 : Int32) z0)) else v92)] 189 #[.val (.int p1), .val (.int p2), .val (.int p3), .val (.int p4), .val (.int p5), .val (.int p6), .val (.int z0), .val (.int z1), .val (.int z2), .val (.int z3), .val (.ref a1), .val (.ref a2), .val (.ref a3), .val (.int (if (0 : Int) < p6.toInt ∧ z0.toInt = 10 then p7 + (1 : Int32) else p7)), .val (.int (if (0 : Int) < p6.toInt ∧ z0.toInt = 10 then (1 : Int32) else p8)), .unset, .unset] []) :
    Go B0 Z a0 h0 (fun v _ => v = some (.int 1)) 3 14 [ar a1 .byte v94, ar a2 .int v91, ar a3 .int v92] 159 #[.val (.int p1), .val (.int p2), .val (.int p3), .val (.int p4), .val (.int p5), .val (.int p6), .val (.int z0), .val (.int z1), .val (.int z2), .val (.int z3), .val (.ref a1), .val (.ref a2), .val (.ref a3), .val (.int p7), .val (.int p8), .unset, .unset] [] := by
  show Go B0 Z a0 h0 _ 3 14 [ar a1 .byte v94, ar a2 .int v91, ar a3 .int v92] 159 #[.val (.int p1), .val (.int p2), .val (.int p3), .val (.int p4), .val (.int p5), .val (.int p6), .val (.int z0), .val (.int z1), .val (.int z2), .val (.int z3), .val (.ref a1), .val (.ref a2), .val (.ref a3), .val (.int p7), .val (.int p8), .unset, .unset] []
  refine go_iload 161 rfl at_159 rfl ?_
  refine go_if 189 164 rfl (by decide) rfl at_161 rfl (fun (hc161_4 : p6.toInt ≤ 0) => ?_) (fun (hc161_4 : ¬ (p6.toInt ≤ 0)) => ?_)
  · have hp : ¬ ((0 : Int) < p6.toInt ∧ z0.toInt = 10) := by omega
    simp only [if_neg hp] at K
    exact K
  · refine go_iload 166 rfl at_164 rfl ?_
    refine go_bipush (10 : Int32) 168 rfl at_166 rfl ?_
    refine go_icmp 189 171 rfl (by decide) rfl at_168 rfl (fun (hc168_5 : z0.toInt ≠ (10 : Int)) => ?_) (fun (hc168_5 : ¬ (z0.toInt ≠ (10 : Int))) => ?_)
    · have hp : ¬ ((0 : Int) < p6.toInt ∧ z0.toInt = 10) := by omega
      simp only [if_neg hp] at K
      exact K
    · refine go_aload 173 rfl at_171 rfl rfl ?_
      refine go_aload 175 rfl at_173 rfl rfl ?_
      refine go_iload 177 rfl at_175 rfl ?_
      refine go_iload 179 rfl at_177 rfl ?_
      refine go_iconst (0 : Int32) 180 rfl at_179 rfl ?_
      refine go_iconst (0 : Int32) 181 rfl at_180 rfl ?_
      refine Go.front 2 (Nat.le_of_ble_eq_true rfl) ?_
      refine Go.front 2 (Nat.le_of_ble_eq_true rfl) ?_
      show Go B0 Z a0 h0 _ 3 14 [ar a2 .int v91, ar a3 .int v92, ar a1 .byte v94] 181 #[.val (.int p1), .val (.int p2), .val (.int p3), .val (.int p4), .val (.int p5), .val (.int p6), .val (.int z0), .val (.int z1), .val (.int z2), .val (.int z3), .val (.ref a1), .val (.ref a2), .val (.ref a3), .val (.int p7), .val (.int p8), .unset, .unset] [(.int (0 : Int32)), (.int (0 : Int32)), (.int p8), (.int p7), (.ref a3), (.ref a2)]
      refine go_callS 184 rfl at_181 (wd hw 74 rfl) (wd hw 75 rfl) (wd hw 3 rfl) (wd hw 76 rfl) (by decide) (Met.frame [ar a1 .byte v94] (m_close Z a0 hw h0 a2 a3 v91 v92 p7 p8 (0 : Int32) (0 : Int32) z0 (by omega) hE hF (fun q => by have i0 : (0 : Int32).toInt = 0 := rfl; have e0 : (0 : Int32).toInt = 0 := rfl; have e1 : (1 : Int32).toInt = 1 := rfl; omega))) (argsL := [(.ref a2), (.ref a3), (.int p7), (.int p8), (.int (0 : Int32)), (.int (0 : Int32))]) (rest := []) rfl (ps := [(.array .int), (.array .int), .int, .int, .int, .boolean]) (by decide +kernel) rfl rfl 0 rfl (by decide) (by decide) (by decide) (by decide) ?_
      rintro _ _ ⟨_, ⟨rfl, rfl⟩, rfl⟩
      show Go B0 Z a0 h0 _ 3 14 [ar a2 .int (v91.set p7.toNatClampNeg (.int p8)), ar a3 .int (v92.set p7.toNatClampNeg (.int (trim p8 (0 : Int32) z0))), ar a1 .byte v94] 184 #[.val (.int p1), .val (.int p2), .val (.int p3), .val (.int p4), .val (.int p5), .val (.int p6), .val (.int z0), .val (.int z1), .val (.int z2), .val (.int z3), .val (.ref a1), .val (.ref a2), .val (.ref a3), .val (.int p7), .val (.int p8), .unset, .unset] [(.int (p7 + (1 : Int32)))]
      refine Go.front 2 (Nat.le_of_ble_eq_true rfl) ?_
      show Go B0 Z a0 h0 _ 3 14 [ar a1 .byte v94, ar a2 .int (v91.set p7.toNatClampNeg (.int p8)), ar a3 .int (v92.set p7.toNatClampNeg (.int (trim p8 (0 : Int32) z0)))] 184 #[.val (.int p1), .val (.int p2), .val (.int p3), .val (.int p4), .val (.int p5), .val (.int p6), .val (.int z0), .val (.int z1), .val (.int z2), .val (.int z3), .val (.ref a1), .val (.ref a2), .val (.ref a3), .val (.int p7), .val (.int p8), .unset, .unset] [(.int (p7 + (1 : Int32)))]
      refine go_istore #[.val (.int p1), .val (.int p2), .val (.int p3), .val (.int p4), .val (.int p5), .val (.int p6), .val (.int z0), .val (.int z1), .val (.int z2), .val (.int z3), .val (.ref a1), .val (.ref a2), .val (.ref a3), .val (.int (p7 + (1 : Int32))), .val (.int p8), .unset, .unset] 186 rfl at_184 rfl rfl ?_
      refine go_iconst (1 : Int32) 187 rfl at_186 rfl ?_
      refine go_istore #[.val (.int p1), .val (.int p2), .val (.int p3), .val (.int p4), .val (.int p5), .val (.int p6), .val (.int z0), .val (.int z1), .val (.int z2), .val (.int z3), .val (.ref a1), .val (.ref a2), .val (.ref a3), .val (.int (p7 + (1 : Int32))), .val (.int (1 : Int32)), .unset, .unset] 189 rfl at_187 rfl rfl ?_
      have hp : ((0 : Int) < p6.toInt ∧ z0.toInt = 10) := by omega
      simp only [if_pos hp] at K
      exact K
set_option maxRecDepth 65536 in
set_option maxHeartbeats 4000000 in
theorem seg1 (Z : State) (a0 : Array Value) (hw : ∀ d ∈ tables_1, d.before a0 Z = true) (h0 : Heap) (p1 p2 p3 p4 p5 p6 z0 z1 z2 z3 : Int32) (a1 a2 a3 : Addr) (v94 v91 v92 : List Value) (p7 p8 : Int32) (hc : 0 ≤ p7.toInt ∧ p7.toInt ≤ 1) (hE : v91.length = 5) (hF : v92.length = 5)
    (K : Go B0 Z a0 h0 (fun v _ => v = some (.int 1)) 3 14 [ar a1 .byte v94, ar a2 .int (if (1 : Int) < p6.toInt ∧ z1.toInt = 10 then v91.set p7.toNatClampNeg (.int p8) else v91), ar a3 .int (if (1 : Int) < p6.toInt ∧ z1.toInt = 10 then v92.set p7.toNatClampNeg (.int (trim p8 (1 : Int32) z0)) else v92)] 231 #[.val (.int p1), .val (.int p2), .val (.int p3), .val (.int p4), .val (.int p5), .val (.int p6), .val (.int z0), .val (.int z1), .val (.int z2), .val (.int z3), .val (.ref a1), .val (.ref a2), .val (.ref a3), .val (.int (if (1 : Int) < p6.toInt ∧ z1.toInt = 10 then p7 + (1 : Int32) else p7)), .val (.int (if (1 : Int) < p6.toInt ∧ z1.toInt = 10 then (2 : Int32) else p8)), .unset, .unset] []) :
    Go B0 Z a0 h0 (fun v _ => v = some (.int 1)) 3 14 [ar a1 .byte v94, ar a2 .int v91, ar a3 .int v92] 189 #[.val (.int p1), .val (.int p2), .val (.int p3), .val (.int p4), .val (.int p5), .val (.int p6), .val (.int z0), .val (.int z1), .val (.int z2), .val (.int z3), .val (.ref a1), .val (.ref a2), .val (.ref a3), .val (.int p7), .val (.int p8), .unset, .unset] [] := by
  show Go B0 Z a0 h0 _ 3 14 [ar a1 .byte v94, ar a2 .int v91, ar a3 .int v92] 189 #[.val (.int p1), .val (.int p2), .val (.int p3), .val (.int p4), .val (.int p5), .val (.int p6), .val (.int z0), .val (.int z1), .val (.int z2), .val (.int z3), .val (.ref a1), .val (.ref a2), .val (.ref a3), .val (.int p7), .val (.int p8), .unset, .unset] []
  refine go_iload 191 rfl at_189 rfl ?_
  refine go_iconst (1 : Int32) 192 rfl at_191 rfl ?_
  refine go_icmp 231 195 rfl (by decide) rfl at_192 rfl (fun (hc192_6 : p6.toInt ≤ (1 : Int)) => ?_) (fun (hc192_6 : ¬ (p6.toInt ≤ (1 : Int))) => ?_)
  · have hp : ¬ ((1 : Int) < p6.toInt ∧ z1.toInt = 10) := by omega
    simp only [if_neg hp] at K
    exact K
  · refine go_iload 197 rfl at_195 rfl ?_
    refine go_bipush (10 : Int32) 199 rfl at_197 rfl ?_
    refine go_icmp 231 202 rfl (by decide) rfl at_199 rfl (fun (hc199_7 : z1.toInt ≠ (10 : Int)) => ?_) (fun (hc199_7 : ¬ (z1.toInt ≠ (10 : Int))) => ?_)
    · have hp : ¬ ((1 : Int) < p6.toInt ∧ z1.toInt = 10) := by omega
      simp only [if_neg hp] at K
      exact K
    · refine go_aload 204 rfl at_202 rfl rfl ?_
      refine go_aload 206 rfl at_204 rfl rfl ?_
      refine go_iload 208 rfl at_206 rfl ?_
      refine go_iload 210 rfl at_208 rfl ?_
      refine go_iconst (1 : Int32) 211 rfl at_210 rfl ?_
      refine go_iload 213 rfl at_211 rfl ?_
      refine go_bipush (13 : Int32) 215 rfl at_213 rfl ?_
      refine go_icmp 222 218 rfl (by decide) rfl at_215 rfl (fun (hc215_8 : z0.toInt ≠ (13 : Int)) => ?_) (fun (hc215_8 : ¬ (z0.toInt ≠ (13 : Int))) => ?_)
      · refine go_iconst (0 : Int32) 223 rfl at_222 rfl ?_
        refine Go.front 2 (Nat.le_of_ble_eq_true rfl) ?_
        refine Go.front 2 (Nat.le_of_ble_eq_true rfl) ?_
        show Go B0 Z a0 h0 _ 3 14 [ar a2 .int v91, ar a3 .int v92, ar a1 .byte v94] 223 #[.val (.int p1), .val (.int p2), .val (.int p3), .val (.int p4), .val (.int p5), .val (.int p6), .val (.int z0), .val (.int z1), .val (.int z2), .val (.int z3), .val (.ref a1), .val (.ref a2), .val (.ref a3), .val (.int p7), .val (.int p8), .unset, .unset] [(.int (0 : Int32)), (.int (1 : Int32)), (.int p8), (.int p7), (.ref a3), (.ref a2)]
        refine go_callS 226 rfl at_223 (wd hw 74 rfl) (wd hw 75 rfl) (wd hw 3 rfl) (wd hw 76 rfl) (by decide) (Met.frame [ar a1 .byte v94] (m_close Z a0 hw h0 a2 a3 v91 v92 p7 p8 (1 : Int32) (0 : Int32) z0 (by omega) hE hF (fun q => by have i0 : (1 : Int32).toInt = 1 := rfl; have e0 : (0 : Int32).toInt = 0 := rfl; have e1 : (1 : Int32).toInt = 1 := rfl; omega))) (argsL := [(.ref a2), (.ref a3), (.int p7), (.int p8), (.int (1 : Int32)), (.int (0 : Int32))]) (rest := []) rfl (ps := [(.array .int), (.array .int), .int, .int, .int, .boolean]) (by decide +kernel) rfl rfl 0 rfl (by decide) (by decide) (by decide) (by decide) ?_
        rintro _ _ ⟨_, ⟨rfl, rfl⟩, rfl⟩
        show Go B0 Z a0 h0 _ 3 14 [ar a2 .int (v91.set p7.toNatClampNeg (.int p8)), ar a3 .int (v92.set p7.toNatClampNeg (.int (trim p8 (1 : Int32) z0))), ar a1 .byte v94] 226 #[.val (.int p1), .val (.int p2), .val (.int p3), .val (.int p4), .val (.int p5), .val (.int p6), .val (.int z0), .val (.int z1), .val (.int z2), .val (.int z3), .val (.ref a1), .val (.ref a2), .val (.ref a3), .val (.int p7), .val (.int p8), .unset, .unset] [(.int (p7 + (1 : Int32)))]
        refine Go.front 2 (Nat.le_of_ble_eq_true rfl) ?_
        show Go B0 Z a0 h0 _ 3 14 [ar a1 .byte v94, ar a2 .int (v91.set p7.toNatClampNeg (.int p8)), ar a3 .int (v92.set p7.toNatClampNeg (.int (trim p8 (1 : Int32) z0)))] 226 #[.val (.int p1), .val (.int p2), .val (.int p3), .val (.int p4), .val (.int p5), .val (.int p6), .val (.int z0), .val (.int z1), .val (.int z2), .val (.int z3), .val (.ref a1), .val (.ref a2), .val (.ref a3), .val (.int p7), .val (.int p8), .unset, .unset] [(.int (p7 + (1 : Int32)))]
        refine go_istore #[.val (.int p1), .val (.int p2), .val (.int p3), .val (.int p4), .val (.int p5), .val (.int p6), .val (.int z0), .val (.int z1), .val (.int z2), .val (.int z3), .val (.ref a1), .val (.ref a2), .val (.ref a3), .val (.int (p7 + (1 : Int32))), .val (.int p8), .unset, .unset] 228 rfl at_226 rfl rfl ?_
        refine go_iconst (2 : Int32) 229 rfl at_228 rfl ?_
        refine go_istore #[.val (.int p1), .val (.int p2), .val (.int p3), .val (.int p4), .val (.int p5), .val (.int p6), .val (.int z0), .val (.int z1), .val (.int z2), .val (.int z3), .val (.ref a1), .val (.ref a2), .val (.ref a3), .val (.int (p7 + (1 : Int32))), .val (.int (2 : Int32)), .unset, .unset] 231 rfl at_229 rfl rfl ?_
        have hp : ((1 : Int) < p6.toInt ∧ z1.toInt = 10) := by omega
        simp only [if_pos hp] at K
        exact K
      · refine go_iconst (1 : Int32) 219 rfl at_218 rfl ?_
        refine go_goto 223 (by decide) rfl at_219 ?_
        refine Go.front 2 (Nat.le_of_ble_eq_true rfl) ?_
        refine Go.front 2 (Nat.le_of_ble_eq_true rfl) ?_
        show Go B0 Z a0 h0 _ 3 14 [ar a2 .int v91, ar a3 .int v92, ar a1 .byte v94] 223 #[.val (.int p1), .val (.int p2), .val (.int p3), .val (.int p4), .val (.int p5), .val (.int p6), .val (.int z0), .val (.int z1), .val (.int z2), .val (.int z3), .val (.ref a1), .val (.ref a2), .val (.ref a3), .val (.int p7), .val (.int p8), .unset, .unset] [(.int (1 : Int32)), (.int (1 : Int32)), (.int p8), (.int p7), (.ref a3), (.ref a2)]
        refine go_callS 226 rfl at_223 (wd hw 74 rfl) (wd hw 75 rfl) (wd hw 3 rfl) (wd hw 76 rfl) (by decide) (Met.frame [ar a1 .byte v94] (m_close Z a0 hw h0 a2 a3 v91 v92 p7 p8 (1 : Int32) (1 : Int32) z0 (by omega) hE hF (fun q => by have i0 : (1 : Int32).toInt = 1 := rfl; have e0 : (0 : Int32).toInt = 0 := rfl; have e1 : (1 : Int32).toInt = 1 := rfl; omega))) (argsL := [(.ref a2), (.ref a3), (.int p7), (.int p8), (.int (1 : Int32)), (.int (1 : Int32))]) (rest := []) rfl (ps := [(.array .int), (.array .int), .int, .int, .int, .boolean]) (by decide +kernel) rfl rfl 0 rfl (by decide) (by decide) (by decide) (by decide) ?_
        rintro _ _ ⟨_, ⟨rfl, rfl⟩, rfl⟩
        show Go B0 Z a0 h0 _ 3 14 [ar a2 .int (v91.set p7.toNatClampNeg (.int p8)), ar a3 .int (v92.set p7.toNatClampNeg (.int (trim p8 (1 : Int32) z0))), ar a1 .byte v94] 226 #[.val (.int p1), .val (.int p2), .val (.int p3), .val (.int p4), .val (.int p5), .val (.int p6), .val (.int z0), .val (.int z1), .val (.int z2), .val (.int z3), .val (.ref a1), .val (.ref a2), .val (.ref a3), .val (.int p7), .val (.int p8), .unset, .unset] [(.int (p7 + (1 : Int32)))]
        refine Go.front 2 (Nat.le_of_ble_eq_true rfl) ?_
        show Go B0 Z a0 h0 _ 3 14 [ar a1 .byte v94, ar a2 .int (v91.set p7.toNatClampNeg (.int p8)), ar a3 .int (v92.set p7.toNatClampNeg (.int (trim p8 (1 : Int32) z0)))] 226 #[.val (.int p1), .val (.int p2), .val (.int p3), .val (.int p4), .val (.int p5), .val (.int p6), .val (.int z0), .val (.int z1), .val (.int z2), .val (.int z3), .val (.ref a1), .val (.ref a2), .val (.ref a3), .val (.int p7), .val (.int p8), .unset, .unset] [(.int (p7 + (1 : Int32)))]
        refine go_istore #[.val (.int p1), .val (.int p2), .val (.int p3), .val (.int p4), .val (.int p5), .val (.int p6), .val (.int z0), .val (.int z1), .val (.int z2), .val (.int z3), .val (.ref a1), .val (.ref a2), .val (.ref a3), .val (.int (p7 + (1 : Int32))), .val (.int p8), .unset, .unset] 228 rfl at_226 rfl rfl ?_
        refine go_iconst (2 : Int32) 229 rfl at_228 rfl ?_
        refine go_istore #[.val (.int p1), .val (.int p2), .val (.int p3), .val (.int p4), .val (.int p5), .val (.int p6), .val (.int z0), .val (.int z1), .val (.int z2), .val (.int z3), .val (.ref a1), .val (.ref a2), .val (.ref a3), .val (.int (p7 + (1 : Int32))), .val (.int (2 : Int32)), .unset, .unset] 231 rfl at_229 rfl rfl ?_
        have hp : ((1 : Int) < p6.toInt ∧ z1.toInt = 10) := by omega
        simp only [if_pos hp] at K
        exact K
set_option maxRecDepth 65536 in
set_option maxHeartbeats 4000000 in
theorem seg2 (Z : State) (a0 : Array Value) (hw : ∀ d ∈ tables_1, d.before a0 Z = true) (h0 : Heap) (p1 p2 p3 p4 p5 p6 z0 z1 z2 z3 : Int32) (a1 a2 a3 : Addr) (v94 v91 v92 : List Value) (p7 p8 : Int32) (hc : 0 ≤ p7.toInt ∧ p7.toInt ≤ 2) (hE : v91.length = 5) (hF : v92.length = 5)
    (K : Go B0 Z a0 h0 (fun v _ => v = some (.int 1)) 3 14 [ar a1 .byte v94, ar a2 .int (if (2 : Int) < p6.toInt ∧ z2.toInt = 10 then v91.set p7.toNatClampNeg (.int p8) else v91), ar a3 .int (if (2 : Int) < p6.toInt ∧ z2.toInt = 10 then v92.set p7.toNatClampNeg (.int (trim p8 (2 : Int32) z1)) else v92)] 273 #[.val (.int p1), .val (.int p2), .val (.int p3), .val (.int p4), .val (.int p5), .val (.int p6), .val (.int z0), .val (.int z1), .val (.int z2), .val (.int z3), .val (.ref a1), .val (.ref a2), .val (.ref a3), .val (.int (if (2 : Int) < p6.toInt ∧ z2.toInt = 10 then p7 + (1 : Int32) else p7)), .val (.int (if (2 : Int) < p6.toInt ∧ z2.toInt = 10 then (3 : Int32) else p8)), .unset, .unset] []) :
    Go B0 Z a0 h0 (fun v _ => v = some (.int 1)) 3 14 [ar a1 .byte v94, ar a2 .int v91, ar a3 .int v92] 231 #[.val (.int p1), .val (.int p2), .val (.int p3), .val (.int p4), .val (.int p5), .val (.int p6), .val (.int z0), .val (.int z1), .val (.int z2), .val (.int z3), .val (.ref a1), .val (.ref a2), .val (.ref a3), .val (.int p7), .val (.int p8), .unset, .unset] [] := by
  show Go B0 Z a0 h0 _ 3 14 [ar a1 .byte v94, ar a2 .int v91, ar a3 .int v92] 231 #[.val (.int p1), .val (.int p2), .val (.int p3), .val (.int p4), .val (.int p5), .val (.int p6), .val (.int z0), .val (.int z1), .val (.int z2), .val (.int z3), .val (.ref a1), .val (.ref a2), .val (.ref a3), .val (.int p7), .val (.int p8), .unset, .unset] []
  refine go_iload 233 rfl at_231 rfl ?_
  refine go_iconst (2 : Int32) 234 rfl at_233 rfl ?_
  refine go_icmp 273 237 rfl (by decide) rfl at_234 rfl (fun (hc234_9 : p6.toInt ≤ (2 : Int)) => ?_) (fun (hc234_9 : ¬ (p6.toInt ≤ (2 : Int))) => ?_)
  · have hp : ¬ ((2 : Int) < p6.toInt ∧ z2.toInt = 10) := by omega
    simp only [if_neg hp] at K
    exact K
  · refine go_iload 239 rfl at_237 rfl ?_
    refine go_bipush (10 : Int32) 241 rfl at_239 rfl ?_
    refine go_icmp 273 244 rfl (by decide) rfl at_241 rfl (fun (hc241_10 : z2.toInt ≠ (10 : Int)) => ?_) (fun (hc241_10 : ¬ (z2.toInt ≠ (10 : Int))) => ?_)
    · have hp : ¬ ((2 : Int) < p6.toInt ∧ z2.toInt = 10) := by omega
      simp only [if_neg hp] at K
      exact K
    · refine go_aload 246 rfl at_244 rfl rfl ?_
      refine go_aload 248 rfl at_246 rfl rfl ?_
      refine go_iload 250 rfl at_248 rfl ?_
      refine go_iload 252 rfl at_250 rfl ?_
      refine go_iconst (2 : Int32) 253 rfl at_252 rfl ?_
      refine go_iload 255 rfl at_253 rfl ?_
      refine go_bipush (13 : Int32) 257 rfl at_255 rfl ?_
      refine go_icmp 264 260 rfl (by decide) rfl at_257 rfl (fun (hc257_11 : z1.toInt ≠ (13 : Int)) => ?_) (fun (hc257_11 : ¬ (z1.toInt ≠ (13 : Int))) => ?_)
      · refine go_iconst (0 : Int32) 265 rfl at_264 rfl ?_
        refine Go.front 2 (Nat.le_of_ble_eq_true rfl) ?_
        refine Go.front 2 (Nat.le_of_ble_eq_true rfl) ?_
        show Go B0 Z a0 h0 _ 3 14 [ar a2 .int v91, ar a3 .int v92, ar a1 .byte v94] 265 #[.val (.int p1), .val (.int p2), .val (.int p3), .val (.int p4), .val (.int p5), .val (.int p6), .val (.int z0), .val (.int z1), .val (.int z2), .val (.int z3), .val (.ref a1), .val (.ref a2), .val (.ref a3), .val (.int p7), .val (.int p8), .unset, .unset] [(.int (0 : Int32)), (.int (2 : Int32)), (.int p8), (.int p7), (.ref a3), (.ref a2)]
        refine go_callS 268 rfl at_265 (wd hw 74 rfl) (wd hw 75 rfl) (wd hw 3 rfl) (wd hw 76 rfl) (by decide) (Met.frame [ar a1 .byte v94] (m_close Z a0 hw h0 a2 a3 v91 v92 p7 p8 (2 : Int32) (0 : Int32) z1 (by omega) hE hF (fun q => by have i0 : (2 : Int32).toInt = 2 := rfl; have e0 : (0 : Int32).toInt = 0 := rfl; have e1 : (1 : Int32).toInt = 1 := rfl; omega))) (argsL := [(.ref a2), (.ref a3), (.int p7), (.int p8), (.int (2 : Int32)), (.int (0 : Int32))]) (rest := []) rfl (ps := [(.array .int), (.array .int), .int, .int, .int, .boolean]) (by decide +kernel) rfl rfl 0 rfl (by decide) (by decide) (by decide) (by decide) ?_
        rintro _ _ ⟨_, ⟨rfl, rfl⟩, rfl⟩
        show Go B0 Z a0 h0 _ 3 14 [ar a2 .int (v91.set p7.toNatClampNeg (.int p8)), ar a3 .int (v92.set p7.toNatClampNeg (.int (trim p8 (2 : Int32) z1))), ar a1 .byte v94] 268 #[.val (.int p1), .val (.int p2), .val (.int p3), .val (.int p4), .val (.int p5), .val (.int p6), .val (.int z0), .val (.int z1), .val (.int z2), .val (.int z3), .val (.ref a1), .val (.ref a2), .val (.ref a3), .val (.int p7), .val (.int p8), .unset, .unset] [(.int (p7 + (1 : Int32)))]
        refine Go.front 2 (Nat.le_of_ble_eq_true rfl) ?_
        show Go B0 Z a0 h0 _ 3 14 [ar a1 .byte v94, ar a2 .int (v91.set p7.toNatClampNeg (.int p8)), ar a3 .int (v92.set p7.toNatClampNeg (.int (trim p8 (2 : Int32) z1)))] 268 #[.val (.int p1), .val (.int p2), .val (.int p3), .val (.int p4), .val (.int p5), .val (.int p6), .val (.int z0), .val (.int z1), .val (.int z2), .val (.int z3), .val (.ref a1), .val (.ref a2), .val (.ref a3), .val (.int p7), .val (.int p8), .unset, .unset] [(.int (p7 + (1 : Int32)))]
        refine go_istore #[.val (.int p1), .val (.int p2), .val (.int p3), .val (.int p4), .val (.int p5), .val (.int p6), .val (.int z0), .val (.int z1), .val (.int z2), .val (.int z3), .val (.ref a1), .val (.ref a2), .val (.ref a3), .val (.int (p7 + (1 : Int32))), .val (.int p8), .unset, .unset] 270 rfl at_268 rfl rfl ?_
        refine go_iconst (3 : Int32) 271 rfl at_270 rfl ?_
        refine go_istore #[.val (.int p1), .val (.int p2), .val (.int p3), .val (.int p4), .val (.int p5), .val (.int p6), .val (.int z0), .val (.int z1), .val (.int z2), .val (.int z3), .val (.ref a1), .val (.ref a2), .val (.ref a3), .val (.int (p7 + (1 : Int32))), .val (.int (3 : Int32)), .unset, .unset] 273 rfl at_271 rfl rfl ?_
        have hp : ((2 : Int) < p6.toInt ∧ z2.toInt = 10) := by omega
        simp only [if_pos hp] at K
        exact K
      · refine go_iconst (1 : Int32) 261 rfl at_260 rfl ?_
        refine go_goto 265 (by decide) rfl at_261 ?_
        refine Go.front 2 (Nat.le_of_ble_eq_true rfl) ?_
        refine Go.front 2 (Nat.le_of_ble_eq_true rfl) ?_
        show Go B0 Z a0 h0 _ 3 14 [ar a2 .int v91, ar a3 .int v92, ar a1 .byte v94] 265 #[.val (.int p1), .val (.int p2), .val (.int p3), .val (.int p4), .val (.int p5), .val (.int p6), .val (.int z0), .val (.int z1), .val (.int z2), .val (.int z3), .val (.ref a1), .val (.ref a2), .val (.ref a3), .val (.int p7), .val (.int p8), .unset, .unset] [(.int (1 : Int32)), (.int (2 : Int32)), (.int p8), (.int p7), (.ref a3), (.ref a2)]
        refine go_callS 268 rfl at_265 (wd hw 74 rfl) (wd hw 75 rfl) (wd hw 3 rfl) (wd hw 76 rfl) (by decide) (Met.frame [ar a1 .byte v94] (m_close Z a0 hw h0 a2 a3 v91 v92 p7 p8 (2 : Int32) (1 : Int32) z1 (by omega) hE hF (fun q => by have i0 : (2 : Int32).toInt = 2 := rfl; have e0 : (0 : Int32).toInt = 0 := rfl; have e1 : (1 : Int32).toInt = 1 := rfl; omega))) (argsL := [(.ref a2), (.ref a3), (.int p7), (.int p8), (.int (2 : Int32)), (.int (1 : Int32))]) (rest := []) rfl (ps := [(.array .int), (.array .int), .int, .int, .int, .boolean]) (by decide +kernel) rfl rfl 0 rfl (by decide) (by decide) (by decide) (by decide) ?_
        rintro _ _ ⟨_, ⟨rfl, rfl⟩, rfl⟩
        show Go B0 Z a0 h0 _ 3 14 [ar a2 .int (v91.set p7.toNatClampNeg (.int p8)), ar a3 .int (v92.set p7.toNatClampNeg (.int (trim p8 (2 : Int32) z1))), ar a1 .byte v94] 268 #[.val (.int p1), .val (.int p2), .val (.int p3), .val (.int p4), .val (.int p5), .val (.int p6), .val (.int z0), .val (.int z1), .val (.int z2), .val (.int z3), .val (.ref a1), .val (.ref a2), .val (.ref a3), .val (.int p7), .val (.int p8), .unset, .unset] [(.int (p7 + (1 : Int32)))]
        refine Go.front 2 (Nat.le_of_ble_eq_true rfl) ?_
        show Go B0 Z a0 h0 _ 3 14 [ar a1 .byte v94, ar a2 .int (v91.set p7.toNatClampNeg (.int p8)), ar a3 .int (v92.set p7.toNatClampNeg (.int (trim p8 (2 : Int32) z1)))] 268 #[.val (.int p1), .val (.int p2), .val (.int p3), .val (.int p4), .val (.int p5), .val (.int p6), .val (.int z0), .val (.int z1), .val (.int z2), .val (.int z3), .val (.ref a1), .val (.ref a2), .val (.ref a3), .val (.int p7), .val (.int p8), .unset, .unset] [(.int (p7 + (1 : Int32)))]
        refine go_istore #[.val (.int p1), .val (.int p2), .val (.int p3), .val (.int p4), .val (.int p5), .val (.int p6), .val (.int z0), .val (.int z1), .val (.int z2), .val (.int z3), .val (.ref a1), .val (.ref a2), .val (.ref a3), .val (.int (p7 + (1 : Int32))), .val (.int p8), .unset, .unset] 270 rfl at_268 rfl rfl ?_
        refine go_iconst (3 : Int32) 271 rfl at_270 rfl ?_
        refine go_istore #[.val (.int p1), .val (.int p2), .val (.int p3), .val (.int p4), .val (.int p5), .val (.int p6), .val (.int z0), .val (.int z1), .val (.int z2), .val (.int z3), .val (.ref a1), .val (.ref a2), .val (.ref a3), .val (.int (p7 + (1 : Int32))), .val (.int (3 : Int32)), .unset, .unset] 273 rfl at_271 rfl rfl ?_
        have hp : ((2 : Int) < p6.toInt ∧ z2.toInt = 10) := by omega
        simp only [if_pos hp] at K
        exact K
set_option maxRecDepth 65536 in
set_option maxHeartbeats 4000000 in
theorem seg3 (Z : State) (a0 : Array Value) (hw : ∀ d ∈ tables_1, d.before a0 Z = true) (h0 : Heap) (p1 p2 p3 p4 p5 p6 z0 z1 z2 z3 : Int32) (a1 a2 a3 : Addr) (v94 v91 v92 : List Value) (p7 p8 : Int32) (hc : 0 ≤ p7.toInt ∧ p7.toInt ≤ 3) (hE : v91.length = 5) (hF : v92.length = 5)
    (K : Go B0 Z a0 h0 (fun v _ => v = some (.int 1)) 3 14 [ar a1 .byte v94, ar a2 .int (if (3 : Int) < p6.toInt ∧ z3.toInt = 10 then v91.set p7.toNatClampNeg (.int p8) else v91), ar a3 .int (if (3 : Int) < p6.toInt ∧ z3.toInt = 10 then v92.set p7.toNatClampNeg (.int (trim p8 (3 : Int32) z2)) else v92)] 315 #[.val (.int p1), .val (.int p2), .val (.int p3), .val (.int p4), .val (.int p5), .val (.int p6), .val (.int z0), .val (.int z1), .val (.int z2), .val (.int z3), .val (.ref a1), .val (.ref a2), .val (.ref a3), .val (.int (if (3 : Int) < p6.toInt ∧ z3.toInt = 10 then p7 + (1 : Int32) else p7)), .val (.int (if (3 : Int) < p6.toInt ∧ z3.toInt = 10 then (4 : Int32) else p8)), .unset, .unset] []) :
    Go B0 Z a0 h0 (fun v _ => v = some (.int 1)) 3 14 [ar a1 .byte v94, ar a2 .int v91, ar a3 .int v92] 273 #[.val (.int p1), .val (.int p2), .val (.int p3), .val (.int p4), .val (.int p5), .val (.int p6), .val (.int z0), .val (.int z1), .val (.int z2), .val (.int z3), .val (.ref a1), .val (.ref a2), .val (.ref a3), .val (.int p7), .val (.int p8), .unset, .unset] [] := by
  show Go B0 Z a0 h0 _ 3 14 [ar a1 .byte v94, ar a2 .int v91, ar a3 .int v92] 273 #[.val (.int p1), .val (.int p2), .val (.int p3), .val (.int p4), .val (.int p5), .val (.int p6), .val (.int z0), .val (.int z1), .val (.int z2), .val (.int z3), .val (.ref a1), .val (.ref a2), .val (.ref a3), .val (.int p7), .val (.int p8), .unset, .unset] []
  refine go_iload 275 rfl at_273 rfl ?_
  refine go_iconst (3 : Int32) 276 rfl at_275 rfl ?_
  refine go_icmp 315 279 rfl (by decide) rfl at_276 rfl (fun (hc276_12 : p6.toInt ≤ (3 : Int)) => ?_) (fun (hc276_12 : ¬ (p6.toInt ≤ (3 : Int))) => ?_)
  · have hp : ¬ ((3 : Int) < p6.toInt ∧ z3.toInt = 10) := by omega
    simp only [if_neg hp] at K
    exact K
  · refine go_iload 281 rfl at_279 rfl ?_
    refine go_bipush (10 : Int32) 283 rfl at_281 rfl ?_
    refine go_icmp 315 286 rfl (by decide) rfl at_283 rfl (fun (hc283_13 : z3.toInt ≠ (10 : Int)) => ?_) (fun (hc283_13 : ¬ (z3.toInt ≠ (10 : Int))) => ?_)
    · have hp : ¬ ((3 : Int) < p6.toInt ∧ z3.toInt = 10) := by omega
      simp only [if_neg hp] at K
      exact K
    · refine go_aload 288 rfl at_286 rfl rfl ?_
      refine go_aload 290 rfl at_288 rfl rfl ?_
      refine go_iload 292 rfl at_290 rfl ?_
      refine go_iload 294 rfl at_292 rfl ?_
      refine go_iconst (3 : Int32) 295 rfl at_294 rfl ?_
      refine go_iload 297 rfl at_295 rfl ?_
      refine go_bipush (13 : Int32) 299 rfl at_297 rfl ?_
      refine go_icmp 306 302 rfl (by decide) rfl at_299 rfl (fun (hc299_14 : z2.toInt ≠ (13 : Int)) => ?_) (fun (hc299_14 : ¬ (z2.toInt ≠ (13 : Int))) => ?_)
      · refine go_iconst (0 : Int32) 307 rfl at_306 rfl ?_
        refine Go.front 2 (Nat.le_of_ble_eq_true rfl) ?_
        refine Go.front 2 (Nat.le_of_ble_eq_true rfl) ?_
        show Go B0 Z a0 h0 _ 3 14 [ar a2 .int v91, ar a3 .int v92, ar a1 .byte v94] 307 #[.val (.int p1), .val (.int p2), .val (.int p3), .val (.int p4), .val (.int p5), .val (.int p6), .val (.int z0), .val (.int z1), .val (.int z2), .val (.int z3), .val (.ref a1), .val (.ref a2), .val (.ref a3), .val (.int p7), .val (.int p8), .unset, .unset] [(.int (0 : Int32)), (.int (3 : Int32)), (.int p8), (.int p7), (.ref a3), (.ref a2)]
        refine go_callS 310 rfl at_307 (wd hw 74 rfl) (wd hw 75 rfl) (wd hw 3 rfl) (wd hw 76 rfl) (by decide) (Met.frame [ar a1 .byte v94] (m_close Z a0 hw h0 a2 a3 v91 v92 p7 p8 (3 : Int32) (0 : Int32) z2 (by omega) hE hF (fun q => by have i0 : (3 : Int32).toInt = 3 := rfl; have e0 : (0 : Int32).toInt = 0 := rfl; have e1 : (1 : Int32).toInt = 1 := rfl; omega))) (argsL := [(.ref a2), (.ref a3), (.int p7), (.int p8), (.int (3 : Int32)), (.int (0 : Int32))]) (rest := []) rfl (ps := [(.array .int), (.array .int), .int, .int, .int, .boolean]) (by decide +kernel) rfl rfl 0 rfl (by decide) (by decide) (by decide) (by decide) ?_
        rintro _ _ ⟨_, ⟨rfl, rfl⟩, rfl⟩
        show Go B0 Z a0 h0 _ 3 14 [ar a2 .int (v91.set p7.toNatClampNeg (.int p8)), ar a3 .int (v92.set p7.toNatClampNeg (.int (trim p8 (3 : Int32) z2))), ar a1 .byte v94] 310 #[.val (.int p1), .val (.int p2), .val (.int p3), .val (.int p4), .val (.int p5), .val (.int p6), .val (.int z0), .val (.int z1), .val (.int z2), .val (.int z3), .val (.ref a1), .val (.ref a2), .val (.ref a3), .val (.int p7), .val (.int p8), .unset, .unset] [(.int (p7 + (1 : Int32)))]
        refine Go.front 2 (Nat.le_of_ble_eq_true rfl) ?_
        show Go B0 Z a0 h0 _ 3 14 [ar a1 .byte v94, ar a2 .int (v91.set p7.toNatClampNeg (.int p8)), ar a3 .int (v92.set p7.toNatClampNeg (.int (trim p8 (3 : Int32) z2)))] 310 #[.val (.int p1), .val (.int p2), .val (.int p3), .val (.int p4), .val (.int p5), .val (.int p6), .val (.int z0), .val (.int z1), .val (.int z2), .val (.int z3), .val (.ref a1), .val (.ref a2), .val (.ref a3), .val (.int p7), .val (.int p8), .unset, .unset] [(.int (p7 + (1 : Int32)))]
        refine go_istore #[.val (.int p1), .val (.int p2), .val (.int p3), .val (.int p4), .val (.int p5), .val (.int p6), .val (.int z0), .val (.int z1), .val (.int z2), .val (.int z3), .val (.ref a1), .val (.ref a2), .val (.ref a3), .val (.int (p7 + (1 : Int32))), .val (.int p8), .unset, .unset] 312 rfl at_310 rfl rfl ?_
        refine go_iconst (4 : Int32) 313 rfl at_312 rfl ?_
        refine go_istore #[.val (.int p1), .val (.int p2), .val (.int p3), .val (.int p4), .val (.int p5), .val (.int p6), .val (.int z0), .val (.int z1), .val (.int z2), .val (.int z3), .val (.ref a1), .val (.ref a2), .val (.ref a3), .val (.int (p7 + (1 : Int32))), .val (.int (4 : Int32)), .unset, .unset] 315 rfl at_313 rfl rfl ?_
        have hp : ((3 : Int) < p6.toInt ∧ z3.toInt = 10) := by omega
        simp only [if_pos hp] at K
        exact K
      · refine go_iconst (1 : Int32) 303 rfl at_302 rfl ?_
        refine go_goto 307 (by decide) rfl at_303 ?_
        refine Go.front 2 (Nat.le_of_ble_eq_true rfl) ?_
        refine Go.front 2 (Nat.le_of_ble_eq_true rfl) ?_
        show Go B0 Z a0 h0 _ 3 14 [ar a2 .int v91, ar a3 .int v92, ar a1 .byte v94] 307 #[.val (.int p1), .val (.int p2), .val (.int p3), .val (.int p4), .val (.int p5), .val (.int p6), .val (.int z0), .val (.int z1), .val (.int z2), .val (.int z3), .val (.ref a1), .val (.ref a2), .val (.ref a3), .val (.int p7), .val (.int p8), .unset, .unset] [(.int (1 : Int32)), (.int (3 : Int32)), (.int p8), (.int p7), (.ref a3), (.ref a2)]
        refine go_callS 310 rfl at_307 (wd hw 74 rfl) (wd hw 75 rfl) (wd hw 3 rfl) (wd hw 76 rfl) (by decide) (Met.frame [ar a1 .byte v94] (m_close Z a0 hw h0 a2 a3 v91 v92 p7 p8 (3 : Int32) (1 : Int32) z2 (by omega) hE hF (fun q => by have i0 : (3 : Int32).toInt = 3 := rfl; have e0 : (0 : Int32).toInt = 0 := rfl; have e1 : (1 : Int32).toInt = 1 := rfl; omega))) (argsL := [(.ref a2), (.ref a3), (.int p7), (.int p8), (.int (3 : Int32)), (.int (1 : Int32))]) (rest := []) rfl (ps := [(.array .int), (.array .int), .int, .int, .int, .boolean]) (by decide +kernel) rfl rfl 0 rfl (by decide) (by decide) (by decide) (by decide) ?_
        rintro _ _ ⟨_, ⟨rfl, rfl⟩, rfl⟩
        show Go B0 Z a0 h0 _ 3 14 [ar a2 .int (v91.set p7.toNatClampNeg (.int p8)), ar a3 .int (v92.set p7.toNatClampNeg (.int (trim p8 (3 : Int32) z2))), ar a1 .byte v94] 310 #[.val (.int p1), .val (.int p2), .val (.int p3), .val (.int p4), .val (.int p5), .val (.int p6), .val (.int z0), .val (.int z1), .val (.int z2), .val (.int z3), .val (.ref a1), .val (.ref a2), .val (.ref a3), .val (.int p7), .val (.int p8), .unset, .unset] [(.int (p7 + (1 : Int32)))]
        refine Go.front 2 (Nat.le_of_ble_eq_true rfl) ?_
        show Go B0 Z a0 h0 _ 3 14 [ar a1 .byte v94, ar a2 .int (v91.set p7.toNatClampNeg (.int p8)), ar a3 .int (v92.set p7.toNatClampNeg (.int (trim p8 (3 : Int32) z2)))] 310 #[.val (.int p1), .val (.int p2), .val (.int p3), .val (.int p4), .val (.int p5), .val (.int p6), .val (.int z0), .val (.int z1), .val (.int z2), .val (.int z3), .val (.ref a1), .val (.ref a2), .val (.ref a3), .val (.int p7), .val (.int p8), .unset, .unset] [(.int (p7 + (1 : Int32)))]
        refine go_istore #[.val (.int p1), .val (.int p2), .val (.int p3), .val (.int p4), .val (.int p5), .val (.int p6), .val (.int z0), .val (.int z1), .val (.int z2), .val (.int z3), .val (.ref a1), .val (.ref a2), .val (.ref a3), .val (.int (p7 + (1 : Int32))), .val (.int p8), .unset, .unset] 312 rfl at_310 rfl rfl ?_
        refine go_iconst (4 : Int32) 313 rfl at_312 rfl ?_
        refine go_istore #[.val (.int p1), .val (.int p2), .val (.int p3), .val (.int p4), .val (.int p5), .val (.int p6), .val (.int z0), .val (.int z1), .val (.int z2), .val (.int z3), .val (.ref a1), .val (.ref a2), .val (.ref a3), .val (.int (p7 + (1 : Int32))), .val (.int (4 : Int32)), .unset, .unset] 315 rfl at_313 rfl rfl ?_
        have hp : ((3 : Int) < p6.toInt ∧ z3.toInt = 10) := by omega
        simp only [if_pos hp] at K
        exact K
set_option maxRecDepth 65536 in
set_option maxHeartbeats 4000000 in
theorem seg4 (Z : State) (a0 : Array Value) (hw : ∀ d ∈ tables_1, d.before a0 Z = true) (h0 : Heap) (p1 p2 p3 p4 p5 p6 z0 z1 z2 z3 : Int32) (a1 a2 a3 : Addr) (v94 v91 v92 : List Value) (p7 p8 : Int32) (hc : 0 ≤ p7.toInt ∧ p7.toInt ≤ 4) (hE : v91.length = 5) (hF : v92.length = 5)
    (K : ∀ s15 : Slot, (s15 = .unset ∨ ∃ x : Int32, s15 = .val (.int x)) → Go B0 Z a0 h0 (fun v _ => v = some (.int 1)) 3 14 [ar a1 .byte v94, ar a2 .int (if p8.toInt < p6.toInt then v91.set p7.toNatClampNeg (.int p8) else v91), ar a3 .int (if p8.toInt < p6.toInt then v92.set p7.toNatClampNeg (.int (trim p8 p6 (lz p6 z0 z1 z2 z3))) else v92)] 386 #[.val (.int p1), .val (.int p2), .val (.int p3), .val (.int p4), .val (.int p5), .val (.int p6), .val (.int z0), .val (.int z1), .val (.int z2), .val (.int z3), .val (.ref a1), .val (.ref a2), .val (.ref a3), .val (.int (if p8.toInt < p6.toInt then p7 + (1 : Int32) else p7)), .val (.int p8), s15, .unset] []) :
    Go B0 Z a0 h0 (fun v _ => v = some (.int 1)) 3 14 [ar a1 .byte v94, ar a2 .int v91, ar a3 .int v92] 315 #[.val (.int p1), .val (.int p2), .val (.int p3), .val (.int p4), .val (.int p5), .val (.int p6), .val (.int z0), .val (.int z1), .val (.int z2), .val (.int z3), .val (.ref a1), .val (.ref a2), .val (.ref a3), .val (.int p7), .val (.int p8), .unset, .unset] [] := by
  show Go B0 Z a0 h0 _ 3 14 [ar a1 .byte v94, ar a2 .int v91, ar a3 .int v92] 315 #[.val (.int p1), .val (.int p2), .val (.int p3), .val (.int p4), .val (.int p5), .val (.int p6), .val (.int z0), .val (.int z1), .val (.int z2), .val (.int z3), .val (.ref a1), .val (.ref a2), .val (.ref a3), .val (.int p7), .val (.int p8), .unset, .unset] []
  refine go_iload 317 rfl at_315 rfl ?_
  refine go_iload 319 rfl at_317 rfl ?_
  refine go_icmp 386 322 rfl (by decide) rfl at_319 rfl (fun (hc319_15 : p6.toInt ≤ p8.toInt) => ?_) (fun (hc319_15 : ¬ (p6.toInt ≤ p8.toInt)) => ?_)
  · have hp : ¬ (p8.toInt < p6.toInt) := by omega
    simp only [if_neg hp] at K
    exact K _ (Or.inl rfl)
  · refine go_iload 324 rfl at_322 rfl ?_
    refine go_iconst (1 : Int32) 325 rfl at_324 rfl ?_
    refine go_icmp 333 328 rfl (by decide) rfl at_325 rfl (fun (hc325_16 : p6.toInt ≠ (1 : Int)) => ?_) (fun (hc325_16 : ¬ (p6.toInt ≠ (1 : Int))) => ?_)
    · refine go_iload 335 rfl at_333 rfl ?_
      refine go_iconst (2 : Int32) 336 rfl at_335 rfl ?_
      refine go_icmp 344 339 rfl (by decide) rfl at_336 rfl (fun (hc336_17 : p6.toInt ≠ (2 : Int)) => ?_) (fun (hc336_17 : ¬ (p6.toInt ≠ (2 : Int))) => ?_)
      · refine go_iload 346 rfl at_344 rfl ?_
        refine go_iconst (3 : Int32) 347 rfl at_346 rfl ?_
        refine go_icmp 355 350 rfl (by decide) rfl at_347 rfl (fun (hc347_18 : p6.toInt ≠ (3 : Int)) => ?_) (fun (hc347_18 : ¬ (p6.toInt ≠ (3 : Int))) => ?_)
        · refine go_iload 357 rfl at_355 rfl ?_
          refine go_istore #[.val (.int p1), .val (.int p2), .val (.int p3), .val (.int p4), .val (.int p5), .val (.int p6), .val (.int z0), .val (.int z1), .val (.int z2), .val (.int z3), .val (.ref a1), .val (.ref a2), .val (.ref a3), .val (.int p7), .val (.int p8), .val (.int z3), .unset] 359 rfl at_357 rfl rfl ?_
          refine go_aload 361 rfl at_359 rfl rfl ?_
          refine go_aload 363 rfl at_361 rfl rfl ?_
          refine go_iload 365 rfl at_363 rfl ?_
          refine go_iload 367 rfl at_365 rfl ?_
          refine go_iload 369 rfl at_367 rfl ?_
          refine go_iload 371 rfl at_369 rfl ?_
          refine go_bipush (13 : Int32) 373 rfl at_371 rfl ?_
          refine go_icmp 380 376 rfl (by decide) rfl at_373 rfl (fun (hc373_19 : z3.toInt ≠ (13 : Int)) => ?_) (fun (hc373_19 : ¬ (z3.toInt ≠ (13 : Int))) => ?_)
          · refine go_iconst (0 : Int32) 381 rfl at_380 rfl ?_
            refine Go.front 2 (Nat.le_of_ble_eq_true rfl) ?_
            refine Go.front 2 (Nat.le_of_ble_eq_true rfl) ?_
            show Go B0 Z a0 h0 _ 3 14 [ar a2 .int v91, ar a3 .int v92, ar a1 .byte v94] 381 #[.val (.int p1), .val (.int p2), .val (.int p3), .val (.int p4), .val (.int p5), .val (.int p6), .val (.int z0), .val (.int z1), .val (.int z2), .val (.int z3), .val (.ref a1), .val (.ref a2), .val (.ref a3), .val (.int p7), .val (.int p8), .val (.int z3), .unset] [(.int (0 : Int32)), (.int p6), (.int p8), (.int p7), (.ref a3), (.ref a2)]
            refine go_callS 384 rfl at_381 (wd hw 74 rfl) (wd hw 75 rfl) (wd hw 3 rfl) (wd hw 76 rfl) (by decide) (Met.frame [ar a1 .byte v94] (m_close Z a0 hw h0 a2 a3 v91 v92 p7 p8 p6 (0 : Int32) z3 (by omega) hE hF (fun q => by have e0 : (0 : Int32).toInt = 0 := rfl; have e1 : (1 : Int32).toInt = 1 := rfl; omega))) (argsL := [(.ref a2), (.ref a3), (.int p7), (.int p8), (.int p6), (.int (0 : Int32))]) (rest := []) rfl (ps := [(.array .int), (.array .int), .int, .int, .int, .boolean]) (by decide +kernel) rfl rfl 0 rfl (by decide) (by decide) (by decide) (by decide) ?_
            rintro _ _ ⟨_, ⟨rfl, rfl⟩, rfl⟩
            show Go B0 Z a0 h0 _ 3 14 [ar a2 .int (v91.set p7.toNatClampNeg (.int p8)), ar a3 .int (v92.set p7.toNatClampNeg (.int (trim p8 p6 z3))), ar a1 .byte v94] 384 #[.val (.int p1), .val (.int p2), .val (.int p3), .val (.int p4), .val (.int p5), .val (.int p6), .val (.int z0), .val (.int z1), .val (.int z2), .val (.int z3), .val (.ref a1), .val (.ref a2), .val (.ref a3), .val (.int p7), .val (.int p8), .val (.int z3), .unset] [(.int (p7 + (1 : Int32)))]
            refine Go.front 2 (Nat.le_of_ble_eq_true rfl) ?_
            show Go B0 Z a0 h0 _ 3 14 [ar a1 .byte v94, ar a2 .int (v91.set p7.toNatClampNeg (.int p8)), ar a3 .int (v92.set p7.toNatClampNeg (.int (trim p8 p6 z3)))] 384 #[.val (.int p1), .val (.int p2), .val (.int p3), .val (.int p4), .val (.int p5), .val (.int p6), .val (.int z0), .val (.int z1), .val (.int z2), .val (.int z3), .val (.ref a1), .val (.ref a2), .val (.ref a3), .val (.int p7), .val (.int p8), .val (.int z3), .unset] [(.int (p7 + (1 : Int32)))]
            refine go_istore #[.val (.int p1), .val (.int p2), .val (.int p3), .val (.int p4), .val (.int p5), .val (.int p6), .val (.int z0), .val (.int z1), .val (.int z2), .val (.int z3), .val (.ref a1), .val (.ref a2), .val (.ref a3), .val (.int (p7 + (1 : Int32))), .val (.int p8), .val (.int z3), .unset] 386 rfl at_384 rfl rfl ?_
            have el : lz p6 z0 z1 z2 z3 = z3 := by unfold lz; rw [if_neg (by omega), if_neg (by omega), if_neg (by omega)]
            have hp : p8.toInt < p6.toInt := by omega
            simp only [if_pos hp, el] at K
            exact K _ (Or.inr ⟨_, rfl⟩)
          · refine go_iconst (1 : Int32) 377 rfl at_376 rfl ?_
            refine go_goto 381 (by decide) rfl at_377 ?_
            refine Go.front 2 (Nat.le_of_ble_eq_true rfl) ?_
            refine Go.front 2 (Nat.le_of_ble_eq_true rfl) ?_
            show Go B0 Z a0 h0 _ 3 14 [ar a2 .int v91, ar a3 .int v92, ar a1 .byte v94] 381 #[.val (.int p1), .val (.int p2), .val (.int p3), .val (.int p4), .val (.int p5), .val (.int p6), .val (.int z0), .val (.int z1), .val (.int z2), .val (.int z3), .val (.ref a1), .val (.ref a2), .val (.ref a3), .val (.int p7), .val (.int p8), .val (.int z3), .unset] [(.int (1 : Int32)), (.int p6), (.int p8), (.int p7), (.ref a3), (.ref a2)]
            refine go_callS 384 rfl at_381 (wd hw 74 rfl) (wd hw 75 rfl) (wd hw 3 rfl) (wd hw 76 rfl) (by decide) (Met.frame [ar a1 .byte v94] (m_close Z a0 hw h0 a2 a3 v91 v92 p7 p8 p6 (1 : Int32) z3 (by omega) hE hF (fun q => by have e0 : (0 : Int32).toInt = 0 := rfl; have e1 : (1 : Int32).toInt = 1 := rfl; omega))) (argsL := [(.ref a2), (.ref a3), (.int p7), (.int p8), (.int p6), (.int (1 : Int32))]) (rest := []) rfl (ps := [(.array .int), (.array .int), .int, .int, .int, .boolean]) (by decide +kernel) rfl rfl 0 rfl (by decide) (by decide) (by decide) (by decide) ?_
            rintro _ _ ⟨_, ⟨rfl, rfl⟩, rfl⟩
            show Go B0 Z a0 h0 _ 3 14 [ar a2 .int (v91.set p7.toNatClampNeg (.int p8)), ar a3 .int (v92.set p7.toNatClampNeg (.int (trim p8 p6 z3))), ar a1 .byte v94] 384 #[.val (.int p1), .val (.int p2), .val (.int p3), .val (.int p4), .val (.int p5), .val (.int p6), .val (.int z0), .val (.int z1), .val (.int z2), .val (.int z3), .val (.ref a1), .val (.ref a2), .val (.ref a3), .val (.int p7), .val (.int p8), .val (.int z3), .unset] [(.int (p7 + (1 : Int32)))]
            refine Go.front 2 (Nat.le_of_ble_eq_true rfl) ?_
            show Go B0 Z a0 h0 _ 3 14 [ar a1 .byte v94, ar a2 .int (v91.set p7.toNatClampNeg (.int p8)), ar a3 .int (v92.set p7.toNatClampNeg (.int (trim p8 p6 z3)))] 384 #[.val (.int p1), .val (.int p2), .val (.int p3), .val (.int p4), .val (.int p5), .val (.int p6), .val (.int z0), .val (.int z1), .val (.int z2), .val (.int z3), .val (.ref a1), .val (.ref a2), .val (.ref a3), .val (.int p7), .val (.int p8), .val (.int z3), .unset] [(.int (p7 + (1 : Int32)))]
            refine go_istore #[.val (.int p1), .val (.int p2), .val (.int p3), .val (.int p4), .val (.int p5), .val (.int p6), .val (.int z0), .val (.int z1), .val (.int z2), .val (.int z3), .val (.ref a1), .val (.ref a2), .val (.ref a3), .val (.int (p7 + (1 : Int32))), .val (.int p8), .val (.int z3), .unset] 386 rfl at_384 rfl rfl ?_
            have el : lz p6 z0 z1 z2 z3 = z3 := by unfold lz; rw [if_neg (by omega), if_neg (by omega), if_neg (by omega)]
            have hp : p8.toInt < p6.toInt := by omega
            simp only [if_pos hp, el] at K
            exact K _ (Or.inr ⟨_, rfl⟩)
        · refine go_iload 352 rfl at_350 rfl ?_
          refine go_goto 357 (by decide) rfl at_352 ?_
          refine go_istore #[.val (.int p1), .val (.int p2), .val (.int p3), .val (.int p4), .val (.int p5), .val (.int p6), .val (.int z0), .val (.int z1), .val (.int z2), .val (.int z3), .val (.ref a1), .val (.ref a2), .val (.ref a3), .val (.int p7), .val (.int p8), .val (.int z2), .unset] 359 rfl at_357 rfl rfl ?_
          refine go_aload 361 rfl at_359 rfl rfl ?_
          refine go_aload 363 rfl at_361 rfl rfl ?_
          refine go_iload 365 rfl at_363 rfl ?_
          refine go_iload 367 rfl at_365 rfl ?_
          refine go_iload 369 rfl at_367 rfl ?_
          refine go_iload 371 rfl at_369 rfl ?_
          refine go_bipush (13 : Int32) 373 rfl at_371 rfl ?_
          refine go_icmp 380 376 rfl (by decide) rfl at_373 rfl (fun (hc373_20 : z2.toInt ≠ (13 : Int)) => ?_) (fun (hc373_20 : ¬ (z2.toInt ≠ (13 : Int))) => ?_)
          · refine go_iconst (0 : Int32) 381 rfl at_380 rfl ?_
            refine Go.front 2 (Nat.le_of_ble_eq_true rfl) ?_
            refine Go.front 2 (Nat.le_of_ble_eq_true rfl) ?_
            show Go B0 Z a0 h0 _ 3 14 [ar a2 .int v91, ar a3 .int v92, ar a1 .byte v94] 381 #[.val (.int p1), .val (.int p2), .val (.int p3), .val (.int p4), .val (.int p5), .val (.int p6), .val (.int z0), .val (.int z1), .val (.int z2), .val (.int z3), .val (.ref a1), .val (.ref a2), .val (.ref a3), .val (.int p7), .val (.int p8), .val (.int z2), .unset] [(.int (0 : Int32)), (.int p6), (.int p8), (.int p7), (.ref a3), (.ref a2)]
            refine go_callS 384 rfl at_381 (wd hw 74 rfl) (wd hw 75 rfl) (wd hw 3 rfl) (wd hw 76 rfl) (by decide) (Met.frame [ar a1 .byte v94] (m_close Z a0 hw h0 a2 a3 v91 v92 p7 p8 p6 (0 : Int32) z2 (by omega) hE hF (fun q => by have e0 : (0 : Int32).toInt = 0 := rfl; have e1 : (1 : Int32).toInt = 1 := rfl; omega))) (argsL := [(.ref a2), (.ref a3), (.int p7), (.int p8), (.int p6), (.int (0 : Int32))]) (rest := []) rfl (ps := [(.array .int), (.array .int), .int, .int, .int, .boolean]) (by decide +kernel) rfl rfl 0 rfl (by decide) (by decide) (by decide) (by decide) ?_
            rintro _ _ ⟨_, ⟨rfl, rfl⟩, rfl⟩
            show Go B0 Z a0 h0 _ 3 14 [ar a2 .int (v91.set p7.toNatClampNeg (.int p8)), ar a3 .int (v92.set p7.toNatClampNeg (.int (trim p8 p6 z2))), ar a1 .byte v94] 384 #[.val (.int p1), .val (.int p2), .val (.int p3), .val (.int p4), .val (.int p5), .val (.int p6), .val (.int z0), .val (.int z1), .val (.int z2), .val (.int z3), .val (.ref a1), .val (.ref a2), .val (.ref a3), .val (.int p7), .val (.int p8), .val (.int z2), .unset] [(.int (p7 + (1 : Int32)))]
            refine Go.front 2 (Nat.le_of_ble_eq_true rfl) ?_
            show Go B0 Z a0 h0 _ 3 14 [ar a1 .byte v94, ar a2 .int (v91.set p7.toNatClampNeg (.int p8)), ar a3 .int (v92.set p7.toNatClampNeg (.int (trim p8 p6 z2)))] 384 #[.val (.int p1), .val (.int p2), .val (.int p3), .val (.int p4), .val (.int p5), .val (.int p6), .val (.int z0), .val (.int z1), .val (.int z2), .val (.int z3), .val (.ref a1), .val (.ref a2), .val (.ref a3), .val (.int p7), .val (.int p8), .val (.int z2), .unset] [(.int (p7 + (1 : Int32)))]
            refine go_istore #[.val (.int p1), .val (.int p2), .val (.int p3), .val (.int p4), .val (.int p5), .val (.int p6), .val (.int z0), .val (.int z1), .val (.int z2), .val (.int z3), .val (.ref a1), .val (.ref a2), .val (.ref a3), .val (.int (p7 + (1 : Int32))), .val (.int p8), .val (.int z2), .unset] 386 rfl at_384 rfl rfl ?_
            have el : lz p6 z0 z1 z2 z3 = z2 := by unfold lz; rw [if_neg (by omega), if_neg (by omega), if_pos (by omega)]
            have hp : p8.toInt < p6.toInt := by omega
            simp only [if_pos hp, el] at K
            exact K _ (Or.inr ⟨_, rfl⟩)
          · refine go_iconst (1 : Int32) 377 rfl at_376 rfl ?_
            refine go_goto 381 (by decide) rfl at_377 ?_
            refine Go.front 2 (Nat.le_of_ble_eq_true rfl) ?_
            refine Go.front 2 (Nat.le_of_ble_eq_true rfl) ?_
            show Go B0 Z a0 h0 _ 3 14 [ar a2 .int v91, ar a3 .int v92, ar a1 .byte v94] 381 #[.val (.int p1), .val (.int p2), .val (.int p3), .val (.int p4), .val (.int p5), .val (.int p6), .val (.int z0), .val (.int z1), .val (.int z2), .val (.int z3), .val (.ref a1), .val (.ref a2), .val (.ref a3), .val (.int p7), .val (.int p8), .val (.int z2), .unset] [(.int (1 : Int32)), (.int p6), (.int p8), (.int p7), (.ref a3), (.ref a2)]
            refine go_callS 384 rfl at_381 (wd hw 74 rfl) (wd hw 75 rfl) (wd hw 3 rfl) (wd hw 76 rfl) (by decide) (Met.frame [ar a1 .byte v94] (m_close Z a0 hw h0 a2 a3 v91 v92 p7 p8 p6 (1 : Int32) z2 (by omega) hE hF (fun q => by have e0 : (0 : Int32).toInt = 0 := rfl; have e1 : (1 : Int32).toInt = 1 := rfl; omega))) (argsL := [(.ref a2), (.ref a3), (.int p7), (.int p8), (.int p6), (.int (1 : Int32))]) (rest := []) rfl (ps := [(.array .int), (.array .int), .int, .int, .int, .boolean]) (by decide +kernel) rfl rfl 0 rfl (by decide) (by decide) (by decide) (by decide) ?_
            rintro _ _ ⟨_, ⟨rfl, rfl⟩, rfl⟩
            show Go B0 Z a0 h0 _ 3 14 [ar a2 .int (v91.set p7.toNatClampNeg (.int p8)), ar a3 .int (v92.set p7.toNatClampNeg (.int (trim p8 p6 z2))), ar a1 .byte v94] 384 #[.val (.int p1), .val (.int p2), .val (.int p3), .val (.int p4), .val (.int p5), .val (.int p6), .val (.int z0), .val (.int z1), .val (.int z2), .val (.int z3), .val (.ref a1), .val (.ref a2), .val (.ref a3), .val (.int p7), .val (.int p8), .val (.int z2), .unset] [(.int (p7 + (1 : Int32)))]
            refine Go.front 2 (Nat.le_of_ble_eq_true rfl) ?_
            show Go B0 Z a0 h0 _ 3 14 [ar a1 .byte v94, ar a2 .int (v91.set p7.toNatClampNeg (.int p8)), ar a3 .int (v92.set p7.toNatClampNeg (.int (trim p8 p6 z2)))] 384 #[.val (.int p1), .val (.int p2), .val (.int p3), .val (.int p4), .val (.int p5), .val (.int p6), .val (.int z0), .val (.int z1), .val (.int z2), .val (.int z3), .val (.ref a1), .val (.ref a2), .val (.ref a3), .val (.int p7), .val (.int p8), .val (.int z2), .unset] [(.int (p7 + (1 : Int32)))]
            refine go_istore #[.val (.int p1), .val (.int p2), .val (.int p3), .val (.int p4), .val (.int p5), .val (.int p6), .val (.int z0), .val (.int z1), .val (.int z2), .val (.int z3), .val (.ref a1), .val (.ref a2), .val (.ref a3), .val (.int (p7 + (1 : Int32))), .val (.int p8), .val (.int z2), .unset] 386 rfl at_384 rfl rfl ?_
            have el : lz p6 z0 z1 z2 z3 = z2 := by unfold lz; rw [if_neg (by omega), if_neg (by omega), if_pos (by omega)]
            have hp : p8.toInt < p6.toInt := by omega
            simp only [if_pos hp, el] at K
            exact K _ (Or.inr ⟨_, rfl⟩)
      · refine go_iload 341 rfl at_339 rfl ?_
        refine go_goto 357 (by decide) rfl at_341 ?_
        refine go_istore #[.val (.int p1), .val (.int p2), .val (.int p3), .val (.int p4), .val (.int p5), .val (.int p6), .val (.int z0), .val (.int z1), .val (.int z2), .val (.int z3), .val (.ref a1), .val (.ref a2), .val (.ref a3), .val (.int p7), .val (.int p8), .val (.int z1), .unset] 359 rfl at_357 rfl rfl ?_
        refine go_aload 361 rfl at_359 rfl rfl ?_
        refine go_aload 363 rfl at_361 rfl rfl ?_
        refine go_iload 365 rfl at_363 rfl ?_
        refine go_iload 367 rfl at_365 rfl ?_
        refine go_iload 369 rfl at_367 rfl ?_
        refine go_iload 371 rfl at_369 rfl ?_
        refine go_bipush (13 : Int32) 373 rfl at_371 rfl ?_
        refine go_icmp 380 376 rfl (by decide) rfl at_373 rfl (fun (hc373_21 : z1.toInt ≠ (13 : Int)) => ?_) (fun (hc373_21 : ¬ (z1.toInt ≠ (13 : Int))) => ?_)
        · refine go_iconst (0 : Int32) 381 rfl at_380 rfl ?_
          refine Go.front 2 (Nat.le_of_ble_eq_true rfl) ?_
          refine Go.front 2 (Nat.le_of_ble_eq_true rfl) ?_
          show Go B0 Z a0 h0 _ 3 14 [ar a2 .int v91, ar a3 .int v92, ar a1 .byte v94] 381 #[.val (.int p1), .val (.int p2), .val (.int p3), .val (.int p4), .val (.int p5), .val (.int p6), .val (.int z0), .val (.int z1), .val (.int z2), .val (.int z3), .val (.ref a1), .val (.ref a2), .val (.ref a3), .val (.int p7), .val (.int p8), .val (.int z1), .unset] [(.int (0 : Int32)), (.int p6), (.int p8), (.int p7), (.ref a3), (.ref a2)]
          refine go_callS 384 rfl at_381 (wd hw 74 rfl) (wd hw 75 rfl) (wd hw 3 rfl) (wd hw 76 rfl) (by decide) (Met.frame [ar a1 .byte v94] (m_close Z a0 hw h0 a2 a3 v91 v92 p7 p8 p6 (0 : Int32) z1 (by omega) hE hF (fun q => by have e0 : (0 : Int32).toInt = 0 := rfl; have e1 : (1 : Int32).toInt = 1 := rfl; omega))) (argsL := [(.ref a2), (.ref a3), (.int p7), (.int p8), (.int p6), (.int (0 : Int32))]) (rest := []) rfl (ps := [(.array .int), (.array .int), .int, .int, .int, .boolean]) (by decide +kernel) rfl rfl 0 rfl (by decide) (by decide) (by decide) (by decide) ?_
          rintro _ _ ⟨_, ⟨rfl, rfl⟩, rfl⟩
          show Go B0 Z a0 h0 _ 3 14 [ar a2 .int (v91.set p7.toNatClampNeg (.int p8)), ar a3 .int (v92.set p7.toNatClampNeg (.int (trim p8 p6 z1))), ar a1 .byte v94] 384 #[.val (.int p1), .val (.int p2), .val (.int p3), .val (.int p4), .val (.int p5), .val (.int p6), .val (.int z0), .val (.int z1), .val (.int z2), .val (.int z3), .val (.ref a1), .val (.ref a2), .val (.ref a3), .val (.int p7), .val (.int p8), .val (.int z1), .unset] [(.int (p7 + (1 : Int32)))]
          refine Go.front 2 (Nat.le_of_ble_eq_true rfl) ?_
          show Go B0 Z a0 h0 _ 3 14 [ar a1 .byte v94, ar a2 .int (v91.set p7.toNatClampNeg (.int p8)), ar a3 .int (v92.set p7.toNatClampNeg (.int (trim p8 p6 z1)))] 384 #[.val (.int p1), .val (.int p2), .val (.int p3), .val (.int p4), .val (.int p5), .val (.int p6), .val (.int z0), .val (.int z1), .val (.int z2), .val (.int z3), .val (.ref a1), .val (.ref a2), .val (.ref a3), .val (.int p7), .val (.int p8), .val (.int z1), .unset] [(.int (p7 + (1 : Int32)))]
          refine go_istore #[.val (.int p1), .val (.int p2), .val (.int p3), .val (.int p4), .val (.int p5), .val (.int p6), .val (.int z0), .val (.int z1), .val (.int z2), .val (.int z3), .val (.ref a1), .val (.ref a2), .val (.ref a3), .val (.int (p7 + (1 : Int32))), .val (.int p8), .val (.int z1), .unset] 386 rfl at_384 rfl rfl ?_
          have el : lz p6 z0 z1 z2 z3 = z1 := by unfold lz; rw [if_neg (by omega), if_pos (by omega)]
          have hp : p8.toInt < p6.toInt := by omega
          simp only [if_pos hp, el] at K
          exact K _ (Or.inr ⟨_, rfl⟩)
        · refine go_iconst (1 : Int32) 377 rfl at_376 rfl ?_
          refine go_goto 381 (by decide) rfl at_377 ?_
          refine Go.front 2 (Nat.le_of_ble_eq_true rfl) ?_
          refine Go.front 2 (Nat.le_of_ble_eq_true rfl) ?_
          show Go B0 Z a0 h0 _ 3 14 [ar a2 .int v91, ar a3 .int v92, ar a1 .byte v94] 381 #[.val (.int p1), .val (.int p2), .val (.int p3), .val (.int p4), .val (.int p5), .val (.int p6), .val (.int z0), .val (.int z1), .val (.int z2), .val (.int z3), .val (.ref a1), .val (.ref a2), .val (.ref a3), .val (.int p7), .val (.int p8), .val (.int z1), .unset] [(.int (1 : Int32)), (.int p6), (.int p8), (.int p7), (.ref a3), (.ref a2)]
          refine go_callS 384 rfl at_381 (wd hw 74 rfl) (wd hw 75 rfl) (wd hw 3 rfl) (wd hw 76 rfl) (by decide) (Met.frame [ar a1 .byte v94] (m_close Z a0 hw h0 a2 a3 v91 v92 p7 p8 p6 (1 : Int32) z1 (by omega) hE hF (fun q => by have e0 : (0 : Int32).toInt = 0 := rfl; have e1 : (1 : Int32).toInt = 1 := rfl; omega))) (argsL := [(.ref a2), (.ref a3), (.int p7), (.int p8), (.int p6), (.int (1 : Int32))]) (rest := []) rfl (ps := [(.array .int), (.array .int), .int, .int, .int, .boolean]) (by decide +kernel) rfl rfl 0 rfl (by decide) (by decide) (by decide) (by decide) ?_
          rintro _ _ ⟨_, ⟨rfl, rfl⟩, rfl⟩
          show Go B0 Z a0 h0 _ 3 14 [ar a2 .int (v91.set p7.toNatClampNeg (.int p8)), ar a3 .int (v92.set p7.toNatClampNeg (.int (trim p8 p6 z1))), ar a1 .byte v94] 384 #[.val (.int p1), .val (.int p2), .val (.int p3), .val (.int p4), .val (.int p5), .val (.int p6), .val (.int z0), .val (.int z1), .val (.int z2), .val (.int z3), .val (.ref a1), .val (.ref a2), .val (.ref a3), .val (.int p7), .val (.int p8), .val (.int z1), .unset] [(.int (p7 + (1 : Int32)))]
          refine Go.front 2 (Nat.le_of_ble_eq_true rfl) ?_
          show Go B0 Z a0 h0 _ 3 14 [ar a1 .byte v94, ar a2 .int (v91.set p7.toNatClampNeg (.int p8)), ar a3 .int (v92.set p7.toNatClampNeg (.int (trim p8 p6 z1)))] 384 #[.val (.int p1), .val (.int p2), .val (.int p3), .val (.int p4), .val (.int p5), .val (.int p6), .val (.int z0), .val (.int z1), .val (.int z2), .val (.int z3), .val (.ref a1), .val (.ref a2), .val (.ref a3), .val (.int p7), .val (.int p8), .val (.int z1), .unset] [(.int (p7 + (1 : Int32)))]
          refine go_istore #[.val (.int p1), .val (.int p2), .val (.int p3), .val (.int p4), .val (.int p5), .val (.int p6), .val (.int z0), .val (.int z1), .val (.int z2), .val (.int z3), .val (.ref a1), .val (.ref a2), .val (.ref a3), .val (.int (p7 + (1 : Int32))), .val (.int p8), .val (.int z1), .unset] 386 rfl at_384 rfl rfl ?_
          have el : lz p6 z0 z1 z2 z3 = z1 := by unfold lz; rw [if_neg (by omega), if_pos (by omega)]
          have hp : p8.toInt < p6.toInt := by omega
          simp only [if_pos hp, el] at K
          exact K _ (Or.inr ⟨_, rfl⟩)
    · refine go_iload 330 rfl at_328 rfl ?_
      refine go_goto 357 (by decide) rfl at_330 ?_
      refine go_istore #[.val (.int p1), .val (.int p2), .val (.int p3), .val (.int p4), .val (.int p5), .val (.int p6), .val (.int z0), .val (.int z1), .val (.int z2), .val (.int z3), .val (.ref a1), .val (.ref a2), .val (.ref a3), .val (.int p7), .val (.int p8), .val (.int z0), .unset] 359 rfl at_357 rfl rfl ?_
      refine go_aload 361 rfl at_359 rfl rfl ?_
      refine go_aload 363 rfl at_361 rfl rfl ?_
      refine go_iload 365 rfl at_363 rfl ?_
      refine go_iload 367 rfl at_365 rfl ?_
      refine go_iload 369 rfl at_367 rfl ?_
      refine go_iload 371 rfl at_369 rfl ?_
      refine go_bipush (13 : Int32) 373 rfl at_371 rfl ?_
      refine go_icmp 380 376 rfl (by decide) rfl at_373 rfl (fun (hc373_22 : z0.toInt ≠ (13 : Int)) => ?_) (fun (hc373_22 : ¬ (z0.toInt ≠ (13 : Int))) => ?_)
      · refine go_iconst (0 : Int32) 381 rfl at_380 rfl ?_
        refine Go.front 2 (Nat.le_of_ble_eq_true rfl) ?_
        refine Go.front 2 (Nat.le_of_ble_eq_true rfl) ?_
        show Go B0 Z a0 h0 _ 3 14 [ar a2 .int v91, ar a3 .int v92, ar a1 .byte v94] 381 #[.val (.int p1), .val (.int p2), .val (.int p3), .val (.int p4), .val (.int p5), .val (.int p6), .val (.int z0), .val (.int z1), .val (.int z2), .val (.int z3), .val (.ref a1), .val (.ref a2), .val (.ref a3), .val (.int p7), .val (.int p8), .val (.int z0), .unset] [(.int (0 : Int32)), (.int p6), (.int p8), (.int p7), (.ref a3), (.ref a2)]
        refine go_callS 384 rfl at_381 (wd hw 74 rfl) (wd hw 75 rfl) (wd hw 3 rfl) (wd hw 76 rfl) (by decide) (Met.frame [ar a1 .byte v94] (m_close Z a0 hw h0 a2 a3 v91 v92 p7 p8 p6 (0 : Int32) z0 (by omega) hE hF (fun q => by have e0 : (0 : Int32).toInt = 0 := rfl; have e1 : (1 : Int32).toInt = 1 := rfl; omega))) (argsL := [(.ref a2), (.ref a3), (.int p7), (.int p8), (.int p6), (.int (0 : Int32))]) (rest := []) rfl (ps := [(.array .int), (.array .int), .int, .int, .int, .boolean]) (by decide +kernel) rfl rfl 0 rfl (by decide) (by decide) (by decide) (by decide) ?_
        rintro _ _ ⟨_, ⟨rfl, rfl⟩, rfl⟩
        show Go B0 Z a0 h0 _ 3 14 [ar a2 .int (v91.set p7.toNatClampNeg (.int p8)), ar a3 .int (v92.set p7.toNatClampNeg (.int (trim p8 p6 z0))), ar a1 .byte v94] 384 #[.val (.int p1), .val (.int p2), .val (.int p3), .val (.int p4), .val (.int p5), .val (.int p6), .val (.int z0), .val (.int z1), .val (.int z2), .val (.int z3), .val (.ref a1), .val (.ref a2), .val (.ref a3), .val (.int p7), .val (.int p8), .val (.int z0), .unset] [(.int (p7 + (1 : Int32)))]
        refine Go.front 2 (Nat.le_of_ble_eq_true rfl) ?_
        show Go B0 Z a0 h0 _ 3 14 [ar a1 .byte v94, ar a2 .int (v91.set p7.toNatClampNeg (.int p8)), ar a3 .int (v92.set p7.toNatClampNeg (.int (trim p8 p6 z0)))] 384 #[.val (.int p1), .val (.int p2), .val (.int p3), .val (.int p4), .val (.int p5), .val (.int p6), .val (.int z0), .val (.int z1), .val (.int z2), .val (.int z3), .val (.ref a1), .val (.ref a2), .val (.ref a3), .val (.int p7), .val (.int p8), .val (.int z0), .unset] [(.int (p7 + (1 : Int32)))]
        refine go_istore #[.val (.int p1), .val (.int p2), .val (.int p3), .val (.int p4), .val (.int p5), .val (.int p6), .val (.int z0), .val (.int z1), .val (.int z2), .val (.int z3), .val (.ref a1), .val (.ref a2), .val (.ref a3), .val (.int (p7 + (1 : Int32))), .val (.int p8), .val (.int z0), .unset] 386 rfl at_384 rfl rfl ?_
        have el : lz p6 z0 z1 z2 z3 = z0 := by unfold lz; rw [if_pos (by omega)]
        have hp : p8.toInt < p6.toInt := by omega
        simp only [if_pos hp, el] at K
        exact K _ (Or.inr ⟨_, rfl⟩)
      · refine go_iconst (1 : Int32) 377 rfl at_376 rfl ?_
        refine go_goto 381 (by decide) rfl at_377 ?_
        refine Go.front 2 (Nat.le_of_ble_eq_true rfl) ?_
        refine Go.front 2 (Nat.le_of_ble_eq_true rfl) ?_
        show Go B0 Z a0 h0 _ 3 14 [ar a2 .int v91, ar a3 .int v92, ar a1 .byte v94] 381 #[.val (.int p1), .val (.int p2), .val (.int p3), .val (.int p4), .val (.int p5), .val (.int p6), .val (.int z0), .val (.int z1), .val (.int z2), .val (.int z3), .val (.ref a1), .val (.ref a2), .val (.ref a3), .val (.int p7), .val (.int p8), .val (.int z0), .unset] [(.int (1 : Int32)), (.int p6), (.int p8), (.int p7), (.ref a3), (.ref a2)]
        refine go_callS 384 rfl at_381 (wd hw 74 rfl) (wd hw 75 rfl) (wd hw 3 rfl) (wd hw 76 rfl) (by decide) (Met.frame [ar a1 .byte v94] (m_close Z a0 hw h0 a2 a3 v91 v92 p7 p8 p6 (1 : Int32) z0 (by omega) hE hF (fun q => by have e0 : (0 : Int32).toInt = 0 := rfl; have e1 : (1 : Int32).toInt = 1 := rfl; omega))) (argsL := [(.ref a2), (.ref a3), (.int p7), (.int p8), (.int p6), (.int (1 : Int32))]) (rest := []) rfl (ps := [(.array .int), (.array .int), .int, .int, .int, .boolean]) (by decide +kernel) rfl rfl 0 rfl (by decide) (by decide) (by decide) (by decide) ?_
        rintro _ _ ⟨_, ⟨rfl, rfl⟩, rfl⟩
        show Go B0 Z a0 h0 _ 3 14 [ar a2 .int (v91.set p7.toNatClampNeg (.int p8)), ar a3 .int (v92.set p7.toNatClampNeg (.int (trim p8 p6 z0))), ar a1 .byte v94] 384 #[.val (.int p1), .val (.int p2), .val (.int p3), .val (.int p4), .val (.int p5), .val (.int p6), .val (.int z0), .val (.int z1), .val (.int z2), .val (.int z3), .val (.ref a1), .val (.ref a2), .val (.ref a3), .val (.int p7), .val (.int p8), .val (.int z0), .unset] [(.int (p7 + (1 : Int32)))]
        refine Go.front 2 (Nat.le_of_ble_eq_true rfl) ?_
        show Go B0 Z a0 h0 _ 3 14 [ar a1 .byte v94, ar a2 .int (v91.set p7.toNatClampNeg (.int p8)), ar a3 .int (v92.set p7.toNatClampNeg (.int (trim p8 p6 z0)))] 384 #[.val (.int p1), .val (.int p2), .val (.int p3), .val (.int p4), .val (.int p5), .val (.int p6), .val (.int z0), .val (.int z1), .val (.int z2), .val (.int z3), .val (.ref a1), .val (.ref a2), .val (.ref a3), .val (.int p7), .val (.int p8), .val (.int z0), .unset] [(.int (p7 + (1 : Int32)))]
        refine go_istore #[.val (.int p1), .val (.int p2), .val (.int p3), .val (.int p4), .val (.int p5), .val (.int p6), .val (.int z0), .val (.int z1), .val (.int z2), .val (.int z3), .val (.ref a1), .val (.ref a2), .val (.ref a3), .val (.int (p7 + (1 : Int32))), .val (.int p8), .val (.int z0), .unset] 386 rfl at_384 rfl rfl ?_
        have el : lz p6 z0 z1 z2 z3 = z0 := by unfold lz; rw [if_pos (by omega)]
        have hp : p8.toInt < p6.toInt := by omega
        simp only [if_pos hp, el] at K
        exact K _ (Or.inr ⟨_, rfl⟩)
theorem d7_0 : decode jdk_22_method_1_code 0 = .ok (.aload_n 0, 1) := by decide +kernel
theorem d7_1 : decode jdk_22_method_1_code 1 = .ok (.invokespecial 1, 3) := by decide +kernel
theorem d7_4 : decode jdk_22_method_1_code 4 = .ok (.return_, 1) := by decide +kernel
theorem pn7 : plainFor (⟨"java/util/AbstractCollection", "<init>", "()V"⟩ : MethodName) = true := by first | (apply plainFor_of_name; simp [plainName, overriddenIn]; done) | decide +kernel
def B7_27 : Bdy := (⟨"java/util/AbstractCollection", "<init>", "()V"⟩, jdk_22_method_1_code, 1, none, ({ frames := 1, cells := 0, slots := 0, locals := 12 } : Room))
set_option maxRecDepth 65536 in
set_option maxHeartbeats 4000000 in
theorem mt27 (Z : State) (a0 : Array Value) (hw : ∀ d ∈ tables_1, d.before a0 Z = true) (h0 : Heap) (a12 : Addr) (a113 : Addr) (a114 : Addr) :
    Met B7_27 Z a0 h0 #[(.ref a114)] (mem7 a12 a113 a114) (Ret none (mem7 a12 a113 a114)) := by
  refine Met.of pn7 (ls := #[.val (.ref a114)]) (fun m => by first | (simp [entryFrame, mkF, argsToLocals, Value.category, B7_27]; done) | rfl) ?_
  show Go B7_27 Z a0 h0 _ 0 0 (mem7 a12 a113 a114) 0 #[.val (.ref a114)] []
  refine go_aloadN 1 rfl d7_0 rfl rfl ?_
  refine go_initObj 4 rfl d7_1 rfl (wd hw 42 rfl) (wd hw 17 rfl) (wd hw 18 rfl) rfl (by decide) (by decide) ?_
  exact go_return d7_4 rfl rfl (by decide) (by decide) ⟨rfl, rfl⟩
theorem d6_0 : decode jdk_39_method_1_code 0 = .ok (.aload_n 0, 1) := by decide +kernel
theorem d6_1 : decode jdk_39_method_1_code 1 = .ok (.invokespecial 1, 3) := by decide +kernel
theorem d6_4 : decode jdk_39_method_1_code 4 = .ok (.aload_n 0, 1) := by decide +kernel
theorem d6_5 : decode jdk_39_method_1_code 5 = .ok (.iconst 0, 1) := by decide +kernel
theorem d6_6 : decode jdk_39_method_1_code 6 = .ok (.putfield 7, 3) := by decide +kernel
theorem d6_9 : decode jdk_39_method_1_code 9 = .ok (.return_, 1) := by decide +kernel
theorem pn6 : plainFor (⟨"java/util/AbstractList", "<init>", "()V"⟩ : MethodName) = true := by first | (apply plainFor_of_name; simp [plainName, overriddenIn]; done) | decide +kernel
def B6_26 : Bdy := (⟨"java/util/AbstractList", "<init>", "()V"⟩, jdk_39_method_1_code, 1, none, ({ frames := 2, cells := 0, slots := 0, locals := 24 } : Room))
set_option maxRecDepth 65536 in
set_option maxHeartbeats 4000000 in
theorem mt26 (Z : State) (a0 : Array Value) (hw : ∀ d ∈ tables_1, d.before a0 Z = true) (h0 : Heap) (a12 : Addr) (a113 : Addr) (a114 : Addr) :
    Met B6_26 Z a0 h0 #[(.ref a114)] (mem7 a12 a113 a114) (Ret none (mem7 a12 a113 a114)) := by
  refine Met.of pn6 (ls := #[.val (.ref a114)]) (fun m => by first | (simp [entryFrame, mkF, argsToLocals, Value.category, B6_26]; done) | rfl) ?_
  show Go B6_26 Z a0 h0 _ 0 0 (mem7 a12 a113 a114) 0 #[.val (.ref a114)] []
  refine go_aloadN 1 rfl d6_0 rfl rfl ?_
  refine go_callI 4 rfl d6_1 rfl (wd hw 36 rfl) (wd hw 37 rfl) (wd hw 40 rfl) (wd hw 41 rfl) (by decide) (mt27 Z a0 hw h0 a12 a113 a114) (argsL := []) (rest := []) rfl (ret := none) (ps := []) (by decide +kernel) rfl rfl 0 rfl (by decide) (by decide) (by decide) (by decide) ?_
  rintro _ _ ⟨rfl, rfl⟩
  show Go B6_26 Z a0 h0 _ 0 0 (mem7 a12 a113 a114) 4 #[.val (.ref a114)] []
  refine go_aloadN 5 rfl d6_4 rfl rfl ?_
  refine go_iconst (0 : Int32) 6 rfl d6_5 rfl ?_
  refine go_put 2 1 9 rfl d6_6 rfl rfl rfl (wd hw 43 rfl) (Or.inl (wd hw 44 rfl)) (wd hw 24 rfl) (ty := .int) (by decide) rfl rfl ?_
  show Go B6_26 Z a0 h0 _ 0 0 (mem7 a12 a113 a114) 9 #[.val (.ref a114)] []
  exact go_return d6_9 rfl rfl (by decide) (by decide) ⟨rfl, rfl⟩
theorem d5_0 : decode prog_17_method_1_code 0 = .ok (.aload_n 0, 1) := by decide +kernel
theorem d5_1 : decode prog_17_method_1_code 1 = .ok (.aload_n 1, 1) := by decide +kernel
theorem d5_2 : decode prog_17_method_1_code 2 = .ok (.putfield 3, 3) := by decide +kernel
theorem d5_5 : decode prog_17_method_1_code 5 = .ok (.aload_n 0, 1) := by decide +kernel
theorem d5_6 : decode prog_17_method_1_code 6 = .ok (.invokespecial 9, 3) := by decide +kernel
theorem d5_9 : decode prog_17_method_1_code 9 = .ok (.return_, 1) := by decide +kernel
theorem pn5 : plainFor (⟨"com/example/clauseline/clauseline/model/Document$Lines", "<init>", "(Lcom/example/clauseline/clauseline/model/Document;)V"⟩ : MethodName) = true := by first | (apply plainFor_of_name; simp [plainName, overriddenIn]; done) | decide +kernel
def B5_25 : Bdy := (⟨"com/example/clauseline/clauseline/model/Document$Lines", "<init>", "(Lcom/example/clauseline/clauseline/model/Document;)V"⟩, prog_17_method_1_code, 2, none, ({ frames := 3, cells := 0, slots := 0, locals := 36 } : Room))
set_option maxRecDepth 65536 in
set_option maxHeartbeats 4000000 in
theorem mt25 (Z : State) (a0 : Array Value) (hw : ∀ d ∈ tables_1, d.before a0 Z = true) (h0 : Heap) (a12 : Addr) (a113 : Addr) (a114 : Addr) :
    Met B5_25 Z a0 h0 #[(.ref a114), (.ref a12)] (mem6 a12 a113 a114) (Ret none (mem7 a12 a113 a114)) := by
  refine Met.of pn5 (ls := #[.val (.ref a114), .val (.ref a12)]) (fun m => by first | (simp [entryFrame, mkF, argsToLocals, Value.category, B5_25]; done) | rfl) ?_
  show Go B5_25 Z a0 h0 _ 0 0 (mem6 a12 a113 a114) 0 #[.val (.ref a114), .val (.ref a12)] []
  refine go_aloadN 1 rfl d5_0 rfl rfl ?_
  refine go_aloadN 2 rfl d5_1 rfl rfl ?_
  refine go_put 2 0 5 rfl d5_2 rfl rfl rfl (wd hw 29 rfl) (Or.inr ⟨(wd hw 30 rfl), rfl, rfl⟩) (wd hw 24 rfl) (ty := (.object "com/example/clauseline/clauseline/model/Document")) (by decide) rfl rfl ?_
  show Go B5_25 Z a0 h0 _ 0 0 (mem7 a12 a113 a114) 5 #[.val (.ref a114), .val (.ref a12)] []
  refine go_aloadN 6 rfl d5_5 rfl rfl ?_
  refine go_callI 9 rfl d5_6 rfl (wd hw 31 rfl) (wd hw 32 rfl) (wd hw 34 rfl) (wd hw 35 rfl) (by decide) (mt26 Z a0 hw h0 a12 a113 a114) (argsL := []) (rest := []) rfl (ret := none) (ps := []) (by decide +kernel) rfl rfl 0 rfl (by decide) (by decide) (by decide) (by decide) ?_
  rintro _ _ ⟨rfl, rfl⟩
  show Go B5_25 Z a0 h0 _ 0 0 (mem7 a12 a113 a114) 9 #[.val (.ref a114), .val (.ref a12)] []
  exact go_return d5_9 rfl rfl (by decide) (by decide) ⟨rfl, rfl⟩
theorem d3_0 : decode prog_16_method_1_code 0 = .ok (.aload_n 0, 1) := by decide +kernel
theorem d3_1 : decode prog_16_method_1_code 1 = .ok (.invokespecial 1, 3) := by decide +kernel
theorem d3_4 : decode prog_16_method_1_code 4 = .ok (.aload_n 0, 1) := by decide +kernel
theorem d3_5 : decode prog_16_method_1_code 5 = .ok (.bipush 16, 2) := by decide +kernel
theorem d3_7 : decode prog_16_method_1_code 7 = .ok (.anewarray 9, 3) := by decide +kernel
theorem d3_10 : decode prog_16_method_1_code 10 = .ok (.putfield 11, 3) := by decide +kernel
theorem d3_13 : decode prog_16_method_1_code 13 = .ok (.aload_n 0, 1) := by decide +kernel
theorem d3_14 : decode prog_16_method_1_code 14 = .ok (.new 15, 3) := by decide +kernel
theorem d3_17 : decode prog_16_method_1_code 17 = .ok (.dup, 1) := by decide +kernel
theorem d3_18 : decode prog_16_method_1_code 18 = .ok (.aload_n 0, 1) := by decide +kernel
theorem d3_19 : decode prog_16_method_1_code 19 = .ok (.invokespecial 17, 3) := by decide +kernel
theorem d3_22 : decode prog_16_method_1_code 22 = .ok (.putfield 20, 3) := by decide +kernel
theorem d3_25 : decode prog_16_method_1_code 25 = .ok (.aload_n 0, 1) := by decide +kernel
theorem d3_26 : decode prog_16_method_1_code 26 = .ok (.aload_n 1, 1) := by decide +kernel
theorem d3_27 : decode prog_16_method_1_code 27 = .ok (.putfield 24, 3) := by decide +kernel
theorem d3_30 : decode prog_16_method_1_code 30 = .ok (.aload_n 0, 1) := by decide +kernel
theorem d3_31 : decode prog_16_method_1_code 31 = .ok (.aload_n 2, 1) := by decide +kernel
theorem d3_32 : decode prog_16_method_1_code 32 = .ok (.putfield 28, 3) := by decide +kernel
theorem d3_35 : decode prog_16_method_1_code 35 = .ok (.return_, 1) := by decide +kernel
theorem pn3 : plainFor (⟨"com/example/clauseline/clauseline/model/Document", "<init>", "([B[I)V"⟩ : MethodName) = true := by first | (apply plainFor_of_name; simp [plainName, overriddenIn]; done) | decide +kernel
def B3_24 : Bdy := (⟨"com/example/clauseline/clauseline/model/Document", "<init>", "([B[I)V"⟩, prog_16_method_1_code, 3, none, ({ frames := 4, cells := 2, slots := 18, locals := 51 } : Room))
set_option maxRecDepth 65536 in
set_option maxHeartbeats 4000000 in
theorem mt24 (Z : State) (a0 : Array Value) (hw : ∀ d ∈ tables_1, d.before a0 Z = true) (h0 : Heap) (a1 : Addr) (a11 : Addr) (a12 : Addr) :
    Met B3_24 Z a0 h0 #[(.ref a12), (.ref a1), (.ref a11)] (mem1 a1 a11 a12) (fun v ds => ∃ a113 a114 : Addr, Ret none (mem11 a12 a113 a114 a1 a11) v ds) := by
  refine Met.of pn3 (ls := #[.val (.ref a12), .val (.ref a1), .val (.ref a11)]) (fun m => by first | (simp [entryFrame, mkF, argsToLocals, Value.category, B3_24]; done) | rfl) ?_
  show Go B3_24 Z a0 h0 _ 0 0 (mem1 a1 a11 a12) 0 #[.val (.ref a12), .val (.ref a1), .val (.ref a11)] []
  refine go_aloadN 1 rfl d3_0 rfl rfl ?_
  refine go_initObj 4 rfl d3_1 rfl (wd hw 16 rfl) (wd hw 17 rfl) (wd hw 18 rfl) rfl (by decide) (by decide) ?_
  refine go_aloadN 5 rfl d3_4 rfl rfl ?_
  refine go_bipush (16 : Int32) 7 rfl d3_5 rfl ?_
  refine go_anewarr 10 rfl d3_7 rfl (wd hw 19 rfl) (wd hw 20 rfl) (by decide) 16 (by decide) (by decide) (by decide) (by decide) (fun a113 => ?_)
  show Go B3_24 Z a0 h0 _ 1 16 (mem2 a1 a11 a12 a113) 10 #[.val (.ref a12), .val (.ref a1), .val (.ref a11)] [(.ref a113), (.ref a12)]
  refine go_put 2 0 13 rfl d3_10 rfl rfl rfl (wd hw 21 rfl) (Or.inr ⟨(wd hw 22 rfl), rfl, rfl⟩) (wd hw 12 rfl) (ty := (.array (.object "com/example/clauseline/clauseline/model/Line"))) (by decide) rfl rfl ?_
  show Go B3_24 Z a0 h0 _ 1 16 (mem3 a1 a11 a12 a113) 13 #[.val (.ref a12), .val (.ref a1), .val (.ref a11)] []
  refine go_aloadN 14 rfl d3_13 rfl rfl ?_
  refine go_new 17 rfl d3_14 (wd hw 23 rfl) (wd hw 24 rfl) (wd hw 25 rfl) (by decide) (by decide) [("com/example/clauseline/clauseline/model/Document$Lines", "this$0", "Lcom/example/clauseline/clauseline/model/Document;", .null), ("java/util/AbstractList", "modCount", "I", (.int (0 : Int32)))] ⟨⟨Or.inr (wd hw 30 rfl), _, rfl, rfl⟩, ⟨⟨Or.inl (wd hw 44 rfl), _, rfl, rfl⟩, trivial⟩⟩ (by decide) (fun a114 => ?_)
  show Go B3_24 Z a0 h0 _ 2 18 (mem4 a1 a11 a12 a113 a114) 17 #[.val (.ref a12), .val (.ref a1), .val (.ref a11)] [(.ref a114), (.ref a12)]
  refine go_dup 18 rfl d3_17 rfl rfl ?_
  refine go_aloadN 19 rfl d3_18 rfl rfl ?_
  refine Go.front 4 (Nat.le_of_ble_eq_true rfl) ?_
  refine Go.front 4 (Nat.le_of_ble_eq_true rfl) ?_
  refine Go.front 4 (Nat.le_of_ble_eq_true rfl) ?_
  show Go B3_24 Z a0 h0 _ 2 18 (mem5 a12 a113 a114 a1 a11) 19 #[.val (.ref a12), .val (.ref a1), .val (.ref a11)] [(.ref a12), (.ref a114), (.ref a114), (.ref a12)]
  refine go_callIR 22 rfl d3_19 rfl (wd hw 26 rfl) (wd hw 27 rfl) (wd hw 25 rfl) (wd hw 28 rfl) (by decide) (Met.frame [ar a1 .byte [], ar a11 .int []] (mt25 Z a0 hw h0 a12 a113 a114)) (argsL := [(.ref a12)]) (rest := [(.ref a114), (.ref a12)]) rfl (ret := none) (ps := [(.object "com/example/clauseline/clauseline/model/Document")]) (by decide +kernel) rfl rfl 2 rfl (by decide) (by decide) (by decide) (by decide) ?_
  rintro _ _ ⟨_, ⟨rfl, rfl⟩, rfl⟩
  show Go B3_24 Z a0 h0 _ 2 18 (mem8 a12 a113 a114 a1 a11) 22 #[.val (.ref a12), .val (.ref a1), .val (.ref a11)] [(.ref a114), (.ref a12)]
  refine go_put 0 1 25 rfl d3_22 rfl rfl rfl (wd hw 45 rfl) (Or.inr ⟨(wd hw 46 rfl), rfl, rfl⟩) (wd hw 12 rfl) (ty := (.object "java/util/List")) (by decide) rfl rfl ?_
  show Go B3_24 Z a0 h0 _ 2 18 (mem9 a12 a113 a114 a1 a11) 25 #[.val (.ref a12), .val (.ref a1), .val (.ref a11)] []
  refine go_aloadN 26 rfl d3_25 rfl rfl ?_
  refine go_aloadN 27 rfl d3_26 rfl rfl ?_
  refine go_put 0 2 30 rfl d3_27 rfl rfl rfl (wd hw 47 rfl) (Or.inr ⟨(wd hw 48 rfl), rfl, rfl⟩) (wd hw 12 rfl) (ty := (.array .byte)) (by decide) rfl rfl ?_
  show Go B3_24 Z a0 h0 _ 2 18 (mem10 a12 a113 a114 a1 a11) 30 #[.val (.ref a12), .val (.ref a1), .val (.ref a11)] []
  refine go_aloadN 31 rfl d3_30 rfl rfl ?_
  refine go_aloadN 32 rfl d3_31 rfl rfl ?_
  refine go_put 0 3 35 rfl d3_32 rfl rfl rfl (wd hw 49 rfl) (Or.inr ⟨(wd hw 50 rfl), rfl, rfl⟩) (wd hw 12 rfl) (ty := (.array .int)) (by decide) rfl rfl ?_
  show Go B3_24 Z a0 h0 _ 2 18 (mem11 a12 a113 a114 a1 a11) 35 #[.val (.ref a12), .val (.ref a1), .val (.ref a11)] []
  exact go_return d3_35 rfl rfl (by decide) (by decide) ⟨a113, a114, rfl, rfl⟩
theorem d2_0 : decode prog_16_method_2_code 0 = .ok (.iconst 0, 1) := by decide +kernel
theorem d2_1 : decode prog_16_method_2_code 1 = .ok (.istore_n 1, 1) := by decide +kernel
theorem d2_2 : decode prog_16_method_2_code 2 = .ok (.aload_n 0, 1) := by decide +kernel
theorem d2_3 : decode prog_16_method_2_code 3 = .ok (.astore_n 2, 1) := by decide +kernel
theorem d2_4 : decode prog_16_method_2_code 4 = .ok (.aload_n 2, 1) := by decide +kernel
theorem d2_5 : decode prog_16_method_2_code 5 = .ok (.arraylength, 1) := by decide +kernel
theorem d2_6 : decode prog_16_method_2_code 6 = .ok (.istore_n 3, 1) := by decide +kernel
theorem d2_7 : decode prog_16_method_2_code 7 = .ok (.iconst 0, 1) := by decide +kernel
theorem d2_8 : decode prog_16_method_2_code 8 = .ok (.istore 4, 2) := by decide +kernel
theorem d2_10 : decode prog_16_method_2_code 10 = .ok (.iload 4, 2) := by decide +kernel
theorem d2_12 : decode prog_16_method_2_code 12 = .ok (.iload_n 3, 1) := by decide +kernel
theorem d2_13 : decode prog_16_method_2_code 13 = .ok (.if_icmp .ge 25, 3) := by decide +kernel
theorem d2_38 : decode prog_16_method_2_code 38 = .ok (.aload_n 0, 1) := by decide +kernel
theorem d2_39 : decode prog_16_method_2_code 39 = .ok (.arraylength, 1) := by decide +kernel
theorem d2_40 : decode prog_16_method_2_code 40 = .ok (.ifCond .le 18, 3) := by decide +kernel
theorem d2_58 : decode prog_16_method_2_code 58 = .ok (.iconst 0, 1) := by decide +kernel
theorem d2_59 : decode prog_16_method_2_code 59 = .ok (.istore_n 2, 1) := by decide +kernel
theorem d2_60 : decode prog_16_method_2_code 60 = .ok (.iload_n 2, 1) := by decide +kernel
theorem d2_61 : decode prog_16_method_2_code 61 = .ok (.ifCond .eq 9, 3) := by decide +kernel
theorem d2_70 : decode prog_16_method_2_code 70 = .ok (.iload_n 1, 1) := by decide +kernel
theorem d2_71 : decode prog_16_method_2_code 71 = .ok (.newarray .int, 2) := by decide +kernel
theorem d2_73 : decode prog_16_method_2_code 73 = .ok (.astore_n 3, 1) := by decide +kernel
theorem d2_74 : decode prog_16_method_2_code 74 = .ok (.iconst 0, 1) := by decide +kernel
theorem d2_75 : decode prog_16_method_2_code 75 = .ok (.istore 4, 2) := by decide +kernel
theorem d2_77 : decode prog_16_method_2_code 77 = .ok (.iconst 0, 1) := by decide +kernel
theorem d2_78 : decode prog_16_method_2_code 78 = .ok (.istore 5, 2) := by decide +kernel
theorem d2_80 : decode prog_16_method_2_code 80 = .ok (.iload 5, 2) := by decide +kernel
theorem d2_82 : decode prog_16_method_2_code 82 = .ok (.aload_n 0, 1) := by decide +kernel
theorem d2_83 : decode prog_16_method_2_code 83 = .ok (.arraylength, 1) := by decide +kernel
theorem d2_84 : decode prog_16_method_2_code 84 = .ok (.if_icmp .ge 27, 3) := by decide +kernel
theorem d2_111 : decode prog_16_method_2_code 111 = .ok (.iload_n 2, 1) := by decide +kernel
theorem d2_112 : decode prog_16_method_2_code 112 = .ok (.ifCond .eq 9, 3) := by decide +kernel
theorem d2_121 : decode prog_16_method_2_code 121 = .ok (.new 7, 3) := by decide +kernel
theorem d2_124 : decode prog_16_method_2_code 124 = .ok (.dup, 1) := by decide +kernel
theorem d2_125 : decode prog_16_method_2_code 125 = .ok (.aload_n 0, 1) := by decide +kernel
theorem d2_126 : decode prog_16_method_2_code 126 = .ok (.aload_n 3, 1) := by decide +kernel
theorem d2_127 : decode prog_16_method_2_code 127 = .ok (.invokespecial 32, 3) := by decide +kernel
theorem d2_130 : decode prog_16_method_2_code 130 = .ok (.areturn, 1) := by decide +kernel
theorem pn2 : plainFor (⟨"com/example/clauseline/clauseline/model/Document", "of", "([B)Lcom/example/clauseline/clauseline/model/Document;"⟩ : MethodName) = true := by first | (apply plainFor_of_name; simp [plainName, overriddenIn]; done) | decide +kernel
def B2_n0 : Bdy := (⟨"com/example/clauseline/clauseline/model/Document", "of", "([B)Lcom/example/clauseline/clauseline/model/Document;"⟩, prog_16_method_2_code, 6, (some (.object "com/example/clauseline/clauseline/model/Document")), ({ frames := 5, cells := 4, slots := 22, locals := 66 } : Room))
set_option maxRecDepth 65536 in
set_option maxHeartbeats 4000000 in
theorem m_of0 (Z : State) (a0 : Array Value) (hw : ∀ d ∈ tables_1, d.before a0 Z = true) (h0 : Heap) (a1 : Addr) :
    Met B2_n0 Z a0 h0 #[(.ref a1)] [ar a1 .byte []] (fun v ds => ∃ a12 a13 a14 a11 : Addr, Ret (some (.ref a12)) (mem12 a12 a13 a14 a1 a11) v ds) := by
  refine Met.of pn2 (ls := #[.val (.ref a1), .unset, .unset, .unset, .unset, .unset]) (fun m => by first | (simp [entryFrame, mkF, argsToLocals, Value.category, B2_n0]; done) | rfl) ?_
  show Go B2_n0 Z a0 h0 _ 0 0 [ar a1 .byte []] 0 #[.val (.ref a1), .unset, .unset, .unset, .unset, .unset] []
  refine go_iconst (0 : Int32) 1 rfl d2_0 rfl ?_
  refine go_istoreN #[.val (.ref a1), .val (.int (0 : Int32)), .unset, .unset, .unset, .unset] 2 rfl d2_1 rfl rfl ?_
  refine go_aloadN 3 rfl d2_2 rfl rfl ?_
  refine go_astoreN #[.val (.ref a1), .val (.int (0 : Int32)), .val (.ref a1), .unset, .unset, .unset] 4 rfl d2_3 rfl rfl rfl ?_
  refine go_aloadN 5 rfl d2_4 rfl rfl ?_
  refine go_alen 0 6 rfl d2_5 rfl rfl ?_
  show Go B2_n0 Z a0 h0 _ 0 0 [ar a1 .byte []] 6 #[.val (.ref a1), .val (.int (0 : Int32)), .val (.ref a1), .unset, .unset, .unset] [(.int (0 : Int32))]
  refine go_istoreN #[.val (.ref a1), .val (.int (0 : Int32)), .val (.ref a1), .val (.int (0 : Int32)), .unset, .unset] 7 rfl d2_6 rfl rfl ?_
  refine go_iconst (0 : Int32) 8 rfl d2_7 rfl ?_
  refine go_istore #[.val (.ref a1), .val (.int (0 : Int32)), .val (.ref a1), .val (.int (0 : Int32)), .val (.int (0 : Int32)), .unset] 10 rfl d2_8 rfl rfl ?_
  refine go_iload 12 rfl d2_10 rfl ?_
  refine go_iloadN 13 rfl d2_12 rfl ?_
  refine go_icmp 38 16 rfl (by decide) rfl d2_13 rfl (fun (hc13 : (0 : Int) ≤ (0 : Int)) => ?_) (fun (hc13 : ¬ ((0 : Int) ≤ (0 : Int))) => absurd hc13 (by decide))
  refine go_aloadN 39 rfl d2_38 rfl rfl ?_
  refine go_alen 0 40 rfl d2_39 rfl rfl ?_
  show Go B2_n0 Z a0 h0 _ 0 0 [ar a1 .byte []] 40 #[.val (.ref a1), .val (.int (0 : Int32)), .val (.ref a1), .val (.int (0 : Int32)), .val (.int (0 : Int32)), .unset] [(.int (0 : Int32))]
  refine go_if 58 43 rfl (by decide) rfl d2_40 rfl (fun (hc40 : (0 : Int) ≤ 0) => ?_) (fun (hc40 : ¬ ((0 : Int) ≤ 0)) => absurd hc40 (by decide))
  refine go_iconst (0 : Int32) 59 rfl d2_58 rfl ?_
  refine go_istoreN #[.val (.ref a1), .val (.int (0 : Int32)), .val (.int (0 : Int32)), .val (.int (0 : Int32)), .val (.int (0 : Int32)), .unset] 60 rfl d2_59 rfl rfl ?_
  refine go_iloadN 61 rfl d2_60 rfl ?_
  refine go_if 70 64 rfl (by decide) rfl d2_61 rfl (fun (hc61 : (0 : Int) = 0) => ?_) (fun (hc61 : ¬ ((0 : Int) = 0)) => absurd hc61 (by decide))
  refine go_iloadN 71 rfl d2_70 rfl ?_
  refine go_newarr 73 rfl d2_71 rfl (wd hw 6 rfl) (by decide) 0 (by decide) (by decide) (by decide) (by decide) (fun a11 => ?_)
  show Go B2_n0 Z a0 h0 _ 1 0 [ar a1 .byte [], ar a11 .int []] 73 #[.val (.ref a1), .val (.int (0 : Int32)), .val (.int (0 : Int32)), .val (.int (0 : Int32)), .val (.int (0 : Int32)), .unset] [(.ref a11)]
  refine go_astoreN #[.val (.ref a1), .val (.int (0 : Int32)), .val (.int (0 : Int32)), .val (.ref a11), .val (.int (0 : Int32)), .unset] 74 rfl d2_73 rfl rfl rfl ?_
  refine go_iconst (0 : Int32) 75 rfl d2_74 rfl ?_
  refine go_istore #[.val (.ref a1), .val (.int (0 : Int32)), .val (.int (0 : Int32)), .val (.ref a11), .val (.int (0 : Int32)), .unset] 77 rfl d2_75 rfl rfl ?_
  refine go_iconst (0 : Int32) 78 rfl d2_77 rfl ?_
  refine go_istore #[.val (.ref a1), .val (.int (0 : Int32)), .val (.int (0 : Int32)), .val (.ref a11), .val (.int (0 : Int32)), .val (.int (0 : Int32))] 80 rfl d2_78 rfl rfl ?_
  refine go_iload 82 rfl d2_80 rfl ?_
  refine go_aloadN 83 rfl d2_82 rfl rfl ?_
  refine go_alen 0 84 rfl d2_83 rfl rfl ?_
  show Go B2_n0 Z a0 h0 _ 1 0 [ar a1 .byte [], ar a11 .int []] 84 #[.val (.ref a1), .val (.int (0 : Int32)), .val (.int (0 : Int32)), .val (.ref a11), .val (.int (0 : Int32)), .val (.int (0 : Int32))] [(.int (0 : Int32)), (.int (0 : Int32))]
  refine go_icmp 111 87 rfl (by decide) rfl d2_84 rfl (fun (hc84 : (0 : Int) ≤ (0 : Int)) => ?_) (fun (hc84 : ¬ ((0 : Int) ≤ (0 : Int))) => absurd hc84 (by decide))
  refine go_iloadN 112 rfl d2_111 rfl ?_
  refine go_if 121 115 rfl (by decide) rfl d2_112 rfl (fun (hc112 : (0 : Int) = 0) => ?_) (fun (hc112 : ¬ ((0 : Int) = 0)) => absurd hc112 (by decide))
  refine go_new 124 rfl d2_121 (wd hw 11 rfl) (wd hw 12 rfl) (wd hw 9 rfl) (by decide) (by decide) [("com/example/clauseline/clauseline/model/Document", "recent", "[Lcom/example/clauseline/clauseline/model/Line;", .null), ("com/example/clauseline/clauseline/model/Document", "lines", "Ljava/util/List;", .null), ("com/example/clauseline/clauseline/model/Document", "bytes", "[B", .null), ("com/example/clauseline/clauseline/model/Document", "breaks", "[I", .null)] ⟨⟨Or.inr (wd hw 22 rfl), _, rfl, rfl⟩, ⟨⟨Or.inr (wd hw 46 rfl), _, rfl, rfl⟩, ⟨⟨Or.inr (wd hw 48 rfl), _, rfl, rfl⟩, ⟨⟨Or.inr (wd hw 50 rfl), _, rfl, rfl⟩, trivial⟩⟩⟩⟩ (by decide) (fun a12 => ?_)
  show Go B2_n0 Z a0 h0 _ 2 4 (mem1 a1 a11 a12) 124 #[.val (.ref a1), .val (.int (0 : Int32)), .val (.int (0 : Int32)), .val (.ref a11), .val (.int (0 : Int32)), .val (.int (0 : Int32))] [(.ref a12)]
  refine go_dup 125 rfl d2_124 rfl rfl ?_
  refine go_aloadN 126 rfl d2_125 rfl rfl ?_
  refine go_aloadN 127 rfl d2_126 rfl rfl ?_
  refine go_callI 130 rfl d2_127 rfl (wd hw 13 rfl) (wd hw 14 rfl) (wd hw 9 rfl) (wd hw 15 rfl) (by decide) (mt24 Z a0 hw h0 a1 a11 a12) (argsL := [(.ref a1), (.ref a11)]) (rest := [(.ref a12)]) rfl (ret := none) (ps := [(.array .byte), (.array .int)]) (by decide +kernel) rfl rfl 1 rfl (by decide) (by decide) (by decide) (by decide) ?_
  rintro _ _ ⟨a13, a14, rfl, rfl⟩
  show Go B2_n0 Z a0 h0 _ 4 22 (mem11 a12 a13 a14 a1 a11) 130 #[.val (.ref a1), .val (.int (0 : Int32)), .val (.int (0 : Int32)), .val (.ref a11), .val (.int (0 : Int32)), .val (.int (0 : Int32))] [(.ref a12)]
  exact go_areturn d2_130 rfl rfl rfl rfl (by decide) (by decide) ⟨a12, a13, a14, a11, rfl, rfl⟩
def B3_29 : Bdy := (⟨"com/example/clauseline/clauseline/model/Document", "<init>", "([B[I)V"⟩, prog_16_method_1_code, 3, none, ({ frames := 4, cells := 2, slots := 18, locals := 51 } : Room))
set_option maxRecDepth 65536 in
set_option maxHeartbeats 4000000 in
theorem mt29 (Z : State) (a0 : Array Value) (hw : ∀ d ∈ tables_1, d.before a0 Z = true) (h0 : Heap) (a1 : Addr) (z0 : Int32) (a11 : Addr) (v93 : List Value) (a12 : Addr) :
    Met B3_29 Z a0 h0 #[(.ref a12), (.ref a1), (.ref a11)] (mem13 a1 z0 a11 v93 a12) (fun v ds => ∃ a113 a114 : Addr, Ret none (mem21 a12 a113 a114 a1 a11 z0 v93) v ds) := by
  refine Met.of pn3 (ls := #[.val (.ref a12), .val (.ref a1), .val (.ref a11)]) (fun m => by first | (simp [entryFrame, mkF, argsToLocals, Value.category, B3_29]; done) | rfl) ?_
  show Go B3_29 Z a0 h0 _ 0 0 (mem13 a1 z0 a11 v93 a12) 0 #[.val (.ref a12), .val (.ref a1), .val (.ref a11)] []
  refine go_aloadN 1 rfl d3_0 rfl rfl ?_
  refine go_initObj 4 rfl d3_1 rfl (wd hw 16 rfl) (wd hw 17 rfl) (wd hw 18 rfl) rfl (by decide) (by decide) ?_
  refine go_aloadN 5 rfl d3_4 rfl rfl ?_
  refine go_bipush (16 : Int32) 7 rfl d3_5 rfl ?_
  refine go_anewarr 10 rfl d3_7 rfl (wd hw 19 rfl) (wd hw 20 rfl) (by decide) 16 (by decide) (by decide) (by decide) (by decide) (fun a113 => ?_)
  show Go B3_29 Z a0 h0 _ 1 16 (mem14 a1 z0 a11 v93 a12 a113) 10 #[.val (.ref a12), .val (.ref a1), .val (.ref a11)] [(.ref a113), (.ref a12)]
  refine go_put 2 0 13 rfl d3_10 rfl rfl rfl (wd hw 21 rfl) (Or.inr ⟨(wd hw 22 rfl), rfl, rfl⟩) (wd hw 12 rfl) (ty := (.array (.object "com/example/clauseline/clauseline/model/Line"))) (by decide) rfl rfl ?_
  show Go B3_29 Z a0 h0 _ 1 16 (mem15 a1 z0 a11 v93 a12 a113) 13 #[.val (.ref a12), .val (.ref a1), .val (.ref a11)] []
  refine go_aloadN 14 rfl d3_13 rfl rfl ?_
  refine go_new 17 rfl d3_14 (wd hw 23 rfl) (wd hw 24 rfl) (wd hw 25 rfl) (by decide) (by decide) [("com/example/clauseline/clauseline/model/Document$Lines", "this$0", "Lcom/example/clauseline/clauseline/model/Document;", .null), ("java/util/AbstractList", "modCount", "I", (.int (0 : Int32)))] ⟨⟨Or.inr (wd hw 30 rfl), _, rfl, rfl⟩, ⟨⟨Or.inl (wd hw 44 rfl), _, rfl, rfl⟩, trivial⟩⟩ (by decide) (fun a114 => ?_)
  show Go B3_29 Z a0 h0 _ 2 18 (mem16 a1 z0 a11 v93 a12 a113 a114) 17 #[.val (.ref a12), .val (.ref a1), .val (.ref a11)] [(.ref a114), (.ref a12)]
  refine go_dup 18 rfl d3_17 rfl rfl ?_
  refine go_aloadN 19 rfl d3_18 rfl rfl ?_
  refine Go.front 4 (Nat.le_of_ble_eq_true rfl) ?_
  refine Go.front 4 (Nat.le_of_ble_eq_true rfl) ?_
  refine Go.front 4 (Nat.le_of_ble_eq_true rfl) ?_
  show Go B3_29 Z a0 h0 _ 2 18 (mem17 a12 a113 a114 a1 z0 a11 v93) 19 #[.val (.ref a12), .val (.ref a1), .val (.ref a11)] [(.ref a12), (.ref a114), (.ref a114), (.ref a12)]
  refine go_callIR 22 rfl d3_19 rfl (wd hw 26 rfl) (wd hw 27 rfl) (wd hw 25 rfl) (wd hw 28 rfl) (by decide) (Met.frame [ar a1 .byte [(.int z0)], ar a11 .int v93] (mt25 Z a0 hw h0 a12 a113 a114)) (argsL := [(.ref a12)]) (rest := [(.ref a114), (.ref a12)]) rfl (ret := none) (ps := [(.object "com/example/clauseline/clauseline/model/Document")]) (by decide +kernel) rfl rfl 2 rfl (by decide) (by decide) (by decide) (by decide) ?_
  rintro _ _ ⟨_, ⟨rfl, rfl⟩, rfl⟩
  show Go B3_29 Z a0 h0 _ 2 18 (mem18 a12 a113 a114 a1 z0 a11 v93) 22 #[.val (.ref a12), .val (.ref a1), .val (.ref a11)] [(.ref a114), (.ref a12)]
  refine go_put 0 1 25 rfl d3_22 rfl rfl rfl (wd hw 45 rfl) (Or.inr ⟨(wd hw 46 rfl), rfl, rfl⟩) (wd hw 12 rfl) (ty := (.object "java/util/List")) (by decide) rfl rfl ?_
  show Go B3_29 Z a0 h0 _ 2 18 (mem19 a12 a113 a114 a1 z0 a11 v93) 25 #[.val (.ref a12), .val (.ref a1), .val (.ref a11)] []
  refine go_aloadN 26 rfl d3_25 rfl rfl ?_
  refine go_aloadN 27 rfl d3_26 rfl rfl ?_
  refine go_put 0 2 30 rfl d3_27 rfl rfl rfl (wd hw 47 rfl) (Or.inr ⟨(wd hw 48 rfl), rfl, rfl⟩) (wd hw 12 rfl) (ty := (.array .byte)) (by decide) rfl rfl ?_
  show Go B3_29 Z a0 h0 _ 2 18 (mem20 a12 a113 a114 a1 z0 a11 v93) 30 #[.val (.ref a12), .val (.ref a1), .val (.ref a11)] []
  refine go_aloadN 31 rfl d3_30 rfl rfl ?_
  refine go_aloadN 32 rfl d3_31 rfl rfl ?_
  refine go_put 0 3 35 rfl d3_32 rfl rfl rfl (wd hw 49 rfl) (Or.inr ⟨(wd hw 50 rfl), rfl, rfl⟩) (wd hw 12 rfl) (ty := (.array .int)) (by decide) rfl rfl ?_
  show Go B3_29 Z a0 h0 _ 2 18 (mem21 a12 a113 a114 a1 a11 z0 v93) 35 #[.val (.ref a12), .val (.ref a1), .val (.ref a11)] []
  exact go_return d3_35 rfl rfl (by decide) (by decide) ⟨a113, a114, rfl, rfl⟩
theorem d2_16 : decode prog_16_method_2_code 16 = .ok (.aload_n 2, 1) := by decide +kernel
theorem d2_17 : decode prog_16_method_2_code 17 = .ok (.iload 4, 2) := by decide +kernel
theorem d2_19 : decode prog_16_method_2_code 19 = .ok (.baload, 1) := by decide +kernel
theorem d2_20 : decode prog_16_method_2_code 20 = .ok (.istore 5, 2) := by decide +kernel
theorem d2_22 : decode prog_16_method_2_code 22 = .ok (.iload 5, 2) := by decide +kernel
theorem d2_24 : decode prog_16_method_2_code 24 = .ok (.bipush 10, 2) := by decide +kernel
theorem d2_26 : decode prog_16_method_2_code 26 = .ok (.if_icmp .ne 6, 3) := by decide +kernel
theorem d2_29 : decode prog_16_method_2_code 29 = .ok (.iinc 1 1, 3) := by decide +kernel
theorem d2_32 : decode prog_16_method_2_code 32 = .ok (.iinc 4 1, 3) := by decide +kernel
theorem d2_35 : decode prog_16_method_2_code 35 = .ok (.goto (-25), 3) := by decide +kernel
theorem d2_43 : decode prog_16_method_2_code 43 = .ok (.aload_n 0, 1) := by decide +kernel
theorem d2_44 : decode prog_16_method_2_code 44 = .ok (.aload_n 0, 1) := by decide +kernel
theorem d2_45 : decode prog_16_method_2_code 45 = .ok (.arraylength, 1) := by decide +kernel
theorem d2_46 : decode prog_16_method_2_code 46 = .ok (.iconst 1, 1) := by decide +kernel
theorem d2_47 : decode prog_16_method_2_code 47 = .ok (.isub, 1) := by decide +kernel
theorem d2_48 : decode prog_16_method_2_code 48 = .ok (.baload, 1) := by decide +kernel
theorem d2_49 : decode prog_16_method_2_code 49 = .ok (.bipush 10, 2) := by decide +kernel
theorem d2_51 : decode prog_16_method_2_code 51 = .ok (.if_icmp .eq 7, 3) := by decide +kernel
theorem d2_54 : decode prog_16_method_2_code 54 = .ok (.iconst 1, 1) := by decide +kernel
theorem d2_55 : decode prog_16_method_2_code 55 = .ok (.goto 4, 3) := by decide +kernel
theorem d2_64 : decode prog_16_method_2_code 64 = .ok (.iload_n 1, 1) := by decide +kernel
theorem d2_65 : decode prog_16_method_2_code 65 = .ok (.iconst 1, 1) := by decide +kernel
theorem d2_66 : decode prog_16_method_2_code 66 = .ok (.iadd, 1) := by decide +kernel
theorem d2_67 : decode prog_16_method_2_code 67 = .ok (.goto 4, 3) := by decide +kernel
theorem d2_87 : decode prog_16_method_2_code 87 = .ok (.aload_n 0, 1) := by decide +kernel
theorem d2_88 : decode prog_16_method_2_code 88 = .ok (.iload 5, 2) := by decide +kernel
theorem d2_90 : decode prog_16_method_2_code 90 = .ok (.baload, 1) := by decide +kernel
theorem d2_91 : decode prog_16_method_2_code 91 = .ok (.bipush 10, 2) := by decide +kernel
theorem d2_93 : decode prog_16_method_2_code 93 = .ok (.if_icmp .ne 12, 3) := by decide +kernel
theorem d2_96 : decode prog_16_method_2_code 96 = .ok (.aload_n 3, 1) := by decide +kernel
theorem d2_97 : decode prog_16_method_2_code 97 = .ok (.iload 4, 2) := by decide +kernel
theorem d2_99 : decode prog_16_method_2_code 99 = .ok (.iinc 4 1, 3) := by decide +kernel
theorem d2_102 : decode prog_16_method_2_code 102 = .ok (.iload 5, 2) := by decide +kernel
theorem d2_104 : decode prog_16_method_2_code 104 = .ok (.iastore, 1) := by decide +kernel
theorem d2_105 : decode prog_16_method_2_code 105 = .ok (.iinc 5 1, 3) := by decide +kernel
theorem d2_108 : decode prog_16_method_2_code 108 = .ok (.goto (-28), 3) := by decide +kernel
theorem d2_115 : decode prog_16_method_2_code 115 = .ok (.aload_n 3, 1) := by decide +kernel
theorem d2_116 : decode prog_16_method_2_code 116 = .ok (.iload 4, 2) := by decide +kernel
theorem d2_118 : decode prog_16_method_2_code 118 = .ok (.aload_n 0, 1) := by decide +kernel
theorem d2_119 : decode prog_16_method_2_code 119 = .ok (.arraylength, 1) := by decide +kernel
theorem d2_120 : decode prog_16_method_2_code 120 = .ok (.iastore, 1) := by decide +kernel
def B2_n1 : Bdy := (⟨"com/example/clauseline/clauseline/model/Document", "of", "([B)Lcom/example/clauseline/clauseline/model/Document;"⟩, prog_16_method_2_code, 6, (some (.object "com/example/clauseline/clauseline/model/Document")), ({ frames := 5, cells := 4, slots := 27, locals := 66 } : Room))
set_option maxRecDepth 65536 in
set_option maxHeartbeats 4000000 in
theorem m_of1 (Z : State) (a0 : Array Value) (hw : ∀ d ∈ tables_1, d.before a0 Z = true) (h0 : Heap) (a1 : Addr) (z0 : Int32) :
    Met B2_n1 Z a0 h0 #[(.ref a1)] [ar a1 .byte [(.int z0)]] (fun v ds => ∃ a12 a13 a14 a11 : Addr, Ret (some (.ref a12)) (mem22 a12 a13 a14 a1 a11 z0) v ds) := by
  refine Met.of pn2 (ls := #[.val (.ref a1), .unset, .unset, .unset, .unset, .unset]) (fun m => by first | (simp [entryFrame, mkF, argsToLocals, Value.category, B2_n1]; done) | rfl) ?_
  show Go B2_n1 Z a0 h0 _ 0 0 [ar a1 .byte [(.int z0)]] 0 #[.val (.ref a1), .unset, .unset, .unset, .unset, .unset] []
  refine go_iconst (0 : Int32) 1 rfl d2_0 rfl ?_
  refine go_istoreN #[.val (.ref a1), .val (.int (0 : Int32)), .unset, .unset, .unset, .unset] 2 rfl d2_1 rfl rfl ?_
  refine go_aloadN 3 rfl d2_2 rfl rfl ?_
  refine go_astoreN #[.val (.ref a1), .val (.int (0 : Int32)), .val (.ref a1), .unset, .unset, .unset] 4 rfl d2_3 rfl rfl rfl ?_
  refine go_aloadN 5 rfl d2_4 rfl rfl ?_
  refine go_alen 0 6 rfl d2_5 rfl rfl ?_
  show Go B2_n1 Z a0 h0 _ 0 0 [ar a1 .byte [(.int z0)]] 6 #[.val (.ref a1), .val (.int (0 : Int32)), .val (.ref a1), .unset, .unset, .unset] [(.int (1 : Int32))]
  refine go_istoreN #[.val (.ref a1), .val (.int (0 : Int32)), .val (.ref a1), .val (.int (1 : Int32)), .unset, .unset] 7 rfl d2_6 rfl rfl ?_
  refine go_iconst (0 : Int32) 8 rfl d2_7 rfl ?_
  refine go_istore #[.val (.ref a1), .val (.int (0 : Int32)), .val (.ref a1), .val (.int (1 : Int32)), .val (.int (0 : Int32)), .unset] 10 rfl d2_8 rfl rfl ?_
  refine go_iload 12 rfl d2_10 rfl ?_
  refine go_iloadN 13 rfl d2_12 rfl ?_
  refine go_icmp 38 16 rfl (by decide) rfl d2_13 rfl (fun (hc13 : (1 : Int) ≤ (0 : Int)) => absurd hc13 (by decide)) (fun (hc13 : ¬ ((1 : Int) ≤ (0 : Int))) => ?_)
  refine go_aloadN 17 rfl d2_16 rfl rfl ?_
  refine go_iload 19 rfl d2_17 rfl ?_
  refine go_baload 20 rfl d2_19 rfl (Mo.el (i := 0) rfl (by decide) rfl) ?_
  refine go_istore #[.val (.ref a1), .val (.int (0 : Int32)), .val (.ref a1), .val (.int (1 : Int32)), .val (.int (0 : Int32)), .val (.int z0)] 22 rfl d2_20 rfl rfl ?_
  refine go_iload 24 rfl d2_22 rfl ?_
  refine go_bipush (10 : Int32) 26 rfl d2_24 rfl ?_
  have jn1 : Go B2_n1 Z a0 h0 (fun v ds => ∃ a12 a13 a14 a11 : Addr, Ret (some (.ref a12)) (mem22 a12 a13 a14 a1 a11 z0) v ds) 0 0 [ar a1 .byte [(.int z0)]] 32 #[.val (.ref a1), .val (.int (bump z0 (0 : Int32))), .val (.ref a1), .val (.int (1 : Int32)), .val (.int (0 : Int32)), .val (.int z0)] [] := by
    refine go_iinc #[.val (.ref a1), .val (.int (bump z0 (0 : Int32))), .val (.ref a1), .val (.int (1 : Int32)), .val (.int (1 : Int32)), .val (.int z0)] 35 rfl d2_32 rfl rfl ?_
    refine go_goto 10 (by decide) rfl d2_35 ?_
    refine go_iload 12 rfl d2_10 rfl ?_
    refine go_iloadN 13 rfl d2_12 rfl ?_
    refine go_icmp 38 16 rfl (by decide) rfl d2_13 rfl (fun (hc13 : (1 : Int) ≤ (1 : Int)) => ?_) (fun (hc13 : ¬ ((1 : Int) ≤ (1 : Int))) => absurd hc13 (by decide))
    refine go_aloadN 39 rfl d2_38 rfl rfl ?_
    refine go_alen 0 40 rfl d2_39 rfl rfl ?_
    show Go B2_n1 Z a0 h0 _ 0 0 [ar a1 .byte [(.int z0)]] 40 #[.val (.ref a1), .val (.int (bump z0 (0 : Int32))), .val (.ref a1), .val (.int (1 : Int32)), .val (.int (1 : Int32)), .val (.int z0)] [(.int (1 : Int32))]
    refine go_if 58 43 rfl (by decide) rfl d2_40 rfl (fun (hc40 : (1 : Int) ≤ 0) => absurd hc40 (by decide)) (fun (hc40 : ¬ ((1 : Int) ≤ 0)) => ?_)
    refine go_aloadN 44 rfl d2_43 rfl rfl ?_
    refine go_aloadN 45 rfl d2_44 rfl rfl ?_
    refine go_alen 0 46 rfl d2_45 rfl rfl ?_
    show Go B2_n1 Z a0 h0 _ 0 0 [ar a1 .byte [(.int z0)]] 46 #[.val (.ref a1), .val (.int (bump z0 (0 : Int32))), .val (.ref a1), .val (.int (1 : Int32)), .val (.int (1 : Int32)), .val (.int z0)] [(.int (1 : Int32)), (.ref a1)]
    refine go_iconst (1 : Int32) 47 rfl d2_46 rfl ?_
    refine go_isub 48 rfl d2_47 rfl ?_
    show Go B2_n1 Z a0 h0 _ 0 0 [ar a1 .byte [(.int z0)]] 48 #[.val (.ref a1), .val (.int (bump z0 (0 : Int32))), .val (.ref a1), .val (.int (1 : Int32)), .val (.int (1 : Int32)), .val (.int z0)] [(.int (0 : Int32)), (.ref a1)]
    refine go_baload 49 rfl d2_48 rfl (Mo.el (i := 0) rfl (by decide) rfl) ?_
    refine go_bipush (10 : Int32) 51 rfl d2_49 rfl ?_
    refine go_icmp 58 54 rfl (by decide) rfl d2_51 rfl (fun (hc51_27 : z0.toInt = (10 : Int)) => ?_) (fun (hc51_27 : ¬ (z0.toInt = (10 : Int))) => ?_)
    · refine go_iconst (0 : Int32) 59 rfl d2_58 rfl ?_
      refine go_istoreN #[.val (.ref a1), .val (.int (bump z0 (0 : Int32))), .val (.int (0 : Int32)), .val (.int (1 : Int32)), .val (.int (1 : Int32)), .val (.int z0)] 60 rfl d2_59 rfl rfl ?_
      refine go_iloadN 61 rfl d2_60 rfl ?_
      refine go_if 70 64 rfl (by decide) rfl d2_61 rfl (fun (hc61 : (0 : Int) = 0) => ?_) (fun (hc61 : ¬ ((0 : Int) = 0)) => absurd hc61 (by decide))
      refine go_iloadN 71 rfl d2_70 rfl ?_
      refine go_newarr 73 rfl d2_71 rfl (wd hw 6 rfl) (by (by_cases q0 : z0.toInt = 10) <;> first | omega | decide | (simp only [bump, bumq, wri, q0, if_true, if_false, eq_self, reduceIte]; decide)) 5 (by (by_cases q0 : z0.toInt = 10) <;> first | omega | decide | (simp only [bump, bumq, wri, q0, if_true, if_false, eq_self, reduceIte]; decide)) (by decide) (by decide) (by decide) (fun a11 => ?_)
      show Go B2_n1 Z a0 h0 _ 1 5 [ar a1 .byte [(.int z0)], ar a11 .int (List.replicate (bump z0 (0 : Int32)).toNatClampNeg (.int (0 : Int32)))] 73 #[.val (.ref a1), .val (.int (bump z0 (0 : Int32))), .val (.int (0 : Int32)), .val (.int (1 : Int32)), .val (.int (1 : Int32)), .val (.int z0)] [(.ref a11)]
      refine go_astoreN #[.val (.ref a1), .val (.int (bump z0 (0 : Int32))), .val (.int (0 : Int32)), .val (.ref a11), .val (.int (1 : Int32)), .val (.int z0)] 74 rfl d2_73 rfl rfl rfl ?_
      refine go_iconst (0 : Int32) 75 rfl d2_74 rfl ?_
      refine go_istore #[.val (.ref a1), .val (.int (bump z0 (0 : Int32))), .val (.int (0 : Int32)), .val (.ref a11), .val (.int (0 : Int32)), .val (.int z0)] 77 rfl d2_75 rfl rfl ?_
      refine go_iconst (0 : Int32) 78 rfl d2_77 rfl ?_
      refine go_istore #[.val (.ref a1), .val (.int (bump z0 (0 : Int32))), .val (.int (0 : Int32)), .val (.ref a11), .val (.int (0 : Int32)), .val (.int (0 : Int32))] 80 rfl d2_78 rfl rfl ?_
      refine go_iload 82 rfl d2_80 rfl ?_
      refine go_aloadN 83 rfl d2_82 rfl rfl ?_
      refine go_alen 0 84 rfl d2_83 rfl rfl ?_
      show Go B2_n1 Z a0 h0 _ 1 5 [ar a1 .byte [(.int z0)], ar a11 .int (List.replicate (bump z0 (0 : Int32)).toNatClampNeg (.int (0 : Int32)))] 84 #[.val (.ref a1), .val (.int (bump z0 (0 : Int32))), .val (.int (0 : Int32)), .val (.ref a11), .val (.int (0 : Int32)), .val (.int (0 : Int32))] [(.int (1 : Int32)), (.int (0 : Int32))]
      refine go_icmp 111 87 rfl (by decide) rfl d2_84 rfl (fun (hc84 : (1 : Int) ≤ (0 : Int)) => absurd hc84 (by decide)) (fun (hc84 : ¬ ((1 : Int) ≤ (0 : Int))) => ?_)
      refine go_aloadN 88 rfl d2_87 rfl rfl ?_
      refine go_iload 90 rfl d2_88 rfl ?_
      refine go_baload 91 rfl d2_90 rfl (Mo.el (i := 0) rfl (by decide) rfl) ?_
      refine go_bipush (10 : Int32) 93 rfl d2_91 rfl ?_
      have jn2 : Go B2_n1 Z a0 h0 (fun v ds => ∃ a12 a13 a14 a11 : Addr, Ret (some (.ref a12)) (mem22 a12 a13 a14 a1 a11 z0) v ds) 1 5 [ar a1 .byte [(.int z0)], ar a11 .int (wri z0 (List.replicate (bump z0 (0 : Int32)).toNatClampNeg (.int (0 : Int32))) (0 : Int32) (0 : Int32))] 105 #[.val (.ref a1), .val (.int (bump z0 (0 : Int32))), .val (.int (0 : Int32)), .val (.ref a11), .val (.int (bumq z0 (0 : Int32))), .val (.int (0 : Int32))] [] := by
        refine go_iinc #[.val (.ref a1), .val (.int (bump z0 (0 : Int32))), .val (.int (0 : Int32)), .val (.ref a11), .val (.int (bumq z0 (0 : Int32))), .val (.int (1 : Int32))] 108 rfl d2_105 rfl rfl ?_
        refine go_goto 80 (by decide) rfl d2_108 ?_
        refine go_iload 82 rfl d2_80 rfl ?_
        refine go_aloadN 83 rfl d2_82 rfl rfl ?_
        refine go_alen 0 84 rfl d2_83 rfl rfl ?_
        show Go B2_n1 Z a0 h0 _ 1 5 [ar a1 .byte [(.int z0)], ar a11 .int (wri z0 (List.replicate (bump z0 (0 : Int32)).toNatClampNeg (.int (0 : Int32))) (0 : Int32) (0 : Int32))] 84 #[.val (.ref a1), .val (.int (bump z0 (0 : Int32))), .val (.int (0 : Int32)), .val (.ref a11), .val (.int (bumq z0 (0 : Int32))), .val (.int (1 : Int32))] [(.int (1 : Int32)), (.int (1 : Int32))]
        refine go_icmp 111 87 rfl (by decide) rfl d2_84 rfl (fun (hc84 : (1 : Int) ≤ (1 : Int)) => ?_) (fun (hc84 : ¬ ((1 : Int) ≤ (1 : Int))) => absurd hc84 (by decide))
        refine go_iloadN 112 rfl d2_111 rfl ?_
        refine go_if 121 115 rfl (by decide) rfl d2_112 rfl (fun (hc112 : (0 : Int) = 0) => ?_) (fun (hc112 : ¬ ((0 : Int) = 0)) => absurd hc112 (by decide))
        generalize eBK : (wri z0 (List.replicate (bump z0 (0 : Int32)).toNatClampNeg (.int (0 : Int32))) (0 : Int32) (0 : Int32)) = v93
        refine go_new 124 rfl d2_121 (wd hw 11 rfl) (wd hw 12 rfl) (wd hw 9 rfl) (by decide) (by decide) [("com/example/clauseline/clauseline/model/Document", "recent", "[Lcom/example/clauseline/clauseline/model/Line;", .null), ("com/example/clauseline/clauseline/model/Document", "lines", "Ljava/util/List;", .null), ("com/example/clauseline/clauseline/model/Document", "bytes", "[B", .null), ("com/example/clauseline/clauseline/model/Document", "breaks", "[I", .null)] ⟨⟨Or.inr (wd hw 22 rfl), _, rfl, rfl⟩, ⟨⟨Or.inr (wd hw 46 rfl), _, rfl, rfl⟩, ⟨⟨Or.inr (wd hw 48 rfl), _, rfl, rfl⟩, ⟨⟨Or.inr (wd hw 50 rfl), _, rfl, rfl⟩, trivial⟩⟩⟩⟩ (by decide) (fun a12 => ?_)
        show Go B2_n1 Z a0 h0 _ 2 9 (mem13 a1 z0 a11 v93 a12) 124 #[.val (.ref a1), .val (.int (bump z0 (0 : Int32))), .val (.int (0 : Int32)), .val (.ref a11), .val (.int (bumq z0 (0 : Int32))), .val (.int (1 : Int32))] [(.ref a12)]
        refine go_dup 125 rfl d2_124 rfl rfl ?_
        refine go_aloadN 126 rfl d2_125 rfl rfl ?_
        refine go_aloadN 127 rfl d2_126 rfl rfl ?_
        refine go_callI 130 rfl d2_127 rfl (wd hw 13 rfl) (wd hw 14 rfl) (wd hw 9 rfl) (wd hw 15 rfl) (by decide) (mt29 Z a0 hw h0 a1 z0 a11 v93 a12) (argsL := [(.ref a1), (.ref a11)]) (rest := [(.ref a12)]) rfl (ret := none) (ps := [(.array .byte), (.array .int)]) (by decide +kernel) rfl rfl 1 rfl (by decide) (by decide) (by decide) (by decide) ?_
        rintro _ _ ⟨a13, a14, rfl, rfl⟩
        show Go B2_n1 Z a0 h0 _ 4 27 (mem21 a12 a13 a14 a1 a11 z0 v93) 130 #[.val (.ref a1), .val (.int (bump z0 (0 : Int32))), .val (.int (0 : Int32)), .val (.ref a11), .val (.int (bumq z0 (0 : Int32))), .val (.int (1 : Int32))] [(.ref a12)]
        exact go_areturn d2_130 rfl rfl rfl rfl (by decide) (by decide) (by have eb : bk1 z0 = v93 := (by unfold bk1; rw [if_pos (by omega)]; exact eBK); subst eb; exact ⟨a12, a13, a14, a11, rfl, rfl⟩)
      refine go_icmp 105 96 rfl (by decide) rfl d2_93 rfl (fun (hj2 : z0.toInt ≠ (10 : Int)) => ?_) (fun (hj2 : ¬ (z0.toInt ≠ (10 : Int))) => ?_)
      · rw [bumq_n (z := z0) (C := (0 : Int32)) (by omega), wri_n (z := z0) (A := (List.replicate (bump z0 (0 : Int32)).toNatClampNeg (.int (0 : Int32)))) (l := (0 : Int32)) (i := (0 : Int32)) (by omega)] at jn2
        exact jn2
      · refine go_aloadN 97 rfl d2_96 rfl rfl ?_
        refine go_iload 99 rfl d2_97 rfl ?_
        refine go_iinc #[.val (.ref a1), .val (.int (bump z0 (0 : Int32))), .val (.int (0 : Int32)), .val (.ref a11), .val (.int (1 : Int32)), .val (.int (0 : Int32))] 102 rfl d2_99 rfl rfl ?_
        refine go_iload 104 rfl d2_102 rfl ?_
        refine go_iastore 1 105 rfl d2_104 rfl rfl (by (by_cases q0 : z0.toInt = 10) <;> first | omega | decide | (simp only [bump, bumq, wri, q0, if_true, if_false, eq_self, reduceIte]; decide)) (by (by_cases q0 : z0.toInt = 10) <;> first | omega | decide | (simp only [bump, bumq, wri, q0, if_true, if_false, eq_self, reduceIte]; decide)) ?_
        show Go B2_n1 Z a0 h0 _ 1 5 [ar a1 .byte [(.int z0)], ar a11 .int ((List.replicate (bump z0 (0 : Int32)).toNatClampNeg (.int (0 : Int32))).set (0 : Int32).toNatClampNeg (.int (0 : Int32)))] 105 #[.val (.ref a1), .val (.int (bump z0 (0 : Int32))), .val (.int (0 : Int32)), .val (.ref a11), .val (.int (1 : Int32)), .val (.int (0 : Int32))] []
        rw [bumq_p (z := z0) (C := (0 : Int32)) (by omega), wri_p (z := z0) (A := (List.replicate (bump z0 (0 : Int32)).toNatClampNeg (.int (0 : Int32)))) (l := (0 : Int32)) (i := (0 : Int32)) (by omega)] at jn2
        exact jn2
    · refine go_iconst (1 : Int32) 55 rfl d2_54 rfl ?_
      refine go_goto 59 (by decide) rfl d2_55 ?_
      refine go_istoreN #[.val (.ref a1), .val (.int (bump z0 (0 : Int32))), .val (.int (1 : Int32)), .val (.int (1 : Int32)), .val (.int (1 : Int32)), .val (.int z0)] 60 rfl d2_59 rfl rfl ?_
      refine go_iloadN 61 rfl d2_60 rfl ?_
      refine go_if 70 64 rfl (by decide) rfl d2_61 rfl (fun (hc61 : (1 : Int) = 0) => absurd hc61 (by decide)) (fun (hc61 : ¬ ((1 : Int) = 0)) => ?_)
      refine go_iloadN 65 rfl d2_64 rfl ?_
      refine go_iconst (1 : Int32) 66 rfl d2_65 rfl ?_
      refine go_iadd 67 rfl d2_66 rfl ?_
      refine go_goto 71 (by decide) rfl d2_67 ?_
      refine go_newarr 73 rfl d2_71 rfl (wd hw 6 rfl) (by (by_cases q0 : z0.toInt = 10) <;> first | omega | decide | (simp only [bump, bumq, wri, q0, if_true, if_false, eq_self, reduceIte]; decide)) 5 (by (by_cases q0 : z0.toInt = 10) <;> first | omega | decide | (simp only [bump, bumq, wri, q0, if_true, if_false, eq_self, reduceIte]; decide)) (by decide) (by decide) (by decide) (fun a15 => ?_)
      show Go B2_n1 Z a0 h0 _ 1 5 [ar a1 .byte [(.int z0)], ar a15 .int (List.replicate ((bump z0 (0 : Int32)) + (1 : Int32)).toNatClampNeg (.int (0 : Int32)))] 73 #[.val (.ref a1), .val (.int (bump z0 (0 : Int32))), .val (.int (1 : Int32)), .val (.int (1 : Int32)), .val (.int (1 : Int32)), .val (.int z0)] [(.ref a15)]
      refine go_astoreN #[.val (.ref a1), .val (.int (bump z0 (0 : Int32))), .val (.int (1 : Int32)), .val (.ref a15), .val (.int (1 : Int32)), .val (.int z0)] 74 rfl d2_73 rfl rfl rfl ?_
      refine go_iconst (0 : Int32) 75 rfl d2_74 rfl ?_
      refine go_istore #[.val (.ref a1), .val (.int (bump z0 (0 : Int32))), .val (.int (1 : Int32)), .val (.ref a15), .val (.int (0 : Int32)), .val (.int z0)] 77 rfl d2_75 rfl rfl ?_
      refine go_iconst (0 : Int32) 78 rfl d2_77 rfl ?_
      refine go_istore #[.val (.ref a1), .val (.int (bump z0 (0 : Int32))), .val (.int (1 : Int32)), .val (.ref a15), .val (.int (0 : Int32)), .val (.int (0 : Int32))] 80 rfl d2_78 rfl rfl ?_
      refine go_iload 82 rfl d2_80 rfl ?_
      refine go_aloadN 83 rfl d2_82 rfl rfl ?_
      refine go_alen 0 84 rfl d2_83 rfl rfl ?_
      show Go B2_n1 Z a0 h0 _ 1 5 [ar a1 .byte [(.int z0)], ar a15 .int (List.replicate ((bump z0 (0 : Int32)) + (1 : Int32)).toNatClampNeg (.int (0 : Int32)))] 84 #[.val (.ref a1), .val (.int (bump z0 (0 : Int32))), .val (.int (1 : Int32)), .val (.ref a15), .val (.int (0 : Int32)), .val (.int (0 : Int32))] [(.int (1 : Int32)), (.int (0 : Int32))]
      refine go_icmp 111 87 rfl (by decide) rfl d2_84 rfl (fun (hc84 : (1 : Int) ≤ (0 : Int)) => absurd hc84 (by decide)) (fun (hc84 : ¬ ((1 : Int) ≤ (0 : Int))) => ?_)
      refine go_aloadN 88 rfl d2_87 rfl rfl ?_
      refine go_iload 90 rfl d2_88 rfl ?_
      refine go_baload 91 rfl d2_90 rfl (Mo.el (i := 0) rfl (by decide) rfl) ?_
      refine go_bipush (10 : Int32) 93 rfl d2_91 rfl ?_
      have jn3 : Go B2_n1 Z a0 h0 (fun v ds => ∃ a12 a13 a14 a11 : Addr, Ret (some (.ref a12)) (mem22 a12 a13 a14 a1 a11 z0) v ds) 1 5 [ar a1 .byte [(.int z0)], ar a15 .int (wri z0 (List.replicate ((bump z0 (0 : Int32)) + (1 : Int32)).toNatClampNeg (.int (0 : Int32))) (0 : Int32) (0 : Int32))] 105 #[.val (.ref a1), .val (.int (bump z0 (0 : Int32))), .val (.int (1 : Int32)), .val (.ref a15), .val (.int (bumq z0 (0 : Int32))), .val (.int (0 : Int32))] [] := by
        refine go_iinc #[.val (.ref a1), .val (.int (bump z0 (0 : Int32))), .val (.int (1 : Int32)), .val (.ref a15), .val (.int (bumq z0 (0 : Int32))), .val (.int (1 : Int32))] 108 rfl d2_105 rfl rfl ?_
        refine go_goto 80 (by decide) rfl d2_108 ?_
        refine go_iload 82 rfl d2_80 rfl ?_
        refine go_aloadN 83 rfl d2_82 rfl rfl ?_
        refine go_alen 0 84 rfl d2_83 rfl rfl ?_
        show Go B2_n1 Z a0 h0 _ 1 5 [ar a1 .byte [(.int z0)], ar a15 .int (wri z0 (List.replicate ((bump z0 (0 : Int32)) + (1 : Int32)).toNatClampNeg (.int (0 : Int32))) (0 : Int32) (0 : Int32))] 84 #[.val (.ref a1), .val (.int (bump z0 (0 : Int32))), .val (.int (1 : Int32)), .val (.ref a15), .val (.int (bumq z0 (0 : Int32))), .val (.int (1 : Int32))] [(.int (1 : Int32)), (.int (1 : Int32))]
        refine go_icmp 111 87 rfl (by decide) rfl d2_84 rfl (fun (hc84 : (1 : Int) ≤ (1 : Int)) => ?_) (fun (hc84 : ¬ ((1 : Int) ≤ (1 : Int))) => absurd hc84 (by decide))
        refine go_iloadN 112 rfl d2_111 rfl ?_
        refine go_if 121 115 rfl (by decide) rfl d2_112 rfl (fun (hc112 : (1 : Int) = 0) => absurd hc112 (by decide)) (fun (hc112 : ¬ ((1 : Int) = 0)) => ?_)
        refine go_aloadN 116 rfl d2_115 rfl rfl ?_
        refine go_iload 118 rfl d2_116 rfl ?_
        refine go_aloadN 119 rfl d2_118 rfl rfl ?_
        refine go_alen 0 120 rfl d2_119 rfl rfl ?_
        show Go B2_n1 Z a0 h0 _ 1 5 [ar a1 .byte [(.int z0)], ar a15 .int (wri z0 (List.replicate ((bump z0 (0 : Int32)) + (1 : Int32)).toNatClampNeg (.int (0 : Int32))) (0 : Int32) (0 : Int32))] 120 #[.val (.ref a1), .val (.int (bump z0 (0 : Int32))), .val (.int (1 : Int32)), .val (.ref a15), .val (.int (bumq z0 (0 : Int32))), .val (.int (1 : Int32))] [(.int (1 : Int32)), (.int (bumq z0 (0 : Int32))), (.ref a15)]
        refine go_iastore 1 121 rfl d2_120 rfl rfl (by (by_cases q0 : z0.toInt = 10) <;> first | omega | decide | (simp only [bump, bumq, wri, q0, if_true, if_false, eq_self, reduceIte]; decide)) (by (by_cases q0 : z0.toInt = 10) <;> first | omega | decide | (simp only [bump, bumq, wri, q0, if_true, if_false, eq_self, reduceIte]; decide)) ?_
        show Go B2_n1 Z a0 h0 _ 1 5 [ar a1 .byte [(.int z0)], ar a15 .int ((wri z0 (List.replicate ((bump z0 (0 : Int32)) + (1 : Int32)).toNatClampNeg (.int (0 : Int32))) (0 : Int32) (0 : Int32)).set (bumq z0 (0 : Int32)).toNatClampNeg (.int (1 : Int32)))] 121 #[.val (.ref a1), .val (.int (bump z0 (0 : Int32))), .val (.int (1 : Int32)), .val (.ref a15), .val (.int (bumq z0 (0 : Int32))), .val (.int (1 : Int32))] []
        generalize eBK : ((wri z0 (List.replicate ((bump z0 (0 : Int32)) + (1 : Int32)).toNatClampNeg (.int (0 : Int32))) (0 : Int32) (0 : Int32)).set (bumq z0 (0 : Int32)).toNatClampNeg (.int (1 : Int32))) = v93
        refine go_new 124 rfl d2_121 (wd hw 11 rfl) (wd hw 12 rfl) (wd hw 9 rfl) (by decide) (by decide) [("com/example/clauseline/clauseline/model/Document", "recent", "[Lcom/example/clauseline/clauseline/model/Line;", .null), ("com/example/clauseline/clauseline/model/Document", "lines", "Ljava/util/List;", .null), ("com/example/clauseline/clauseline/model/Document", "bytes", "[B", .null), ("com/example/clauseline/clauseline/model/Document", "breaks", "[I", .null)] ⟨⟨Or.inr (wd hw 22 rfl), _, rfl, rfl⟩, ⟨⟨Or.inr (wd hw 46 rfl), _, rfl, rfl⟩, ⟨⟨Or.inr (wd hw 48 rfl), _, rfl, rfl⟩, ⟨⟨Or.inr (wd hw 50 rfl), _, rfl, rfl⟩, trivial⟩⟩⟩⟩ (by decide) (fun a16 => ?_)
        show Go B2_n1 Z a0 h0 _ 2 9 (mem13 a1 z0 a15 v93 a16) 124 #[.val (.ref a1), .val (.int (bump z0 (0 : Int32))), .val (.int (1 : Int32)), .val (.ref a15), .val (.int (bumq z0 (0 : Int32))), .val (.int (1 : Int32))] [(.ref a16)]
        refine go_dup 125 rfl d2_124 rfl rfl ?_
        refine go_aloadN 126 rfl d2_125 rfl rfl ?_
        refine go_aloadN 127 rfl d2_126 rfl rfl ?_
        refine go_callI 130 rfl d2_127 rfl (wd hw 13 rfl) (wd hw 14 rfl) (wd hw 9 rfl) (wd hw 15 rfl) (by decide) (mt29 Z a0 hw h0 a1 z0 a15 v93 a16) (argsL := [(.ref a1), (.ref a15)]) (rest := [(.ref a16)]) rfl (ret := none) (ps := [(.array .byte), (.array .int)]) (by decide +kernel) rfl rfl 1 rfl (by decide) (by decide) (by decide) (by decide) ?_
        rintro _ _ ⟨a17, a18, rfl, rfl⟩
        show Go B2_n1 Z a0 h0 _ 4 27 (mem21 a16 a17 a18 a1 a15 z0 v93) 130 #[.val (.ref a1), .val (.int (bump z0 (0 : Int32))), .val (.int (1 : Int32)), .val (.ref a15), .val (.int (bumq z0 (0 : Int32))), .val (.int (1 : Int32))] [(.ref a16)]
        exact go_areturn d2_130 rfl rfl rfl rfl (by decide) (by decide) (by have eb : bk1 z0 = v93 := (by unfold bk1; rw [if_neg (by omega)]; exact eBK); subst eb; exact ⟨a16, a17, a18, a15, rfl, rfl⟩)
      refine go_icmp 105 96 rfl (by decide) rfl d2_93 rfl (fun (hj3 : z0.toInt ≠ (10 : Int)) => ?_) (fun (hj3 : ¬ (z0.toInt ≠ (10 : Int))) => ?_)
      · rw [bumq_n (z := z0) (C := (0 : Int32)) (by omega), wri_n (z := z0) (A := (List.replicate ((bump z0 (0 : Int32)) + (1 : Int32)).toNatClampNeg (.int (0 : Int32)))) (l := (0 : Int32)) (i := (0 : Int32)) (by omega)] at jn3
        exact jn3
      · refine go_aloadN 97 rfl d2_96 rfl rfl ?_
        refine go_iload 99 rfl d2_97 rfl ?_
        refine go_iinc #[.val (.ref a1), .val (.int (bump z0 (0 : Int32))), .val (.int (1 : Int32)), .val (.ref a15), .val (.int (1 : Int32)), .val (.int (0 : Int32))] 102 rfl d2_99 rfl rfl ?_
        refine go_iload 104 rfl d2_102 rfl ?_
        refine go_iastore 1 105 rfl d2_104 rfl rfl (by (by_cases q0 : z0.toInt = 10) <;> first | omega | decide | (simp only [bump, bumq, wri, q0, if_true, if_false, eq_self, reduceIte]; decide)) (by (by_cases q0 : z0.toInt = 10) <;> first | omega | decide | (simp only [bump, bumq, wri, q0, if_true, if_false, eq_self, reduceIte]; decide)) ?_
        show Go B2_n1 Z a0 h0 _ 1 5 [ar a1 .byte [(.int z0)], ar a15 .int ((List.replicate ((bump z0 (0 : Int32)) + (1 : Int32)).toNatClampNeg (.int (0 : Int32))).set (0 : Int32).toNatClampNeg (.int (0 : Int32)))] 105 #[.val (.ref a1), .val (.int (bump z0 (0 : Int32))), .val (.int (1 : Int32)), .val (.ref a15), .val (.int (1 : Int32)), .val (.int (0 : Int32))] []
        rw [bumq_p (z := z0) (C := (0 : Int32)) (by omega), wri_p (z := z0) (A := (List.replicate ((bump z0 (0 : Int32)) + (1 : Int32)).toNatClampNeg (.int (0 : Int32)))) (l := (0 : Int32)) (i := (0 : Int32)) (by omega)] at jn3
        exact jn3
  refine go_icmp 32 29 rfl (by decide) rfl d2_26 rfl (fun (hj1 : z0.toInt ≠ (10 : Int)) => ?_) (fun (hj1 : ¬ (z0.toInt ≠ (10 : Int))) => ?_)
  · rw [bump_n (z := z0) (C := (0 : Int32)) (by omega)] at jn1
    exact jn1
  · refine go_iinc #[.val (.ref a1), .val (.int (1 : Int32)), .val (.ref a1), .val (.int (1 : Int32)), .val (.int (0 : Int32)), .val (.int z0)] 32 rfl d2_29 rfl rfl ?_
    rw [bump_p (z := z0) (C := (0 : Int32)) (by omega)] at jn1
    exact jn1
def B3_31 : Bdy := (⟨"com/example/clauseline/clauseline/model/Document", "<init>", "([B[I)V"⟩, prog_16_method_1_code, 3, none, ({ frames := 4, cells := 2, slots := 18, locals := 51 } : Room))
set_option maxRecDepth 65536 in
set_option maxHeartbeats 4000000 in
theorem mt31 (Z : State) (a0 : Array Value) (hw : ∀ d ∈ tables_1, d.before a0 Z = true) (h0 : Heap) (a1 : Addr) (z0 : Int32) (z1 : Int32) (a11 : Addr) (v93 : List Value) (a12 : Addr) :
    Met B3_31 Z a0 h0 #[(.ref a12), (.ref a1), (.ref a11)] (mem23 a1 z0 z1 a11 v93 a12) (fun v ds => ∃ a113 a114 : Addr, Ret none (mem31 a12 a113 a114 a1 a11 z0 z1 v93) v ds) := by
  refine Met.of pn3 (ls := #[.val (.ref a12), .val (.ref a1), .val (.ref a11)]) (fun m => by first | (simp [entryFrame, mkF, argsToLocals, Value.category, B3_31]; done) | rfl) ?_
  show Go B3_31 Z a0 h0 _ 0 0 (mem23 a1 z0 z1 a11 v93 a12) 0 #[.val (.ref a12), .val (.ref a1), .val (.ref a11)] []
  refine go_aloadN 1 rfl d3_0 rfl rfl ?_
  refine go_initObj 4 rfl d3_1 rfl (wd hw 16 rfl) (wd hw 17 rfl) (wd hw 18 rfl) rfl (by decide) (by decide) ?_
  refine go_aloadN 5 rfl d3_4 rfl rfl ?_
  refine go_bipush (16 : Int32) 7 rfl d3_5 rfl ?_
  refine go_anewarr 10 rfl d3_7 rfl (wd hw 19 rfl) (wd hw 20 rfl) (by decide) 16 (by decide) (by decide) (by decide) (by decide) (fun a113 => ?_)
  show Go B3_31 Z a0 h0 _ 1 16 (mem24 a1 z0 z1 a11 v93 a12 a113) 10 #[.val (.ref a12), .val (.ref a1), .val (.ref a11)] [(.ref a113), (.ref a12)]
  refine go_put 2 0 13 rfl d3_10 rfl rfl rfl (wd hw 21 rfl) (Or.inr ⟨(wd hw 22 rfl), rfl, rfl⟩) (wd hw 12 rfl) (ty := (.array (.object "com/example/clauseline/clauseline/model/Line"))) (by decide) rfl rfl ?_
  show Go B3_31 Z a0 h0 _ 1 16 (mem25 a1 z0 z1 a11 v93 a12 a113) 13 #[.val (.ref a12), .val (.ref a1), .val (.ref a11)] []
  refine go_aloadN 14 rfl d3_13 rfl rfl ?_
  refine go_new 17 rfl d3_14 (wd hw 23 rfl) (wd hw 24 rfl) (wd hw 25 rfl) (by decide) (by decide) [("com/example/clauseline/clauseline/model/Document$Lines", "this$0", "Lcom/example/clauseline/clauseline/model/Document;", .null), ("java/util/AbstractList", "modCount", "I", (.int (0 : Int32)))] ⟨⟨Or.inr (wd hw 30 rfl), _, rfl, rfl⟩, ⟨⟨Or.inl (wd hw 44 rfl), _, rfl, rfl⟩, trivial⟩⟩ (by decide) (fun a114 => ?_)
  show Go B3_31 Z a0 h0 _ 2 18 (mem26 a1 z0 z1 a11 v93 a12 a113 a114) 17 #[.val (.ref a12), .val (.ref a1), .val (.ref a11)] [(.ref a114), (.ref a12)]
  refine go_dup 18 rfl d3_17 rfl rfl ?_
  refine go_aloadN 19 rfl d3_18 rfl rfl ?_
  refine Go.front 4 (Nat.le_of_ble_eq_true rfl) ?_
  refine Go.front 4 (Nat.le_of_ble_eq_true rfl) ?_
  refine Go.front 4 (Nat.le_of_ble_eq_true rfl) ?_
  show Go B3_31 Z a0 h0 _ 2 18 (mem27 a12 a113 a114 a1 z0 z1 a11 v93) 19 #[.val (.ref a12), .val (.ref a1), .val (.ref a11)] [(.ref a12), (.ref a114), (.ref a114), (.ref a12)]
  refine go_callIR 22 rfl d3_19 rfl (wd hw 26 rfl) (wd hw 27 rfl) (wd hw 25 rfl) (wd hw 28 rfl) (by decide) (Met.frame [ar a1 .byte [(.int z0), (.int z1)], ar a11 .int v93] (mt25 Z a0 hw h0 a12 a113 a114)) (argsL := [(.ref a12)]) (rest := [(.ref a114), (.ref a12)]) rfl (ret := none) (ps := [(.object "com/example/clauseline/clauseline/model/Document")]) (by decide +kernel) rfl rfl 2 rfl (by decide) (by decide) (by decide) (by decide) ?_
  rintro _ _ ⟨_, ⟨rfl, rfl⟩, rfl⟩
  show Go B3_31 Z a0 h0 _ 2 18 (mem28 a12 a113 a114 a1 z0 z1 a11 v93) 22 #[.val (.ref a12), .val (.ref a1), .val (.ref a11)] [(.ref a114), (.ref a12)]
  refine go_put 0 1 25 rfl d3_22 rfl rfl rfl (wd hw 45 rfl) (Or.inr ⟨(wd hw 46 rfl), rfl, rfl⟩) (wd hw 12 rfl) (ty := (.object "java/util/List")) (by decide) rfl rfl ?_
  show Go B3_31 Z a0 h0 _ 2 18 (mem29 a12 a113 a114 a1 z0 z1 a11 v93) 25 #[.val (.ref a12), .val (.ref a1), .val (.ref a11)] []
  refine go_aloadN 26 rfl d3_25 rfl rfl ?_
  refine go_aloadN 27 rfl d3_26 rfl rfl ?_
  refine go_put 0 2 30 rfl d3_27 rfl rfl rfl (wd hw 47 rfl) (Or.inr ⟨(wd hw 48 rfl), rfl, rfl⟩) (wd hw 12 rfl) (ty := (.array .byte)) (by decide) rfl rfl ?_
  show Go B3_31 Z a0 h0 _ 2 18 (mem30 a12 a113 a114 a1 z0 z1 a11 v93) 30 #[.val (.ref a12), .val (.ref a1), .val (.ref a11)] []
  refine go_aloadN 31 rfl d3_30 rfl rfl ?_
  refine go_aloadN 32 rfl d3_31 rfl rfl ?_
  refine go_put 0 3 35 rfl d3_32 rfl rfl rfl (wd hw 49 rfl) (Or.inr ⟨(wd hw 50 rfl), rfl, rfl⟩) (wd hw 12 rfl) (ty := (.array .int)) (by decide) rfl rfl ?_
  show Go B3_31 Z a0 h0 _ 2 18 (mem31 a12 a113 a114 a1 a11 z0 z1 v93) 35 #[.val (.ref a12), .val (.ref a1), .val (.ref a11)] []
  exact go_return d3_35 rfl rfl (by decide) (by decide) ⟨a113, a114, rfl, rfl⟩
def B2_n2 : Bdy := (⟨"com/example/clauseline/clauseline/model/Document", "of", "([B)Lcom/example/clauseline/clauseline/model/Document;"⟩, prog_16_method_2_code, 6, (some (.object "com/example/clauseline/clauseline/model/Document")), ({ frames := 5, cells := 4, slots := 27, locals := 66 } : Room))
set_option maxRecDepth 65536 in
set_option maxHeartbeats 4000000 in
theorem m_of2 (Z : State) (a0 : Array Value) (hw : ∀ d ∈ tables_1, d.before a0 Z = true) (h0 : Heap) (a1 : Addr) (z0 z1 : Int32) :
    Met B2_n2 Z a0 h0 #[(.ref a1)] [ar a1 .byte [(.int z0), (.int z1)]] (fun v ds => ∃ a12 a13 a14 a11 : Addr, Ret (some (.ref a12)) (mem32 a12 a13 a14 a1 a11 z0 z1) v ds) := by
  refine Met.of pn2 (ls := #[.val (.ref a1), .unset, .unset, .unset, .unset, .unset]) (fun m => by first | (simp [entryFrame, mkF, argsToLocals, Value.category, B2_n2]; done) | rfl) ?_
  show Go B2_n2 Z a0 h0 _ 0 0 [ar a1 .byte [(.int z0), (.int z1)]] 0 #[.val (.ref a1), .unset, .unset, .unset, .unset, .unset] []
  refine go_iconst (0 : Int32) 1 rfl d2_0 rfl ?_
  refine go_istoreN #[.val (.ref a1), .val (.int (0 : Int32)), .unset, .unset, .unset, .unset] 2 rfl d2_1 rfl rfl ?_
  refine go_aloadN 3 rfl d2_2 rfl rfl ?_
  refine go_astoreN #[.val (.ref a1), .val (.int (0 : Int32)), .val (.ref a1), .unset, .unset, .unset] 4 rfl d2_3 rfl rfl rfl ?_
  refine go_aloadN 5 rfl d2_4 rfl rfl ?_
  refine go_alen 0 6 rfl d2_5 rfl rfl ?_
  show Go B2_n2 Z a0 h0 _ 0 0 [ar a1 .byte [(.int z0), (.int z1)]] 6 #[.val (.ref a1), .val (.int (0 : Int32)), .val (.ref a1), .unset, .unset, .unset] [(.int (2 : Int32))]
  refine go_istoreN #[.val (.ref a1), .val (.int (0 : Int32)), .val (.ref a1), .val (.int (2 : Int32)), .unset, .unset] 7 rfl d2_6 rfl rfl ?_
  refine go_iconst (0 : Int32) 8 rfl d2_7 rfl ?_
  refine go_istore #[.val (.ref a1), .val (.int (0 : Int32)), .val (.ref a1), .val (.int (2 : Int32)), .val (.int (0 : Int32)), .unset] 10 rfl d2_8 rfl rfl ?_
  refine go_iload 12 rfl d2_10 rfl ?_
  refine go_iloadN 13 rfl d2_12 rfl ?_
  refine go_icmp 38 16 rfl (by decide) rfl d2_13 rfl (fun (hc13 : (2 : Int) ≤ (0 : Int)) => absurd hc13 (by decide)) (fun (hc13 : ¬ ((2 : Int) ≤ (0 : Int))) => ?_)
  refine go_aloadN 17 rfl d2_16 rfl rfl ?_
  refine go_iload 19 rfl d2_17 rfl ?_
  refine go_baload 20 rfl d2_19 rfl (Mo.el (i := 0) rfl (by decide) rfl) ?_
  refine go_istore #[.val (.ref a1), .val (.int (0 : Int32)), .val (.ref a1), .val (.int (2 : Int32)), .val (.int (0 : Int32)), .val (.int z0)] 22 rfl d2_20 rfl rfl ?_
  refine go_iload 24 rfl d2_22 rfl ?_
  refine go_bipush (10 : Int32) 26 rfl d2_24 rfl ?_
  have jn4 : Go B2_n2 Z a0 h0 (fun v ds => ∃ a12 a13 a14 a11 : Addr, Ret (some (.ref a12)) (mem32 a12 a13 a14 a1 a11 z0 z1) v ds) 0 0 [ar a1 .byte [(.int z0), (.int z1)]] 32 #[.val (.ref a1), .val (.int (bump z0 (0 : Int32))), .val (.ref a1), .val (.int (2 : Int32)), .val (.int (0 : Int32)), .val (.int z0)] [] := by
    refine go_iinc #[.val (.ref a1), .val (.int (bump z0 (0 : Int32))), .val (.ref a1), .val (.int (2 : Int32)), .val (.int (1 : Int32)), .val (.int z0)] 35 rfl d2_32 rfl rfl ?_
    refine go_goto 10 (by decide) rfl d2_35 ?_
    refine go_iload 12 rfl d2_10 rfl ?_
    refine go_iloadN 13 rfl d2_12 rfl ?_
    refine go_icmp 38 16 rfl (by decide) rfl d2_13 rfl (fun (hc13 : (2 : Int) ≤ (1 : Int)) => absurd hc13 (by decide)) (fun (hc13 : ¬ ((2 : Int) ≤ (1 : Int))) => ?_)
    refine go_aloadN 17 rfl d2_16 rfl rfl ?_
    refine go_iload 19 rfl d2_17 rfl ?_
    refine go_baload 20 rfl d2_19 rfl (Mo.el (i := 0) rfl (by decide) rfl) ?_
    refine go_istore #[.val (.ref a1), .val (.int (bump z0 (0 : Int32))), .val (.ref a1), .val (.int (2 : Int32)), .val (.int (1 : Int32)), .val (.int z1)] 22 rfl d2_20 rfl rfl ?_
    refine go_iload 24 rfl d2_22 rfl ?_
    refine go_bipush (10 : Int32) 26 rfl d2_24 rfl ?_
    have jn5 : Go B2_n2 Z a0 h0 (fun v ds => ∃ a12 a13 a14 a11 : Addr, Ret (some (.ref a12)) (mem32 a12 a13 a14 a1 a11 z0 z1) v ds) 0 0 [ar a1 .byte [(.int z0), (.int z1)]] 32 #[.val (.ref a1), .val (.int (bump z1 (bump z0 (0 : Int32)))), .val (.ref a1), .val (.int (2 : Int32)), .val (.int (1 : Int32)), .val (.int z1)] [] := by
      refine go_iinc #[.val (.ref a1), .val (.int (bump z1 (bump z0 (0 : Int32)))), .val (.ref a1), .val (.int (2 : Int32)), .val (.int (2 : Int32)), .val (.int z1)] 35 rfl d2_32 rfl rfl ?_
      refine go_goto 10 (by decide) rfl d2_35 ?_
      refine go_iload 12 rfl d2_10 rfl ?_
      refine go_iloadN 13 rfl d2_12 rfl ?_
      refine go_icmp 38 16 rfl (by decide) rfl d2_13 rfl (fun (hc13 : (2 : Int) ≤ (2 : Int)) => ?_) (fun (hc13 : ¬ ((2 : Int) ≤ (2 : Int))) => absurd hc13 (by decide))
      refine go_aloadN 39 rfl d2_38 rfl rfl ?_
      refine go_alen 0 40 rfl d2_39 rfl rfl ?_
      show Go B2_n2 Z a0 h0 _ 0 0 [ar a1 .byte [(.int z0), (.int z1)]] 40 #[.val (.ref a1), .val (.int (bump z1 (bump z0 (0 : Int32)))), .val (.ref a1), .val (.int (2 : Int32)), .val (.int (2 : Int32)), .val (.int z1)] [(.int (2 : Int32))]
      refine go_if 58 43 rfl (by decide) rfl d2_40 rfl (fun (hc40 : (2 : Int) ≤ 0) => absurd hc40 (by decide)) (fun (hc40 : ¬ ((2 : Int) ≤ 0)) => ?_)
      refine go_aloadN 44 rfl d2_43 rfl rfl ?_
      refine go_aloadN 45 rfl d2_44 rfl rfl ?_
      refine go_alen 0 46 rfl d2_45 rfl rfl ?_
      show Go B2_n2 Z a0 h0 _ 0 0 [ar a1 .byte [(.int z0), (.int z1)]] 46 #[.val (.ref a1), .val (.int (bump z1 (bump z0 (0 : Int32)))), .val (.ref a1), .val (.int (2 : Int32)), .val (.int (2 : Int32)), .val (.int z1)] [(.int (2 : Int32)), (.ref a1)]
      refine go_iconst (1 : Int32) 47 rfl d2_46 rfl ?_
      refine go_isub 48 rfl d2_47 rfl ?_
      show Go B2_n2 Z a0 h0 _ 0 0 [ar a1 .byte [(.int z0), (.int z1)]] 48 #[.val (.ref a1), .val (.int (bump z1 (bump z0 (0 : Int32)))), .val (.ref a1), .val (.int (2 : Int32)), .val (.int (2 : Int32)), .val (.int z1)] [(.int (1 : Int32)), (.ref a1)]
      refine go_baload 49 rfl d2_48 rfl (Mo.el (i := 0) rfl (by decide) rfl) ?_
      refine go_bipush (10 : Int32) 51 rfl d2_49 rfl ?_
      refine go_icmp 58 54 rfl (by decide) rfl d2_51 rfl (fun (hc51_29 : z1.toInt = (10 : Int)) => ?_) (fun (hc51_29 : ¬ (z1.toInt = (10 : Int))) => ?_)
      · refine go_iconst (0 : Int32) 59 rfl d2_58 rfl ?_
        refine go_istoreN #[.val (.ref a1), .val (.int (bump z1 (bump z0 (0 : Int32)))), .val (.int (0 : Int32)), .val (.int (2 : Int32)), .val (.int (2 : Int32)), .val (.int z1)] 60 rfl d2_59 rfl rfl ?_
        refine go_iloadN 61 rfl d2_60 rfl ?_
        refine go_if 70 64 rfl (by decide) rfl d2_61 rfl (fun (hc61 : (0 : Int) = 0) => ?_) (fun (hc61 : ¬ ((0 : Int) = 0)) => absurd hc61 (by decide))
        refine go_iloadN 71 rfl d2_70 rfl ?_
        refine go_newarr 73 rfl d2_71 rfl (wd hw 6 rfl) (by (by_cases q0 : z0.toInt = 10 <;> by_cases q1 : z1.toInt = 10) <;> first | omega | decide | (simp only [bump, bumq, wri, q0, q1, if_true, if_false, eq_self, reduceIte]; decide)) 5 (by (by_cases q0 : z0.toInt = 10 <;> by_cases q1 : z1.toInt = 10) <;> first | omega | decide | (simp only [bump, bumq, wri, q0, q1, if_true, if_false, eq_self, reduceIte]; decide)) (by decide) (by decide) (by decide) (fun a11 => ?_)
        show Go B2_n2 Z a0 h0 _ 1 5 [ar a1 .byte [(.int z0), (.int z1)], ar a11 .int (List.replicate (bump z1 (bump z0 (0 : Int32))).toNatClampNeg (.int (0 : Int32)))] 73 #[.val (.ref a1), .val (.int (bump z1 (bump z0 (0 : Int32)))), .val (.int (0 : Int32)), .val (.int (2 : Int32)), .val (.int (2 : Int32)), .val (.int z1)] [(.ref a11)]
        refine go_astoreN #[.val (.ref a1), .val (.int (bump z1 (bump z0 (0 : Int32)))), .val (.int (0 : Int32)), .val (.ref a11), .val (.int (2 : Int32)), .val (.int z1)] 74 rfl d2_73 rfl rfl rfl ?_
        refine go_iconst (0 : Int32) 75 rfl d2_74 rfl ?_
        refine go_istore #[.val (.ref a1), .val (.int (bump z1 (bump z0 (0 : Int32)))), .val (.int (0 : Int32)), .val (.ref a11), .val (.int (0 : Int32)), .val (.int z1)] 77 rfl d2_75 rfl rfl ?_
        refine go_iconst (0 : Int32) 78 rfl d2_77 rfl ?_
        refine go_istore #[.val (.ref a1), .val (.int (bump z1 (bump z0 (0 : Int32)))), .val (.int (0 : Int32)), .val (.ref a11), .val (.int (0 : Int32)), .val (.int (0 : Int32))] 80 rfl d2_78 rfl rfl ?_
        refine go_iload 82 rfl d2_80 rfl ?_
        refine go_aloadN 83 rfl d2_82 rfl rfl ?_
        refine go_alen 0 84 rfl d2_83 rfl rfl ?_
        show Go B2_n2 Z a0 h0 _ 1 5 [ar a1 .byte [(.int z0), (.int z1)], ar a11 .int (List.replicate (bump z1 (bump z0 (0 : Int32))).toNatClampNeg (.int (0 : Int32)))] 84 #[.val (.ref a1), .val (.int (bump z1 (bump z0 (0 : Int32)))), .val (.int (0 : Int32)), .val (.ref a11), .val (.int (0 : Int32)), .val (.int (0 : Int32))] [(.int (2 : Int32)), (.int (0 : Int32))]
        refine go_icmp 111 87 rfl (by decide) rfl d2_84 rfl (fun (hc84 : (2 : Int) ≤ (0 : Int)) => absurd hc84 (by decide)) (fun (hc84 : ¬ ((2 : Int) ≤ (0 : Int))) => ?_)
        refine go_aloadN 88 rfl d2_87 rfl rfl ?_
        refine go_iload 90 rfl d2_88 rfl ?_
        refine go_baload 91 rfl d2_90 rfl (Mo.el (i := 0) rfl (by decide) rfl) ?_
        refine go_bipush (10 : Int32) 93 rfl d2_91 rfl ?_
        have jn6 : Go B2_n2 Z a0 h0 (fun v ds => ∃ a12 a13 a14 a11 : Addr, Ret (some (.ref a12)) (mem32 a12 a13 a14 a1 a11 z0 z1) v ds) 1 5 [ar a1 .byte [(.int z0), (.int z1)], ar a11 .int (wri z0 (List.replicate (bump z1 (bump z0 (0 : Int32))).toNatClampNeg (.int (0 : Int32))) (0 : Int32) (0 : Int32))] 105 #[.val (.ref a1), .val (.int (bump z1 (bump z0 (0 : Int32)))), .val (.int (0 : Int32)), .val (.ref a11), .val (.int (bumq z0 (0 : Int32))), .val (.int (0 : Int32))] [] := by
          refine go_iinc #[.val (.ref a1), .val (.int (bump z1 (bump z0 (0 : Int32)))), .val (.int (0 : Int32)), .val (.ref a11), .val (.int (bumq z0 (0 : Int32))), .val (.int (1 : Int32))] 108 rfl d2_105 rfl rfl ?_
          refine go_goto 80 (by decide) rfl d2_108 ?_
          refine go_iload 82 rfl d2_80 rfl ?_
          refine go_aloadN 83 rfl d2_82 rfl rfl ?_
          refine go_alen 0 84 rfl d2_83 rfl rfl ?_
          show Go B2_n2 Z a0 h0 _ 1 5 [ar a1 .byte [(.int z0), (.int z1)], ar a11 .int (wri z0 (List.replicate (bump z1 (bump z0 (0 : Int32))).toNatClampNeg (.int (0 : Int32))) (0 : Int32) (0 : Int32))] 84 #[.val (.ref a1), .val (.int (bump z1 (bump z0 (0 : Int32)))), .val (.int (0 : Int32)), .val (.ref a11), .val (.int (bumq z0 (0 : Int32))), .val (.int (1 : Int32))] [(.int (2 : Int32)), (.int (1 : Int32))]
          refine go_icmp 111 87 rfl (by decide) rfl d2_84 rfl (fun (hc84 : (2 : Int) ≤ (1 : Int)) => absurd hc84 (by decide)) (fun (hc84 : ¬ ((2 : Int) ≤ (1 : Int))) => ?_)
          refine go_aloadN 88 rfl d2_87 rfl rfl ?_
          refine go_iload 90 rfl d2_88 rfl ?_
          refine go_baload 91 rfl d2_90 rfl (Mo.el (i := 0) rfl (by decide) rfl) ?_
          refine go_bipush (10 : Int32) 93 rfl d2_91 rfl ?_
          have jn7 : Go B2_n2 Z a0 h0 (fun v ds => ∃ a12 a13 a14 a11 : Addr, Ret (some (.ref a12)) (mem32 a12 a13 a14 a1 a11 z0 z1) v ds) 1 5 [ar a1 .byte [(.int z0), (.int z1)], ar a11 .int (wri z1 (wri z0 (List.replicate (bump z1 (bump z0 (0 : Int32))).toNatClampNeg (.int (0 : Int32))) (0 : Int32) (0 : Int32)) (bumq z0 (0 : Int32)) (1 : Int32))] 105 #[.val (.ref a1), .val (.int (bump z1 (bump z0 (0 : Int32)))), .val (.int (0 : Int32)), .val (.ref a11), .val (.int (bumq z1 (bumq z0 (0 : Int32)))), .val (.int (1 : Int32))] [] := by
            refine go_iinc #[.val (.ref a1), .val (.int (bump z1 (bump z0 (0 : Int32)))), .val (.int (0 : Int32)), .val (.ref a11), .val (.int (bumq z1 (bumq z0 (0 : Int32)))), .val (.int (2 : Int32))] 108 rfl d2_105 rfl rfl ?_
            refine go_goto 80 (by decide) rfl d2_108 ?_
            refine go_iload 82 rfl d2_80 rfl ?_
            refine go_aloadN 83 rfl d2_82 rfl rfl ?_
            refine go_alen 0 84 rfl d2_83 rfl rfl ?_
            show Go B2_n2 Z a0 h0 _ 1 5 [ar a1 .byte [(.int z0), (.int z1)], ar a11 .int (wri z1 (wri z0 (List.replicate (bump z1 (bump z0 (0 : Int32))).toNatClampNeg (.int (0 : Int32))) (0 : Int32) (0 : Int32)) (bumq z0 (0 : Int32)) (1 : Int32))] 84 #[.val (.ref a1), .val (.int (bump z1 (bump z0 (0 : Int32)))), .val (.int (0 : Int32)), .val (.ref a11), .val (.int (bumq z1 (bumq z0 (0 : Int32)))), .val (.int (2 : Int32))] [(.int (2 : Int32)), (.int (2 : Int32))]
            refine go_icmp 111 87 rfl (by decide) rfl d2_84 rfl (fun (hc84 : (2 : Int) ≤ (2 : Int)) => ?_) (fun (hc84 : ¬ ((2 : Int) ≤ (2 : Int))) => absurd hc84 (by decide))
            refine go_iloadN 112 rfl d2_111 rfl ?_
            refine go_if 121 115 rfl (by decide) rfl d2_112 rfl (fun (hc112 : (0 : Int) = 0) => ?_) (fun (hc112 : ¬ ((0 : Int) = 0)) => absurd hc112 (by decide))
            generalize eBK : (wri z1 (wri z0 (List.replicate (bump z1 (bump z0 (0 : Int32))).toNatClampNeg (.int (0 : Int32))) (0 : Int32) (0 : Int32)) (bumq z0 (0 : Int32)) (1 : Int32)) = v93
            refine go_new 124 rfl d2_121 (wd hw 11 rfl) (wd hw 12 rfl) (wd hw 9 rfl) (by decide) (by decide) [("com/example/clauseline/clauseline/model/Document", "recent", "[Lcom/example/clauseline/clauseline/model/Line;", .null), ("com/example/clauseline/clauseline/model/Document", "lines", "Ljava/util/List;", .null), ("com/example/clauseline/clauseline/model/Document", "bytes", "[B", .null), ("com/example/clauseline/clauseline/model/Document", "breaks", "[I", .null)] ⟨⟨Or.inr (wd hw 22 rfl), _, rfl, rfl⟩, ⟨⟨Or.inr (wd hw 46 rfl), _, rfl, rfl⟩, ⟨⟨Or.inr (wd hw 48 rfl), _, rfl, rfl⟩, ⟨⟨Or.inr (wd hw 50 rfl), _, rfl, rfl⟩, trivial⟩⟩⟩⟩ (by decide) (fun a12 => ?_)
            show Go B2_n2 Z a0 h0 _ 2 9 (mem23 a1 z0 z1 a11 v93 a12) 124 #[.val (.ref a1), .val (.int (bump z1 (bump z0 (0 : Int32)))), .val (.int (0 : Int32)), .val (.ref a11), .val (.int (bumq z1 (bumq z0 (0 : Int32)))), .val (.int (2 : Int32))] [(.ref a12)]
            refine go_dup 125 rfl d2_124 rfl rfl ?_
            refine go_aloadN 126 rfl d2_125 rfl rfl ?_
            refine go_aloadN 127 rfl d2_126 rfl rfl ?_
            refine go_callI 130 rfl d2_127 rfl (wd hw 13 rfl) (wd hw 14 rfl) (wd hw 9 rfl) (wd hw 15 rfl) (by decide) (mt31 Z a0 hw h0 a1 z0 z1 a11 v93 a12) (argsL := [(.ref a1), (.ref a11)]) (rest := [(.ref a12)]) rfl (ret := none) (ps := [(.array .byte), (.array .int)]) (by decide +kernel) rfl rfl 1 rfl (by decide) (by decide) (by decide) (by decide) ?_
            rintro _ _ ⟨a13, a14, rfl, rfl⟩
            show Go B2_n2 Z a0 h0 _ 4 27 (mem31 a12 a13 a14 a1 a11 z0 z1 v93) 130 #[.val (.ref a1), .val (.int (bump z1 (bump z0 (0 : Int32)))), .val (.int (0 : Int32)), .val (.ref a11), .val (.int (bumq z1 (bumq z0 (0 : Int32)))), .val (.int (2 : Int32))] [(.ref a12)]
            exact go_areturn d2_130 rfl rfl rfl rfl (by decide) (by decide) (by have eb : bk2 z0 z1 = v93 := (by unfold bk2; rw [if_pos (by omega)]; exact eBK); subst eb; exact ⟨a12, a13, a14, a11, rfl, rfl⟩)
          refine go_icmp 105 96 rfl (by decide) rfl d2_93 rfl (fun (hj7 : z1.toInt ≠ (10 : Int)) => ?_) (fun (hj7 : ¬ (z1.toInt ≠ (10 : Int))) => ?_)
          · rw [bumq_n (z := z1) (C := (bumq z0 (0 : Int32))) (by omega), wri_n (z := z1) (A := (wri z0 (List.replicate (bump z1 (bump z0 (0 : Int32))).toNatClampNeg (.int (0 : Int32))) (0 : Int32) (0 : Int32))) (l := (bumq z0 (0 : Int32))) (i := (1 : Int32)) (by omega)] at jn7
            exact jn7
          · refine go_aloadN 97 rfl d2_96 rfl rfl ?_
            refine go_iload 99 rfl d2_97 rfl ?_
            refine go_iinc #[.val (.ref a1), .val (.int (bump z1 (bump z0 (0 : Int32)))), .val (.int (0 : Int32)), .val (.ref a11), .val (.int ((bumq z0 (0 : Int32)) + (1 : Int32))), .val (.int (1 : Int32))] 102 rfl d2_99 rfl rfl ?_
            refine go_iload 104 rfl d2_102 rfl ?_
            refine go_iastore 1 105 rfl d2_104 rfl rfl (by (by_cases q0 : z0.toInt = 10 <;> by_cases q1 : z1.toInt = 10) <;> first | omega | decide | (simp only [bump, bumq, wri, q0, q1, if_true, if_false, eq_self, reduceIte]; decide)) (by (by_cases q0 : z0.toInt = 10 <;> by_cases q1 : z1.toInt = 10) <;> first | omega | decide | (simp only [bump, bumq, wri, q0, q1, if_true, if_false, eq_self, reduceIte]; decide)) ?_
            show Go B2_n2 Z a0 h0 _ 1 5 [ar a1 .byte [(.int z0), (.int z1)], ar a11 .int ((wri z0 (List.replicate (bump z1 (bump z0 (0 : Int32))).toNatClampNeg (.int (0 : Int32))) (0 : Int32) (0 : Int32)).set (bumq z0 (0 : Int32)).toNatClampNeg (.int (1 : Int32)))] 105 #[.val (.ref a1), .val (.int (bump z1 (bump z0 (0 : Int32)))), .val (.int (0 : Int32)), .val (.ref a11), .val (.int ((bumq z0 (0 : Int32)) + (1 : Int32))), .val (.int (1 : Int32))] []
            rw [bumq_p (z := z1) (C := (bumq z0 (0 : Int32))) (by omega), wri_p (z := z1) (A := (wri z0 (List.replicate (bump z1 (bump z0 (0 : Int32))).toNatClampNeg (.int (0 : Int32))) (0 : Int32) (0 : Int32))) (l := (bumq z0 (0 : Int32))) (i := (1 : Int32)) (by omega)] at jn7
            exact jn7
        refine go_icmp 105 96 rfl (by decide) rfl d2_93 rfl (fun (hj6 : z0.toInt ≠ (10 : Int)) => ?_) (fun (hj6 : ¬ (z0.toInt ≠ (10 : Int))) => ?_)
        · rw [bumq_n (z := z0) (C := (0 : Int32)) (by omega), wri_n (z := z0) (A := (List.replicate (bump z1 (bump z0 (0 : Int32))).toNatClampNeg (.int (0 : Int32)))) (l := (0 : Int32)) (i := (0 : Int32)) (by omega)] at jn6
          exact jn6
        · refine go_aloadN 97 rfl d2_96 rfl rfl ?_
          refine go_iload 99 rfl d2_97 rfl ?_
          refine go_iinc #[.val (.ref a1), .val (.int (bump z1 (bump z0 (0 : Int32)))), .val (.int (0 : Int32)), .val (.ref a11), .val (.int (1 : Int32)), .val (.int (0 : Int32))] 102 rfl d2_99 rfl rfl ?_
          refine go_iload 104 rfl d2_102 rfl ?_
          refine go_iastore 1 105 rfl d2_104 rfl rfl (by (by_cases q0 : z0.toInt = 10 <;> by_cases q1 : z1.toInt = 10) <;> first | omega | decide | (simp only [bump, bumq, wri, q0, q1, if_true, if_false, eq_self, reduceIte]; decide)) (by (by_cases q0 : z0.toInt = 10 <;> by_cases q1 : z1.toInt = 10) <;> first | omega | decide | (simp only [bump, bumq, wri, q0, q1, if_true, if_false, eq_self, reduceIte]; decide)) ?_
          show Go B2_n2 Z a0 h0 _ 1 5 [ar a1 .byte [(.int z0), (.int z1)], ar a11 .int ((List.replicate (bump z1 (bump z0 (0 : Int32))).toNatClampNeg (.int (0 : Int32))).set (0 : Int32).toNatClampNeg (.int (0 : Int32)))] 105 #[.val (.ref a1), .val (.int (bump z1 (bump z0 (0 : Int32)))), .val (.int (0 : Int32)), .val (.ref a11), .val (.int (1 : Int32)), .val (.int (0 : Int32))] []
          rw [bumq_p (z := z0) (C := (0 : Int32)) (by omega), wri_p (z := z0) (A := (List.replicate (bump z1 (bump z0 (0 : Int32))).toNatClampNeg (.int (0 : Int32)))) (l := (0 : Int32)) (i := (0 : Int32)) (by omega)] at jn6
          exact jn6
      · refine go_iconst (1 : Int32) 55 rfl d2_54 rfl ?_
        refine go_goto 59 (by decide) rfl d2_55 ?_
        refine go_istoreN #[.val (.ref a1), .val (.int (bump z1 (bump z0 (0 : Int32)))), .val (.int (1 : Int32)), .val (.int (2 : Int32)), .val (.int (2 : Int32)), .val (.int z1)] 60 rfl d2_59 rfl rfl ?_
        refine go_iloadN 61 rfl d2_60 rfl ?_
        refine go_if 70 64 rfl (by decide) rfl d2_61 rfl (fun (hc61 : (1 : Int) = 0) => absurd hc61 (by decide)) (fun (hc61 : ¬ ((1 : Int) = 0)) => ?_)
        refine go_iloadN 65 rfl d2_64 rfl ?_
        refine go_iconst (1 : Int32) 66 rfl d2_65 rfl ?_
        refine go_iadd 67 rfl d2_66 rfl ?_
        refine go_goto 71 (by decide) rfl d2_67 ?_
        refine go_newarr 73 rfl d2_71 rfl (wd hw 6 rfl) (by (by_cases q0 : z0.toInt = 10 <;> by_cases q1 : z1.toInt = 10) <;> first | omega | decide | (simp only [bump, bumq, wri, q0, q1, if_true, if_false, eq_self, reduceIte]; decide)) 5 (by (by_cases q0 : z0.toInt = 10 <;> by_cases q1 : z1.toInt = 10) <;> first | omega | decide | (simp only [bump, bumq, wri, q0, q1, if_true, if_false, eq_self, reduceIte]; decide)) (by decide) (by decide) (by decide) (fun a15 => ?_)
        show Go B2_n2 Z a0 h0 _ 1 5 [ar a1 .byte [(.int z0), (.int z1)], ar a15 .int (List.replicate ((bump z1 (bump z0 (0 : Int32))) + (1 : Int32)).toNatClampNeg (.int (0 : Int32)))] 73 #[.val (.ref a1), .val (.int (bump z1 (bump z0 (0 : Int32)))), .val (.int (1 : Int32)), .val (.int (2 : Int32)), .val (.int (2 : Int32)), .val (.int z1)] [(.ref a15)]
        refine go_astoreN #[.val (.ref a1), .val (.int (bump z1 (bump z0 (0 : Int32)))), .val (.int (1 : Int32)), .val (.ref a15), .val (.int (2 : Int32)), .val (.int z1)] 74 rfl d2_73 rfl rfl rfl ?_
        refine go_iconst (0 : Int32) 75 rfl d2_74 rfl ?_
        refine go_istore #[.val (.ref a1), .val (.int (bump z1 (bump z0 (0 : Int32)))), .val (.int (1 : Int32)), .val (.ref a15), .val (.int (0 : Int32)), .val (.int z1)] 77 rfl d2_75 rfl rfl ?_
        refine go_iconst (0 : Int32) 78 rfl d2_77 rfl ?_
        refine go_istore #[.val (.ref a1), .val (.int (bump z1 (bump z0 (0 : Int32)))), .val (.int (1 : Int32)), .val (.ref a15), .val (.int (0 : Int32)), .val (.int (0 : Int32))] 80 rfl d2_78 rfl rfl ?_
        refine go_iload 82 rfl d2_80 rfl ?_
        refine go_aloadN 83 rfl d2_82 rfl rfl ?_
        refine go_alen 0 84 rfl d2_83 rfl rfl ?_
        show Go B2_n2 Z a0 h0 _ 1 5 [ar a1 .byte [(.int z0), (.int z1)], ar a15 .int (List.replicate ((bump z1 (bump z0 (0 : Int32))) + (1 : Int32)).toNatClampNeg (.int (0 : Int32)))] 84 #[.val (.ref a1), .val (.int (bump z1 (bump z0 (0 : Int32)))), .val (.int (1 : Int32)), .val (.ref a15), .val (.int (0 : Int32)), .val (.int (0 : Int32))] [(.int (2 : Int32)), (.int (0 : Int32))]
        refine go_icmp 111 87 rfl (by decide) rfl d2_84 rfl (fun (hc84 : (2 : Int) ≤ (0 : Int)) => absurd hc84 (by decide)) (fun (hc84 : ¬ ((2 : Int) ≤ (0 : Int))) => ?_)
        refine go_aloadN 88 rfl d2_87 rfl rfl ?_
        refine go_iload 90 rfl d2_88 rfl ?_
        refine go_baload 91 rfl d2_90 rfl (Mo.el (i := 0) rfl (by decide) rfl) ?_
        refine go_bipush (10 : Int32) 93 rfl d2_91 rfl ?_
        have jn8 : Go B2_n2 Z a0 h0 (fun v ds => ∃ a12 a13 a14 a11 : Addr, Ret (some (.ref a12)) (mem32 a12 a13 a14 a1 a11 z0 z1) v ds) 1 5 [ar a1 .byte [(.int z0), (.int z1)], ar a15 .int (wri z0 (List.replicate ((bump z1 (bump z0 (0 : Int32))) + (1 : Int32)).toNatClampNeg (.int (0 : Int32))) (0 : Int32) (0 : Int32))] 105 #[.val (.ref a1), .val (.int (bump z1 (bump z0 (0 : Int32)))), .val (.int (1 : Int32)), .val (.ref a15), .val (.int (bumq z0 (0 : Int32))), .val (.int (0 : Int32))] [] := by
          refine go_iinc #[.val (.ref a1), .val (.int (bump z1 (bump z0 (0 : Int32)))), .val (.int (1 : Int32)), .val (.ref a15), .val (.int (bumq z0 (0 : Int32))), .val (.int (1 : Int32))] 108 rfl d2_105 rfl rfl ?_
          refine go_goto 80 (by decide) rfl d2_108 ?_
          refine go_iload 82 rfl d2_80 rfl ?_
          refine go_aloadN 83 rfl d2_82 rfl rfl ?_
          refine go_alen 0 84 rfl d2_83 rfl rfl ?_
          show Go B2_n2 Z a0 h0 _ 1 5 [ar a1 .byte [(.int z0), (.int z1)], ar a15 .int (wri z0 (List.replicate ((bump z1 (bump z0 (0 : Int32))) + (1 : Int32)).toNatClampNeg (.int (0 : Int32))) (0 : Int32) (0 : Int32))] 84 #[.val (.ref a1), .val (.int (bump z1 (bump z0 (0 : Int32)))), .val (.int (1 : Int32)), .val (.ref a15), .val (.int (bumq z0 (0 : Int32))), .val (.int (1 : Int32))] [(.int (2 : Int32)), (.int (1 : Int32))]
          refine go_icmp 111 87 rfl (by decide) rfl d2_84 rfl (fun (hc84 : (2 : Int) ≤ (1 : Int)) => absurd hc84 (by decide)) (fun (hc84 : ¬ ((2 : Int) ≤ (1 : Int))) => ?_)
          refine go_aloadN 88 rfl d2_87 rfl rfl ?_
          refine go_iload 90 rfl d2_88 rfl ?_
          refine go_baload 91 rfl d2_90 rfl (Mo.el (i := 0) rfl (by decide) rfl) ?_
          refine go_bipush (10 : Int32) 93 rfl d2_91 rfl ?_
          have jn9 : Go B2_n2 Z a0 h0 (fun v ds => ∃ a12 a13 a14 a11 : Addr, Ret (some (.ref a12)) (mem32 a12 a13 a14 a1 a11 z0 z1) v ds) 1 5 [ar a1 .byte [(.int z0), (.int z1)], ar a15 .int (wri z1 (wri z0 (List.replicate ((bump z1 (bump z0 (0 : Int32))) + (1 : Int32)).toNatClampNeg (.int (0 : Int32))) (0 : Int32) (0 : Int32)) (bumq z0 (0 : Int32)) (1 : Int32))] 105 #[.val (.ref a1), .val (.int (bump z1 (bump z0 (0 : Int32)))), .val (.int (1 : Int32)), .val (.ref a15), .val (.int (bumq z1 (bumq z0 (0 : Int32)))), .val (.int (1 : Int32))] [] := by
            refine go_iinc #[.val (.ref a1), .val (.int (bump z1 (bump z0 (0 : Int32)))), .val (.int (1 : Int32)), .val (.ref a15), .val (.int (bumq z1 (bumq z0 (0 : Int32)))), .val (.int (2 : Int32))] 108 rfl d2_105 rfl rfl ?_
            refine go_goto 80 (by decide) rfl d2_108 ?_
            refine go_iload 82 rfl d2_80 rfl ?_
            refine go_aloadN 83 rfl d2_82 rfl rfl ?_
            refine go_alen 0 84 rfl d2_83 rfl rfl ?_
            show Go B2_n2 Z a0 h0 _ 1 5 [ar a1 .byte [(.int z0), (.int z1)], ar a15 .int (wri z1 (wri z0 (List.replicate ((bump z1 (bump z0 (0 : Int32))) + (1 : Int32)).toNatClampNeg (.int (0 : Int32))) (0 : Int32) (0 : Int32)) (bumq z0 (0 : Int32)) (1 : Int32))] 84 #[.val (.ref a1), .val (.int (bump z1 (bump z0 (0 : Int32)))), .val (.int (1 : Int32)), .val (.ref a15), .val (.int (bumq z1 (bumq z0 (0 : Int32)))), .val (.int (2 : Int32))] [(.int (2 : Int32)), (.int (2 : Int32))]
            refine go_icmp 111 87 rfl (by decide) rfl d2_84 rfl (fun (hc84 : (2 : Int) ≤ (2 : Int)) => ?_) (fun (hc84 : ¬ ((2 : Int) ≤ (2 : Int))) => absurd hc84 (by decide))
            refine go_iloadN 112 rfl d2_111 rfl ?_
            refine go_if 121 115 rfl (by decide) rfl d2_112 rfl (fun (hc112 : (1 : Int) = 0) => absurd hc112 (by decide)) (fun (hc112 : ¬ ((1 : Int) = 0)) => ?_)
            refine go_aloadN 116 rfl d2_115 rfl rfl ?_
            refine go_iload 118 rfl d2_116 rfl ?_
            refine go_aloadN 119 rfl d2_118 rfl rfl ?_
            refine go_alen 0 120 rfl d2_119 rfl rfl ?_
            show Go B2_n2 Z a0 h0 _ 1 5 [ar a1 .byte [(.int z0), (.int z1)], ar a15 .int (wri z1 (wri z0 (List.replicate ((bump z1 (bump z0 (0 : Int32))) + (1 : Int32)).toNatClampNeg (.int (0 : Int32))) (0 : Int32) (0 : Int32)) (bumq z0 (0 : Int32)) (1 : Int32))] 120 #[.val (.ref a1), .val (.int (bump z1 (bump z0 (0 : Int32)))), .val (.int (1 : Int32)), .val (.ref a15), .val (.int (bumq z1 (bumq z0 (0 : Int32)))), .val (.int (2 : Int32))] [(.int (2 : Int32)), (.int (bumq z1 (bumq z0 (0 : Int32)))), (.ref a15)]
            refine go_iastore 1 121 rfl d2_120 rfl rfl (by (by_cases q0 : z0.toInt = 10 <;> by_cases q1 : z1.toInt = 10) <;> first | omega | decide | (simp only [bump, bumq, wri, q0, q1, if_true, if_false, eq_self, reduceIte]; decide)) (by (by_cases q0 : z0.toInt = 10 <;> by_cases q1 : z1.toInt = 10) <;> first | omega | decide | (simp only [bump, bumq, wri, q0, q1, if_true, if_false, eq_self, reduceIte]; decide)) ?_
            show Go B2_n2 Z a0 h0 _ 1 5 [ar a1 .byte [(.int z0), (.int z1)], ar a15 .int ((wri z1 (wri z0 (List.replicate ((bump z1 (bump z0 (0 : Int32))) + (1 : Int32)).toNatClampNeg (.int (0 : Int32))) (0 : Int32) (0 : Int32)) (bumq z0 (0 : Int32)) (1 : Int32)).set (bumq z1 (bumq z0 (0 : Int32))).toNatClampNeg (.int (2 : Int32)))] 121 #[.val (.ref a1), .val (.int (bump z1 (bump z0 (0 : Int32)))), .val (.int (1 : Int32)), .val (.ref a15), .val (.int (bumq z1 (bumq z0 (0 : Int32)))), .val (.int (2 : Int32))] []
            generalize eBK : ((wri z1 (wri z0 (List.replicate ((bump z1 (bump z0 (0 : Int32))) + (1 : Int32)).toNatClampNeg (.int (0 : Int32))) (0 : Int32) (0 : Int32)) (bumq z0 (0 : Int32)) (1 : Int32)).set (bumq z1 (bumq z0 (0 : Int32))).toNatClampNeg (.int (2 : Int32))) = v93
            refine go_new 124 rfl d2_121 (wd hw 11 rfl) (wd hw 12 rfl) (wd hw 9 rfl) (by decide) (by decide) [("com/example/clauseline/clauseline/model/Document", "recent", "[Lcom/example/clauseline/clauseline/model/Line;", .null), ("com/example/clauseline/clauseline/model/Document", "lines", "Ljava/util/List;", .null), ("com/example/clauseline/clauseline/model/Document", "bytes", "[B", .null), ("com/example/clauseline/clauseline/model/Document", "breaks", "[I", .null)] ⟨⟨Or.inr (wd hw 22 rfl), _, rfl, rfl⟩, ⟨⟨Or.inr (wd hw 46 rfl), _, rfl, rfl⟩, ⟨⟨Or.inr (wd hw 48 rfl), _, rfl, rfl⟩, ⟨⟨Or.inr (wd hw 50 rfl), _, rfl, rfl⟩, trivial⟩⟩⟩⟩ (by decide) (fun a16 => ?_)
            show Go B2_n2 Z a0 h0 _ 2 9 (mem23 a1 z0 z1 a15 v93 a16) 124 #[.val (.ref a1), .val (.int (bump z1 (bump z0 (0 : Int32)))), .val (.int (1 : Int32)), .val (.ref a15), .val (.int (bumq z1 (bumq z0 (0 : Int32)))), .val (.int (2 : Int32))] [(.ref a16)]
            refine go_dup 125 rfl d2_124 rfl rfl ?_
            refine go_aloadN 126 rfl d2_125 rfl rfl ?_
            refine go_aloadN 127 rfl d2_126 rfl rfl ?_
            refine go_callI 130 rfl d2_127 rfl (wd hw 13 rfl) (wd hw 14 rfl) (wd hw 9 rfl) (wd hw 15 rfl) (by decide) (mt31 Z a0 hw h0 a1 z0 z1 a15 v93 a16) (argsL := [(.ref a1), (.ref a15)]) (rest := [(.ref a16)]) rfl (ret := none) (ps := [(.array .byte), (.array .int)]) (by decide +kernel) rfl rfl 1 rfl (by decide) (by decide) (by decide) (by decide) ?_
            rintro _ _ ⟨a17, a18, rfl, rfl⟩
            show Go B2_n2 Z a0 h0 _ 4 27 (mem31 a16 a17 a18 a1 a15 z0 z1 v93) 130 #[.val (.ref a1), .val (.int (bump z1 (bump z0 (0 : Int32)))), .val (.int (1 : Int32)), .val (.ref a15), .val (.int (bumq z1 (bumq z0 (0 : Int32)))), .val (.int (2 : Int32))] [(.ref a16)]
            exact go_areturn d2_130 rfl rfl rfl rfl (by decide) (by decide) (by have eb : bk2 z0 z1 = v93 := (by unfold bk2; rw [if_neg (by omega)]; exact eBK); subst eb; exact ⟨a16, a17, a18, a15, rfl, rfl⟩)
          refine go_icmp 105 96 rfl (by decide) rfl d2_93 rfl (fun (hj9 : z1.toInt ≠ (10 : Int)) => ?_) (fun (hj9 : ¬ (z1.toInt ≠ (10 : Int))) => ?_)
          · rw [bumq_n (z := z1) (C := (bumq z0 (0 : Int32))) (by omega), wri_n (z := z1) (A := (wri z0 (List.replicate ((bump z1 (bump z0 (0 : Int32))) + (1 : Int32)).toNatClampNeg (.int (0 : Int32))) (0 : Int32) (0 : Int32))) (l := (bumq z0 (0 : Int32))) (i := (1 : Int32)) (by omega)] at jn9
            exact jn9
          · refine go_aloadN 97 rfl d2_96 rfl rfl ?_
            refine go_iload 99 rfl d2_97 rfl ?_
            refine go_iinc #[.val (.ref a1), .val (.int (bump z1 (bump z0 (0 : Int32)))), .val (.int (1 : Int32)), .val (.ref a15), .val (.int ((bumq z0 (0 : Int32)) + (1 : Int32))), .val (.int (1 : Int32))] 102 rfl d2_99 rfl rfl ?_
            refine go_iload 104 rfl d2_102 rfl ?_
            refine go_iastore 1 105 rfl d2_104 rfl rfl (by (by_cases q0 : z0.toInt = 10 <;> by_cases q1 : z1.toInt = 10) <;> first | omega | decide | (simp only [bump, bumq, wri, q0, q1, if_true, if_false, eq_self, reduceIte]; decide)) (by (by_cases q0 : z0.toInt = 10 <;> by_cases q1 : z1.toInt = 10) <;> first | omega | decide | (simp only [bump, bumq, wri, q0, q1, if_true, if_false, eq_self, reduceIte]; decide)) ?_
            show Go B2_n2 Z a0 h0 _ 1 5 [ar a1 .byte [(.int z0), (.int z1)], ar a15 .int ((wri z0 (List.replicate ((bump z1 (bump z0 (0 : Int32))) + (1 : Int32)).toNatClampNeg (.int (0 : Int32))) (0 : Int32) (0 : Int32)).set (bumq z0 (0 : Int32)).toNatClampNeg (.int (1 : Int32)))] 105 #[.val (.ref a1), .val (.int (bump z1 (bump z0 (0 : Int32)))), .val (.int (1 : Int32)), .val (.ref a15), .val (.int ((bumq z0 (0 : Int32)) + (1 : Int32))), .val (.int (1 : Int32))] []
            rw [bumq_p (z := z1) (C := (bumq z0 (0 : Int32))) (by omega), wri_p (z := z1) (A := (wri z0 (List.replicate ((bump z1 (bump z0 (0 : Int32))) + (1 : Int32)).toNatClampNeg (.int (0 : Int32))) (0 : Int32) (0 : Int32))) (l := (bumq z0 (0 : Int32))) (i := (1 : Int32)) (by omega)] at jn9
            exact jn9
        refine go_icmp 105 96 rfl (by decide) rfl d2_93 rfl (fun (hj8 : z0.toInt ≠ (10 : Int)) => ?_) (fun (hj8 : ¬ (z0.toInt ≠ (10 : Int))) => ?_)
        · rw [bumq_n (z := z0) (C := (0 : Int32)) (by omega), wri_n (z := z0) (A := (List.replicate ((bump z1 (bump z0 (0 : Int32))) + (1 : Int32)).toNatClampNeg (.int (0 : Int32)))) (l := (0 : Int32)) (i := (0 : Int32)) (by omega)] at jn8
          exact jn8
        · refine go_aloadN 97 rfl d2_96 rfl rfl ?_
          refine go_iload 99 rfl d2_97 rfl ?_
          refine go_iinc #[.val (.ref a1), .val (.int (bump z1 (bump z0 (0 : Int32)))), .val (.int (1 : Int32)), .val (.ref a15), .val (.int (1 : Int32)), .val (.int (0 : Int32))] 102 rfl d2_99 rfl rfl ?_
          refine go_iload 104 rfl d2_102 rfl ?_
          refine go_iastore 1 105 rfl d2_104 rfl rfl (by (by_cases q0 : z0.toInt = 10 <;> by_cases q1 : z1.toInt = 10) <;> first | omega | decide | (simp only [bump, bumq, wri, q0, q1, if_true, if_false, eq_self, reduceIte]; decide)) (by (by_cases q0 : z0.toInt = 10 <;> by_cases q1 : z1.toInt = 10) <;> first | omega | decide | (simp only [bump, bumq, wri, q0, q1, if_true, if_false, eq_self, reduceIte]; decide)) ?_
          show Go B2_n2 Z a0 h0 _ 1 5 [ar a1 .byte [(.int z0), (.int z1)], ar a15 .int ((List.replicate ((bump z1 (bump z0 (0 : Int32))) + (1 : Int32)).toNatClampNeg (.int (0 : Int32))).set (0 : Int32).toNatClampNeg (.int (0 : Int32)))] 105 #[.val (.ref a1), .val (.int (bump z1 (bump z0 (0 : Int32)))), .val (.int (1 : Int32)), .val (.ref a15), .val (.int (1 : Int32)), .val (.int (0 : Int32))] []
          rw [bumq_p (z := z0) (C := (0 : Int32)) (by omega), wri_p (z := z0) (A := (List.replicate ((bump z1 (bump z0 (0 : Int32))) + (1 : Int32)).toNatClampNeg (.int (0 : Int32)))) (l := (0 : Int32)) (i := (0 : Int32)) (by omega)] at jn8
          exact jn8
    refine go_icmp 32 29 rfl (by decide) rfl d2_26 rfl (fun (hj5 : z1.toInt ≠ (10 : Int)) => ?_) (fun (hj5 : ¬ (z1.toInt ≠ (10 : Int))) => ?_)
    · rw [bump_n (z := z1) (C := (bump z0 (0 : Int32))) (by omega)] at jn5
      exact jn5
    · refine go_iinc #[.val (.ref a1), .val (.int ((bump z0 (0 : Int32)) + (1 : Int32))), .val (.ref a1), .val (.int (2 : Int32)), .val (.int (1 : Int32)), .val (.int z1)] 32 rfl d2_29 rfl rfl ?_
      rw [bump_p (z := z1) (C := (bump z0 (0 : Int32))) (by omega)] at jn5
      exact jn5
  refine go_icmp 32 29 rfl (by decide) rfl d2_26 rfl (fun (hj4 : z0.toInt ≠ (10 : Int)) => ?_) (fun (hj4 : ¬ (z0.toInt ≠ (10 : Int))) => ?_)
  · rw [bump_n (z := z0) (C := (0 : Int32)) (by omega)] at jn4
    exact jn4
  · refine go_iinc #[.val (.ref a1), .val (.int (1 : Int32)), .val (.ref a1), .val (.int (2 : Int32)), .val (.int (0 : Int32)), .val (.int z0)] 32 rfl d2_29 rfl rfl ?_
    rw [bump_p (z := z0) (C := (0 : Int32)) (by omega)] at jn4
    exact jn4
def B3_33 : Bdy := (⟨"com/example/clauseline/clauseline/model/Document", "<init>", "([B[I)V"⟩, prog_16_method_1_code, 3, none, ({ frames := 4, cells := 2, slots := 18, locals := 51 } : Room))
set_option maxRecDepth 65536 in
set_option maxHeartbeats 4000000 in
theorem mt33 (Z : State) (a0 : Array Value) (hw : ∀ d ∈ tables_1, d.before a0 Z = true) (h0 : Heap) (a1 : Addr) (z0 : Int32) (z1 : Int32) (z2 : Int32) (a11 : Addr) (v93 : List Value) (a12 : Addr) :
    Met B3_33 Z a0 h0 #[(.ref a12), (.ref a1), (.ref a11)] (mem33 a1 z0 z1 z2 a11 v93 a12) (fun v ds => ∃ a113 a114 : Addr, Ret none (mem41 a12 a113 a114 a1 a11 z0 z1 z2 v93) v ds) := by
  refine Met.of pn3 (ls := #[.val (.ref a12), .val (.ref a1), .val (.ref a11)]) (fun m => by first | (simp [entryFrame, mkF, argsToLocals, Value.category, B3_33]; done) | rfl) ?_
  show Go B3_33 Z a0 h0 _ 0 0 (mem33 a1 z0 z1 z2 a11 v93 a12) 0 #[.val (.ref a12), .val (.ref a1), .val (.ref a11)] []
  refine go_aloadN 1 rfl d3_0 rfl rfl ?_
  refine go_initObj 4 rfl d3_1 rfl (wd hw 16 rfl) (wd hw 17 rfl) (wd hw 18 rfl) rfl (by decide) (by decide) ?_
  refine go_aloadN 5 rfl d3_4 rfl rfl ?_
  refine go_bipush (16 : Int32) 7 rfl d3_5 rfl ?_
  refine go_anewarr 10 rfl d3_7 rfl (wd hw 19 rfl) (wd hw 20 rfl) (by decide) 16 (by decide) (by decide) (by decide) (by decide) (fun a113 => ?_)
  show Go B3_33 Z a0 h0 _ 1 16 (mem34 a1 z0 z1 z2 a11 v93 a12 a113) 10 #[.val (.ref a12), .val (.ref a1), .val (.ref a11)] [(.ref a113), (.ref a12)]
  refine go_put 2 0 13 rfl d3_10 rfl rfl rfl (wd hw 21 rfl) (Or.inr ⟨(wd hw 22 rfl), rfl, rfl⟩) (wd hw 12 rfl) (ty := (.array (.object "com/example/clauseline/clauseline/model/Line"))) (by decide) rfl rfl ?_
  show Go B3_33 Z a0 h0 _ 1 16 (mem35 a1 z0 z1 z2 a11 v93 a12 a113) 13 #[.val (.ref a12), .val (.ref a1), .val (.ref a11)] []
  refine go_aloadN 14 rfl d3_13 rfl rfl ?_
  refine go_new 17 rfl d3_14 (wd hw 23 rfl) (wd hw 24 rfl) (wd hw 25 rfl) (by decide) (by decide) [("com/example/clauseline/clauseline/model/Document$Lines", "this$0", "Lcom/example/clauseline/clauseline/model/Document;", .null), ("java/util/AbstractList", "modCount", "I", (.int (0 : Int32)))] ⟨⟨Or.inr (wd hw 30 rfl), _, rfl, rfl⟩, ⟨⟨Or.inl (wd hw 44 rfl), _, rfl, rfl⟩, trivial⟩⟩ (by decide) (fun a114 => ?_)
  show Go B3_33 Z a0 h0 _ 2 18 (mem36 a1 z0 z1 z2 a11 v93 a12 a113 a114) 17 #[.val (.ref a12), .val (.ref a1), .val (.ref a11)] [(.ref a114), (.ref a12)]
  refine go_dup 18 rfl d3_17 rfl rfl ?_
  refine go_aloadN 19 rfl d3_18 rfl rfl ?_
  refine Go.front 4 (Nat.le_of_ble_eq_true rfl) ?_
  refine Go.front 4 (Nat.le_of_ble_eq_true rfl) ?_
  refine Go.front 4 (Nat.le_of_ble_eq_true rfl) ?_
  show Go B3_33 Z a0 h0 _ 2 18 (mem37 a12 a113 a114 a1 z0 z1 z2 a11 v93) 19 #[.val (.ref a12), .val (.ref a1), .val (.ref a11)] [(.ref a12), (.ref a114), (.ref a114), (.ref a12)]
  refine go_callIR 22 rfl d3_19 rfl (wd hw 26 rfl) (wd hw 27 rfl) (wd hw 25 rfl) (wd hw 28 rfl) (by decide) (Met.frame [ar a1 .byte [(.int z0), (.int z1), (.int z2)], ar a11 .int v93] (mt25 Z a0 hw h0 a12 a113 a114)) (argsL := [(.ref a12)]) (rest := [(.ref a114), (.ref a12)]) rfl (ret := none) (ps := [(.object "com/example/clauseline/clauseline/model/Document")]) (by decide +kernel) rfl rfl 2 rfl (by decide) (by decide) (by decide) (by decide) ?_
  rintro _ _ ⟨_, ⟨rfl, rfl⟩, rfl⟩
  show Go B3_33 Z a0 h0 _ 2 18 (mem38 a12 a113 a114 a1 z0 z1 z2 a11 v93) 22 #[.val (.ref a12), .val (.ref a1), .val (.ref a11)] [(.ref a114), (.ref a12)]
  refine go_put 0 1 25 rfl d3_22 rfl rfl rfl (wd hw 45 rfl) (Or.inr ⟨(wd hw 46 rfl), rfl, rfl⟩) (wd hw 12 rfl) (ty := (.object "java/util/List")) (by decide) rfl rfl ?_
  show Go B3_33 Z a0 h0 _ 2 18 (mem39 a12 a113 a114 a1 z0 z1 z2 a11 v93) 25 #[.val (.ref a12), .val (.ref a1), .val (.ref a11)] []
  refine go_aloadN 26 rfl d3_25 rfl rfl ?_
  refine go_aloadN 27 rfl d3_26 rfl rfl ?_
  refine go_put 0 2 30 rfl d3_27 rfl rfl rfl (wd hw 47 rfl) (Or.inr ⟨(wd hw 48 rfl), rfl, rfl⟩) (wd hw 12 rfl) (ty := (.array .byte)) (by decide) rfl rfl ?_
  show Go B3_33 Z a0 h0 _ 2 18 (mem40 a12 a113 a114 a1 z0 z1 z2 a11 v93) 30 #[.val (.ref a12), .val (.ref a1), .val (.ref a11)] []
  refine go_aloadN 31 rfl d3_30 rfl rfl ?_
  refine go_aloadN 32 rfl d3_31 rfl rfl ?_
  refine go_put 0 3 35 rfl d3_32 rfl rfl rfl (wd hw 49 rfl) (Or.inr ⟨(wd hw 50 rfl), rfl, rfl⟩) (wd hw 12 rfl) (ty := (.array .int)) (by decide) rfl rfl ?_
  show Go B3_33 Z a0 h0 _ 2 18 (mem41 a12 a113 a114 a1 a11 z0 z1 z2 v93) 35 #[.val (.ref a12), .val (.ref a1), .val (.ref a11)] []
  exact go_return d3_35 rfl rfl (by decide) (by decide) ⟨a113, a114, rfl, rfl⟩
def B2_n3 : Bdy := (⟨"com/example/clauseline/clauseline/model/Document", "of", "([B)Lcom/example/clauseline/clauseline/model/Document;"⟩, prog_16_method_2_code, 6, (some (.object "com/example/clauseline/clauseline/model/Document")), ({ frames := 5, cells := 4, slots := 27, locals := 66 } : Room))
set_option maxRecDepth 65536 in
set_option maxHeartbeats 4000000 in
theorem m_of3 (Z : State) (a0 : Array Value) (hw : ∀ d ∈ tables_1, d.before a0 Z = true) (h0 : Heap) (a1 : Addr) (z0 z1 z2 : Int32) :
    Met B2_n3 Z a0 h0 #[(.ref a1)] [ar a1 .byte [(.int z0), (.int z1), (.int z2)]] (fun v ds => ∃ a12 a13 a14 a11 : Addr, Ret (some (.ref a12)) (mem42 a12 a13 a14 a1 a11 z0 z1 z2) v ds) := by
  refine Met.of pn2 (ls := #[.val (.ref a1), .unset, .unset, .unset, .unset, .unset]) (fun m => by first | (simp [entryFrame, mkF, argsToLocals, Value.category, B2_n3]; done) | rfl) ?_
  show Go B2_n3 Z a0 h0 _ 0 0 [ar a1 .byte [(.int z0), (.int z1), (.int z2)]] 0 #[.val (.ref a1), .unset, .unset, .unset, .unset, .unset] []
  refine go_iconst (0 : Int32) 1 rfl d2_0 rfl ?_
  refine go_istoreN #[.val (.ref a1), .val (.int (0 : Int32)), .unset, .unset, .unset, .unset] 2 rfl d2_1 rfl rfl ?_
  refine go_aloadN 3 rfl d2_2 rfl rfl ?_
  refine go_astoreN #[.val (.ref a1), .val (.int (0 : Int32)), .val (.ref a1), .unset, .unset, .unset] 4 rfl d2_3 rfl rfl rfl ?_
  refine go_aloadN 5 rfl d2_4 rfl rfl ?_
  refine go_alen 0 6 rfl d2_5 rfl rfl ?_
  show Go B2_n3 Z a0 h0 _ 0 0 [ar a1 .byte [(.int z0), (.int z1), (.int z2)]] 6 #[.val (.ref a1), .val (.int (0 : Int32)), .val (.ref a1), .unset, .unset, .unset] [(.int (3 : Int32))]
  refine go_istoreN #[.val (.ref a1), .val (.int (0 : Int32)), .val (.ref a1), .val (.int (3 : Int32)), .unset, .unset] 7 rfl d2_6 rfl rfl ?_
  refine go_iconst (0 : Int32) 8 rfl d2_7 rfl ?_
  refine go_istore #[.val (.ref a1), .val (.int (0 : Int32)), .val (.ref a1), .val (.int (3 : Int32)), .val (.int (0 : Int32)), .unset] 10 rfl d2_8 rfl rfl ?_
  refine go_iload 12 rfl d2_10 rfl ?_
  refine go_iloadN 13 rfl d2_12 rfl ?_
  refine go_icmp 38 16 rfl (by decide) rfl d2_13 rfl (fun (hc13 : (3 : Int) ≤ (0 : Int)) => absurd hc13 (by decide)) (fun (hc13 : ¬ ((3 : Int) ≤ (0 : Int))) => ?_)
  refine go_aloadN 17 rfl d2_16 rfl rfl ?_
  refine go_iload 19 rfl d2_17 rfl ?_
  refine go_baload 20 rfl d2_19 rfl (Mo.el (i := 0) rfl (by decide) rfl) ?_
  refine go_istore #[.val (.ref a1), .val (.int (0 : Int32)), .val (.ref a1), .val (.int (3 : Int32)), .val (.int (0 : Int32)), .val (.int z0)] 22 rfl d2_20 rfl rfl ?_
  refine go_iload 24 rfl d2_22 rfl ?_
  refine go_bipush (10 : Int32) 26 rfl d2_24 rfl ?_
  have jn10 : Go B2_n3 Z a0 h0 (fun v ds => ∃ a12 a13 a14 a11 : Addr, Ret (some (.ref a12)) (mem42 a12 a13 a14 a1 a11 z0 z1 z2) v ds) 0 0 [ar a1 .byte [(.int z0), (.int z1), (.int z2)]] 32 #[.val (.ref a1), .val (.int (bump z0 (0 : Int32))), .val (.ref a1), .val (.int (3 : Int32)), .val (.int (0 : Int32)), .val (.int z0)] [] := by
    refine go_iinc #[.val (.ref a1), .val (.int (bump z0 (0 : Int32))), .val (.ref a1), .val (.int (3 : Int32)), .val (.int (1 : Int32)), .val (.int z0)] 35 rfl d2_32 rfl rfl ?_
    refine go_goto 10 (by decide) rfl d2_35 ?_
    refine go_iload 12 rfl d2_10 rfl ?_
    refine go_iloadN 13 rfl d2_12 rfl ?_
    refine go_icmp 38 16 rfl (by decide) rfl d2_13 rfl (fun (hc13 : (3 : Int) ≤ (1 : Int)) => absurd hc13 (by decide)) (fun (hc13 : ¬ ((3 : Int) ≤ (1 : Int))) => ?_)
    refine go_aloadN 17 rfl d2_16 rfl rfl ?_
    refine go_iload 19 rfl d2_17 rfl ?_
    refine go_baload 20 rfl d2_19 rfl (Mo.el (i := 0) rfl (by decide) rfl) ?_
    refine go_istore #[.val (.ref a1), .val (.int (bump z0 (0 : Int32))), .val (.ref a1), .val (.int (3 : Int32)), .val (.int (1 : Int32)), .val (.int z1)] 22 rfl d2_20 rfl rfl ?_
    refine go_iload 24 rfl d2_22 rfl ?_
    refine go_bipush (10 : Int32) 26 rfl d2_24 rfl ?_
    have jn11 : Go B2_n3 Z a0 h0 (fun v ds => ∃ a12 a13 a14 a11 : Addr, Ret (some (.ref a12)) (mem42 a12 a13 a14 a1 a11 z0 z1 z2) v ds) 0 0 [ar a1 .byte [(.int z0), (.int z1), (.int z2)]] 32 #[.val (.ref a1), .val (.int (bump z1 (bump z0 (0 : Int32)))), .val (.ref a1), .val (.int (3 : Int32)), .val (.int (1 : Int32)), .val (.int z1)] [] := by
      refine go_iinc #[.val (.ref a1), .val (.int (bump z1 (bump z0 (0 : Int32)))), .val (.ref a1), .val (.int (3 : Int32)), .val (.int (2 : Int32)), .val (.int z1)] 35 rfl d2_32 rfl rfl ?_
      refine go_goto 10 (by decide) rfl d2_35 ?_
      refine go_iload 12 rfl d2_10 rfl ?_
      refine go_iloadN 13 rfl d2_12 rfl ?_
      refine go_icmp 38 16 rfl (by decide) rfl d2_13 rfl (fun (hc13 : (3 : Int) ≤ (2 : Int)) => absurd hc13 (by decide)) (fun (hc13 : ¬ ((3 : Int) ≤ (2 : Int))) => ?_)
      refine go_aloadN 17 rfl d2_16 rfl rfl ?_
      refine go_iload 19 rfl d2_17 rfl ?_
      refine go_baload 20 rfl d2_19 rfl (Mo.el (i := 0) rfl (by decide) rfl) ?_
      refine go_istore #[.val (.ref a1), .val (.int (bump z1 (bump z0 (0 : Int32)))), .val (.ref a1), .val (.int (3 : Int32)), .val (.int (2 : Int32)), .val (.int z2)] 22 rfl d2_20 rfl rfl ?_
      refine go_iload 24 rfl d2_22 rfl ?_
      refine go_bipush (10 : Int32) 26 rfl d2_24 rfl ?_
      have jn12 : Go B2_n3 Z a0 h0 (fun v ds => ∃ a12 a13 a14 a11 : Addr, Ret (some (.ref a12)) (mem42 a12 a13 a14 a1 a11 z0 z1 z2) v ds) 0 0 [ar a1 .byte [(.int z0), (.int z1), (.int z2)]] 32 #[.val (.ref a1), .val (.int (bump z2 (bump z1 (bump z0 (0 : Int32))))), .val (.ref a1), .val (.int (3 : Int32)), .val (.int (2 : Int32)), .val (.int z2)] [] := by
        refine go_iinc #[.val (.ref a1), .val (.int (bump z2 (bump z1 (bump z0 (0 : Int32))))), .val (.ref a1), .val (.int (3 : Int32)), .val (.int (3 : Int32)), .val (.int z2)] 35 rfl d2_32 rfl rfl ?_
        refine go_goto 10 (by decide) rfl d2_35 ?_
        refine go_iload 12 rfl d2_10 rfl ?_
        refine go_iloadN 13 rfl d2_12 rfl ?_
        refine go_icmp 38 16 rfl (by decide) rfl d2_13 rfl (fun (hc13 : (3 : Int) ≤ (3 : Int)) => ?_) (fun (hc13 : ¬ ((3 : Int) ≤ (3 : Int))) => absurd hc13 (by decide))
        refine go_aloadN 39 rfl d2_38 rfl rfl ?_
        refine go_alen 0 40 rfl d2_39 rfl rfl ?_
        show Go B2_n3 Z a0 h0 _ 0 0 [ar a1 .byte [(.int z0), (.int z1), (.int z2)]] 40 #[.val (.ref a1), .val (.int (bump z2 (bump z1 (bump z0 (0 : Int32))))), .val (.ref a1), .val (.int (3 : Int32)), .val (.int (3 : Int32)), .val (.int z2)] [(.int (3 : Int32))]
        refine go_if 58 43 rfl (by decide) rfl d2_40 rfl (fun (hc40 : (3 : Int) ≤ 0) => absurd hc40 (by decide)) (fun (hc40 : ¬ ((3 : Int) ≤ 0)) => ?_)
        refine go_aloadN 44 rfl d2_43 rfl rfl ?_
        refine go_aloadN 45 rfl d2_44 rfl rfl ?_
        refine go_alen 0 46 rfl d2_45 rfl rfl ?_
        show Go B2_n3 Z a0 h0 _ 0 0 [ar a1 .byte [(.int z0), (.int z1), (.int z2)]] 46 #[.val (.ref a1), .val (.int (bump z2 (bump z1 (bump z0 (0 : Int32))))), .val (.ref a1), .val (.int (3 : Int32)), .val (.int (3 : Int32)), .val (.int z2)] [(.int (3 : Int32)), (.ref a1)]
        refine go_iconst (1 : Int32) 47 rfl d2_46 rfl ?_
        refine go_isub 48 rfl d2_47 rfl ?_
        show Go B2_n3 Z a0 h0 _ 0 0 [ar a1 .byte [(.int z0), (.int z1), (.int z2)]] 48 #[.val (.ref a1), .val (.int (bump z2 (bump z1 (bump z0 (0 : Int32))))), .val (.ref a1), .val (.int (3 : Int32)), .val (.int (3 : Int32)), .val (.int z2)] [(.int (2 : Int32)), (.ref a1)]
        refine go_baload 49 rfl d2_48 rfl (Mo.el (i := 0) rfl (by decide) rfl) ?_
        refine go_bipush (10 : Int32) 51 rfl d2_49 rfl ?_
        refine go_icmp 58 54 rfl (by decide) rfl d2_51 rfl (fun (hc51_31 : z2.toInt = (10 : Int)) => ?_) (fun (hc51_31 : ¬ (z2.toInt = (10 : Int))) => ?_)
        · refine go_iconst (0 : Int32) 59 rfl d2_58 rfl ?_
          refine go_istoreN #[.val (.ref a1), .val (.int (bump z2 (bump z1 (bump z0 (0 : Int32))))), .val (.int (0 : Int32)), .val (.int (3 : Int32)), .val (.int (3 : Int32)), .val (.int z2)] 60 rfl d2_59 rfl rfl ?_
          refine go_iloadN 61 rfl d2_60 rfl ?_
          refine go_if 70 64 rfl (by decide) rfl d2_61 rfl (fun (hc61 : (0 : Int) = 0) => ?_) (fun (hc61 : ¬ ((0 : Int) = 0)) => absurd hc61 (by decide))
          refine go_iloadN 71 rfl d2_70 rfl ?_
          refine go_newarr 73 rfl d2_71 rfl (wd hw 6 rfl) (by (by_cases q0 : z0.toInt = 10 <;> by_cases q1 : z1.toInt = 10 <;> by_cases q2 : z2.toInt = 10) <;> first | omega | decide | (simp only [bump, bumq, wri, q0, q1, q2, if_true, if_false, eq_self, reduceIte]; decide)) 5 (by (by_cases q0 : z0.toInt = 10 <;> by_cases q1 : z1.toInt = 10 <;> by_cases q2 : z2.toInt = 10) <;> first | omega | decide | (simp only [bump, bumq, wri, q0, q1, q2, if_true, if_false, eq_self, reduceIte]; decide)) (by decide) (by decide) (by decide) (fun a11 => ?_)
          show Go B2_n3 Z a0 h0 _ 1 5 [ar a1 .byte [(.int z0), (.int z1), (.int z2)], ar a11 .int (List.replicate (bump z2 (bump z1 (bump z0 (0 : Int32)))).toNatClampNeg (.int (0 : Int32)))] 73 #[.val (.ref a1), .val (.int (bump z2 (bump z1 (bump z0 (0 : Int32))))), .val (.int (0 : Int32)), .val (.int (3 : Int32)), .val (.int (3 : Int32)), .val (.int z2)] [(.ref a11)]
          refine go_astoreN #[.val (.ref a1), .val (.int (bump z2 (bump z1 (bump z0 (0 : Int32))))), .val (.int (0 : Int32)), .val (.ref a11), .val (.int (3 : Int32)), .val (.int z2)] 74 rfl d2_73 rfl rfl rfl ?_
          refine go_iconst (0 : Int32) 75 rfl d2_74 rfl ?_
          refine go_istore #[.val (.ref a1), .val (.int (bump z2 (bump z1 (bump z0 (0 : Int32))))), .val (.int (0 : Int32)), .val (.ref a11), .val (.int (0 : Int32)), .val (.int z2)] 77 rfl d2_75 rfl rfl ?_
          refine go_iconst (0 : Int32) 78 rfl d2_77 rfl ?_
          refine go_istore #[.val (.ref a1), .val (.int (bump z2 (bump z1 (bump z0 (0 : Int32))))), .val (.int (0 : Int32)), .val (.ref a11), .val (.int (0 : Int32)), .val (.int (0 : Int32))] 80 rfl d2_78 rfl rfl ?_
          refine go_iload 82 rfl d2_80 rfl ?_
          refine go_aloadN 83 rfl d2_82 rfl rfl ?_
          refine go_alen 0 84 rfl d2_83 rfl rfl ?_
          show Go B2_n3 Z a0 h0 _ 1 5 [ar a1 .byte [(.int z0), (.int z1), (.int z2)], ar a11 .int (List.replicate (bump z2 (bump z1 (bump z0 (0 : Int32)))).toNatClampNeg (.int (0 : Int32)))] 84 #[.val (.ref a1), .val (.int (bump z2 (bump z1 (bump z0 (0 : Int32))))), .val (.int (0 : Int32)), .val (.ref a11), .val (.int (0 : Int32)), .val (.int (0 : Int32))] [(.int (3 : Int32)), (.int (0 : Int32))]
          refine go_icmp 111 87 rfl (by decide) rfl d2_84 rfl (fun (hc84 : (3 : Int) ≤ (0 : Int)) => absurd hc84 (by decide)) (fun (hc84 : ¬ ((3 : Int) ≤ (0 : Int))) => ?_)
          refine go_aloadN 88 rfl d2_87 rfl rfl ?_
          refine go_iload 90 rfl d2_88 rfl ?_
          refine go_baload 91 rfl d2_90 rfl (Mo.el (i := 0) rfl (by decide) rfl) ?_
          refine go_bipush (10 : Int32) 93 rfl d2_91 rfl ?_
          have jn13 : Go B2_n3 Z a0 h0 (fun v ds => ∃ a12 a13 a14 a11 : Addr, Ret (some (.ref a12)) (mem42 a12 a13 a14 a1 a11 z0 z1 z2) v ds) 1 5 [ar a1 .byte [(.int z0), (.int z1), (.int z2)], ar a11 .int (wri z0 (List.replicate (bump z2 (bump z1 (bump z0 (0 : Int32)))).toNatClampNeg (.int (0 : Int32))) (0 : Int32) (0 : Int32))] 105 #[.val (.ref a1), .val (.int (bump z2 (bump z1 (bump z0 (0 : Int32))))), .val (.int (0 : Int32)), .val (.ref a11), .val (.int (bumq z0 (0 : Int32))), .val (.int (0 : Int32))] [] := by
            refine go_iinc #[.val (.ref a1), .val (.int (bump z2 (bump z1 (bump z0 (0 : Int32))))), .val (.int (0 : Int32)), .val (.ref a11), .val (.int (bumq z0 (0 : Int32))), .val (.int (1 : Int32))] 108 rfl d2_105 rfl rfl ?_
            refine go_goto 80 (by decide) rfl d2_108 ?_
            refine go_iload 82 rfl d2_80 rfl ?_
            refine go_aloadN 83 rfl d2_82 rfl rfl ?_
            refine go_alen 0 84 rfl d2_83 rfl rfl ?_
            show Go B2_n3 Z a0 h0 _ 1 5 [ar a1 .byte [(.int z0), (.int z1), (.int z2)], ar a11 .int (wri z0 (List.replicate (bump z2 (bump z1 (bump z0 (0 : Int32)))).toNatClampNeg (.int (0 : Int32))) (0 : Int32) (0 : Int32))] 84 #[.val (.ref a1), .val (.int (bump z2 (bump z1 (bump z0 (0 : Int32))))), .val (.int (0 : Int32)), .val (.ref a11), .val (.int (bumq z0 (0 : Int32))), .val (.int (1 : Int32))] [(.int (3 : Int32)), (.int (1 : Int32))]
            refine go_icmp 111 87 rfl (by decide) rfl d2_84 rfl (fun (hc84 : (3 : Int) ≤ (1 : Int)) => absurd hc84 (by decide)) (fun (hc84 : ¬ ((3 : Int) ≤ (1 : Int))) => ?_)
            refine go_aloadN 88 rfl d2_87 rfl rfl ?_
            refine go_iload 90 rfl d2_88 rfl ?_
            refine go_baload 91 rfl d2_90 rfl (Mo.el (i := 0) rfl (by decide) rfl) ?_
            refine go_bipush (10 : Int32) 93 rfl d2_91 rfl ?_
            have jn14 : Go B2_n3 Z a0 h0 (fun v ds => ∃ a12 a13 a14 a11 : Addr, Ret (some (.ref a12)) (mem42 a12 a13 a14 a1 a11 z0 z1 z2) v ds) 1 5 [ar a1 .byte [(.int z0), (.int z1), (.int z2)], ar a11 .int (wri z1 (wri z0 (List.replicate (bump z2 (bump z1 (bump z0 (0 : Int32)))).toNatClampNeg (.int (0 : Int32))) (0 : Int32) (0 : Int32)) (bumq z0 (0 : Int32)) (1 : Int32))] 105 #[.val (.ref a1), .val (.int (bump z2 (bump z1 (bump z0 (0 : Int32))))), .val (.int (0 : Int32)), .val (.ref a11), .val (.int (bumq z1 (bumq z0 (0 : Int32)))), .val (.int (1 : Int32))] [] := by
              refine go_iinc #[.val (.ref a1), .val (.int (bump z2 (bump z1 (bump z0 (0 : Int32))))), .val (.int (0 : Int32)), .val (.ref a11), .val (.int (bumq z1 (bumq z0 (0 : Int32)))), .val (.int (2 : Int32))] 108 rfl d2_105 rfl rfl ?_
              refine go_goto 80 (by decide) rfl d2_108 ?_
              refine go_iload 82 rfl d2_80 rfl ?_
              refine go_aloadN 83 rfl d2_82 rfl rfl ?_
              refine go_alen 0 84 rfl d2_83 rfl rfl ?_
              show Go B2_n3 Z a0 h0 _ 1 5 [ar a1 .byte [(.int z0), (.int z1), (.int z2)], ar a11 .int (wri z1 (wri z0 (List.replicate (bump z2 (bump z1 (bump z0 (0 : Int32)))).toNatClampNeg (.int (0 : Int32))) (0 : Int32) (0 : Int32)) (bumq z0 (0 : Int32)) (1 : Int32))] 84 #[.val (.ref a1), .val (.int (bump z2 (bump z1 (bump z0 (0 : Int32))))), .val (.int (0 : Int32)), .val (.ref a11), .val (.int (bumq z1 (bumq z0 (0 : Int32)))), .val (.int (2 : Int32))] [(.int (3 : Int32)), (.int (2 : Int32))]
              refine go_icmp 111 87 rfl (by decide) rfl d2_84 rfl (fun (hc84 : (3 : Int) ≤ (2 : Int)) => absurd hc84 (by decide)) (fun (hc84 : ¬ ((3 : Int) ≤ (2 : Int))) => ?_)
              refine go_aloadN 88 rfl d2_87 rfl rfl ?_
              refine go_iload 90 rfl d2_88 rfl ?_
              refine go_baload 91 rfl d2_90 rfl (Mo.el (i := 0) rfl (by decide) rfl) ?_
              refine go_bipush (10 : Int32) 93 rfl d2_91 rfl ?_
              have jn15 : Go B2_n3 Z a0 h0 (fun v ds => ∃ a12 a13 a14 a11 : Addr, Ret (some (.ref a12)) (mem42 a12 a13 a14 a1 a11 z0 z1 z2) v ds) 1 5 [ar a1 .byte [(.int z0), (.int z1), (.int z2)], ar a11 .int (wri z2 (wri z1 (wri z0 (List.replicate (bump z2 (bump z1 (bump z0 (0 : Int32)))).toNatClampNeg (.int (0 : Int32))) (0 : Int32) (0 : Int32)) (bumq z0 (0 : Int32)) (1 : Int32)) (bumq z1 (bumq z0 (0 : Int32))) (2 : Int32))] 105 #[.val (.ref a1), .val (.int (bump z2 (bump z1 (bump z0 (0 : Int32))))), .val (.int (0 : Int32)), .val (.ref a11), .val (.int (bumq z2 (bumq z1 (bumq z0 (0 : Int32))))), .val (.int (2 : Int32))] [] := by
                refine go_iinc #[.val (.ref a1), .val (.int (bump z2 (bump z1 (bump z0 (0 : Int32))))), .val (.int (0 : Int32)), .val (.ref a11), .val (.int (bumq z2 (bumq z1 (bumq z0 (0 : Int32))))), .val (.int (3 : Int32))] 108 rfl d2_105 rfl rfl ?_
                refine go_goto 80 (by decide) rfl d2_108 ?_
                refine go_iload 82 rfl d2_80 rfl ?_
                refine go_aloadN 83 rfl d2_82 rfl rfl ?_
                refine go_alen 0 84 rfl d2_83 rfl rfl ?_
                show Go B2_n3 Z a0 h0 _ 1 5 [ar a1 .byte [(.int z0), (.int z1), (.int z2)], ar a11 .int (wri z2 (wri z1 (wri z0 (List.replicate (bump z2 (bump z1 (bump z0 (0 : Int32)))).toNatClampNeg (.int (0 : Int32))) (0 : Int32) (0 : Int32)) (bumq z0 (0 : Int32)) (1 : Int32)) (bumq z1 (bumq z0 (0 : Int32))) (2 : Int32))] 84 #[.val (.ref a1), .val (.int (bump z2 (bump z1 (bump z0 (0 : Int32))))), .val (.int (0 : Int32)), .val (.ref a11), .val (.int (bumq z2 (bumq z1 (bumq z0 (0 : Int32))))), .val (.int (3 : Int32))] [(.int (3 : Int32)), (.int (3 : Int32))]
                refine go_icmp 111 87 rfl (by decide) rfl d2_84 rfl (fun (hc84 : (3 : Int) ≤ (3 : Int)) => ?_) (fun (hc84 : ¬ ((3 : Int) ≤ (3 : Int))) => absurd hc84 (by decide))
                refine go_iloadN 112 rfl d2_111 rfl ?_
                refine go_if 121 115 rfl (by decide) rfl d2_112 rfl (fun (hc112 : (0 : Int) = 0) => ?_) (fun (hc112 : ¬ ((0 : Int) = 0)) => absurd hc112 (by decide))
                generalize eBK : (wri z2 (wri z1 (wri z0 (List.replicate (bump z2 (bump z1 (bump z0 (0 : Int32)))).toNatClampNeg (.int (0 : Int32))) (0 : Int32) (0 : Int32)) (bumq z0 (0 : Int32)) (1 : Int32)) (bumq z1 (bumq z0 (0 : Int32))) (2 : Int32)) = v93
                refine go_new 124 rfl d2_121 (wd hw 11 rfl) (wd hw 12 rfl) (wd hw 9 rfl) (by decide) (by decide) [("com/example/clauseline/clauseline/model/Document", "recent", "[Lcom/example/clauseline/clauseline/model/Line;", .null), ("com/example/clauseline/clauseline/model/Document", "lines", "Ljava/util/List;", .null), ("com/example/clauseline/clauseline/model/Document", "bytes", "[B", .null), ("com/example/clauseline/clauseline/model/Document", "breaks", "[I", .null)] ⟨⟨Or.inr (wd hw 22 rfl), _, rfl, rfl⟩, ⟨⟨Or.inr (wd hw 46 rfl), _, rfl, rfl⟩, ⟨⟨Or.inr (wd hw 48 rfl), _, rfl, rfl⟩, ⟨⟨Or.inr (wd hw 50 rfl), _, rfl, rfl⟩, trivial⟩⟩⟩⟩ (by decide) (fun a12 => ?_)
                show Go B2_n3 Z a0 h0 _ 2 9 (mem33 a1 z0 z1 z2 a11 v93 a12) 124 #[.val (.ref a1), .val (.int (bump z2 (bump z1 (bump z0 (0 : Int32))))), .val (.int (0 : Int32)), .val (.ref a11), .val (.int (bumq z2 (bumq z1 (bumq z0 (0 : Int32))))), .val (.int (3 : Int32))] [(.ref a12)]
                refine go_dup 125 rfl d2_124 rfl rfl ?_
                refine go_aloadN 126 rfl d2_125 rfl rfl ?_
                refine go_aloadN 127 rfl d2_126 rfl rfl ?_
                refine go_callI 130 rfl d2_127 rfl (wd hw 13 rfl) (wd hw 14 rfl) (wd hw 9 rfl) (wd hw 15 rfl) (by decide) (mt33 Z a0 hw h0 a1 z0 z1 z2 a11 v93 a12) (argsL := [(.ref a1), (.ref a11)]) (rest := [(.ref a12)]) rfl (ret := none) (ps := [(.array .byte), (.array .int)]) (by decide +kernel) rfl rfl 1 rfl (by decide) (by decide) (by decide) (by decide) ?_
                rintro _ _ ⟨a13, a14, rfl, rfl⟩
                show Go B2_n3 Z a0 h0 _ 4 27 (mem41 a12 a13 a14 a1 a11 z0 z1 z2 v93) 130 #[.val (.ref a1), .val (.int (bump z2 (bump z1 (bump z0 (0 : Int32))))), .val (.int (0 : Int32)), .val (.ref a11), .val (.int (bumq z2 (bumq z1 (bumq z0 (0 : Int32))))), .val (.int (3 : Int32))] [(.ref a12)]
                exact go_areturn d2_130 rfl rfl rfl rfl (by decide) (by decide) (by have eb : bk3 z0 z1 z2 = v93 := (by unfold bk3; rw [if_pos (by omega)]; exact eBK); subst eb; exact ⟨a12, a13, a14, a11, rfl, rfl⟩)
              refine go_icmp 105 96 rfl (by decide) rfl d2_93 rfl (fun (hj15 : z2.toInt ≠ (10 : Int)) => ?_) (fun (hj15 : ¬ (z2.toInt ≠ (10 : Int))) => ?_)
              · rw [bumq_n (z := z2) (C := (bumq z1 (bumq z0 (0 : Int32)))) (by omega), wri_n (z := z2) (A := (wri z1 (wri z0 (List.replicate (bump z2 (bump z1 (bump z0 (0 : Int32)))).toNatClampNeg (.int (0 : Int32))) (0 : Int32) (0 : Int32)) (bumq z0 (0 : Int32)) (1 : Int32))) (l := (bumq z1 (bumq z0 (0 : Int32)))) (i := (2 : Int32)) (by omega)] at jn15
                exact jn15
              · refine go_aloadN 97 rfl d2_96 rfl rfl ?_
                refine go_iload 99 rfl d2_97 rfl ?_
                refine go_iinc #[.val (.ref a1), .val (.int (bump z2 (bump z1 (bump z0 (0 : Int32))))), .val (.int (0 : Int32)), .val (.ref a11), .val (.int ((bumq z1 (bumq z0 (0 : Int32))) + (1 : Int32))), .val (.int (2 : Int32))] 102 rfl d2_99 rfl rfl ?_
                refine go_iload 104 rfl d2_102 rfl ?_
                refine go_iastore 1 105 rfl d2_104 rfl rfl (by (by_cases q0 : z0.toInt = 10 <;> by_cases q1 : z1.toInt = 10 <;> by_cases q2 : z2.toInt = 10) <;> first | omega | decide | (simp only [bump, bumq, wri, q0, q1, q2, if_true, if_false, eq_self, reduceIte]; decide)) (by (by_cases q0 : z0.toInt = 10 <;> by_cases q1 : z1.toInt = 10 <;> by_cases q2 : z2.toInt = 10) <;> first | omega | decide | (simp only [bump, bumq, wri, q0, q1, q2, if_true, if_false, eq_self, reduceIte]; decide)) ?_
                show Go B2_n3 Z a0 h0 _ 1 5 [ar a1 .byte [(.int z0), (.int z1), (.int z2)], ar a11 .int ((wri z1 (wri z0 (List.replicate (bump z2 (bump z1 (bump z0 (0 : Int32)))).toNatClampNeg (.int (0 : Int32))) (0 : Int32) (0 : Int32)) (bumq z0 (0 : Int32)) (1 : Int32)).set (bumq z1 (bumq z0 (0 : Int32))).toNatClampNeg (.int (2 : Int32)))] 105 #[.val (.ref a1), .val (.int (bump z2 (bump z1 (bump z0 (0 : Int32))))), .val (.int (0 : Int32)), .val (.ref a11), .val (.int ((bumq z1 (bumq z0 (0 : Int32))) + (1 : Int32))), .val (.int (2 : Int32))] []
                rw [bumq_p (z := z2) (C := (bumq z1 (bumq z0 (0 : Int32)))) (by omega), wri_p (z := z2) (A := (wri z1 (wri z0 (List.replicate (bump z2 (bump z1 (bump z0 (0 : Int32)))).toNatClampNeg (.int (0 : Int32))) (0 : Int32) (0 : Int32)) (bumq z0 (0 : Int32)) (1 : Int32))) (l := (bumq z1 (bumq z0 (0 : Int32)))) (i := (2 : Int32)) (by omega)] at jn15
                exact jn15
            refine go_icmp 105 96 rfl (by decide) rfl d2_93 rfl (fun (hj14 : z1.toInt ≠ (10 : Int)) => ?_) (fun (hj14 : ¬ (z1.toInt ≠ (10 : Int))) => ?_)
            · rw [bumq_n (z := z1) (C := (bumq z0 (0 : Int32))) (by omega), wri_n (z := z1) (A := (wri z0 (List.replicate (bump z2 (bump z1 (bump z0 (0 : Int32)))).toNatClampNeg (.int (0 : Int32))) (0 : Int32) (0 : Int32))) (l := (bumq z0 (0 : Int32))) (i := (1 : Int32)) (by omega)] at jn14
              exact jn14
            · refine go_aloadN 97 rfl d2_96 rfl rfl ?_
              refine go_iload 99 rfl d2_97 rfl ?_
              refine go_iinc #[.val (.ref a1), .val (.int (bump z2 (bump z1 (bump z0 (0 : Int32))))), .val (.int (0 : Int32)), .val (.ref a11), .val (.int ((bumq z0 (0 : Int32)) + (1 : Int32))), .val (.int (1 : Int32))] 102 rfl d2_99 rfl rfl ?_
              refine go_iload 104 rfl d2_102 rfl ?_
              refine go_iastore 1 105 rfl d2_104 rfl rfl (by (by_cases q0 : z0.toInt = 10 <;> by_cases q1 : z1.toInt = 10 <;> by_cases q2 : z2.toInt = 10) <;> first | omega | decide | (simp only [bump, bumq, wri, q0, q1, q2, if_true, if_false, eq_self, reduceIte]; decide)) (by (by_cases q0 : z0.toInt = 10 <;> by_cases q1 : z1.toInt = 10 <;> by_cases q2 : z2.toInt = 10) <;> first | omega | decide | (simp only [bump, bumq, wri, q0, q1, q2, if_true, if_false, eq_self, reduceIte]; decide)) ?_
              show Go B2_n3 Z a0 h0 _ 1 5 [ar a1 .byte [(.int z0), (.int z1), (.int z2)], ar a11 .int ((wri z0 (List.replicate (bump z2 (bump z1 (bump z0 (0 : Int32)))).toNatClampNeg (.int (0 : Int32))) (0 : Int32) (0 : Int32)).set (bumq z0 (0 : Int32)).toNatClampNeg (.int (1 : Int32)))] 105 #[.val (.ref a1), .val (.int (bump z2 (bump z1 (bump z0 (0 : Int32))))), .val (.int (0 : Int32)), .val (.ref a11), .val (.int ((bumq z0 (0 : Int32)) + (1 : Int32))), .val (.int (1 : Int32))] []
              rw [bumq_p (z := z1) (C := (bumq z0 (0 : Int32))) (by omega), wri_p (z := z1) (A := (wri z0 (List.replicate (bump z2 (bump z1 (bump z0 (0 : Int32)))).toNatClampNeg (.int (0 : Int32))) (0 : Int32) (0 : Int32))) (l := (bumq z0 (0 : Int32))) (i := (1 : Int32)) (by omega)] at jn14
              exact jn14
          refine go_icmp 105 96 rfl (by decide) rfl d2_93 rfl (fun (hj13 : z0.toInt ≠ (10 : Int)) => ?_) (fun (hj13 : ¬ (z0.toInt ≠ (10 : Int))) => ?_)
          · rw [bumq_n (z := z0) (C := (0 : Int32)) (by omega), wri_n (z := z0) (A := (List.replicate (bump z2 (bump z1 (bump z0 (0 : Int32)))).toNatClampNeg (.int (0 : Int32)))) (l := (0 : Int32)) (i := (0 : Int32)) (by omega)] at jn13
            exact jn13
          · refine go_aloadN 97 rfl d2_96 rfl rfl ?_
            refine go_iload 99 rfl d2_97 rfl ?_
            refine go_iinc #[.val (.ref a1), .val (.int (bump z2 (bump z1 (bump z0 (0 : Int32))))), .val (.int (0 : Int32)), .val (.ref a11), .val (.int (1 : Int32)), .val (.int (0 : Int32))] 102 rfl d2_99 rfl rfl ?_
            refine go_iload 104 rfl d2_102 rfl ?_
            refine go_iastore 1 105 rfl d2_104 rfl rfl (by (by_cases q0 : z0.toInt = 10 <;> by_cases q1 : z1.toInt = 10 <;> by_cases q2 : z2.toInt = 10) <;> first | omega | decide | (simp only [bump, bumq, wri, q0, q1, q2, if_true, if_false, eq_self, reduceIte]; decide)) (by (by_cases q0 : z0.toInt = 10 <;> by_cases q1 : z1.toInt = 10 <;> by_cases q2 : z2.toInt = 10) <;> first | omega | decide | (simp only [bump, bumq, wri, q0, q1, q2, if_true, if_false, eq_self, reduceIte]; decide)) ?_
            show Go B2_n3 Z a0 h0 _ 1 5 [ar a1 .byte [(.int z0), (.int z1), (.int z2)], ar a11 .int ((List.replicate (bump z2 (bump z1 (bump z0 (0 : Int32)))).toNatClampNeg (.int (0 : Int32))).set (0 : Int32).toNatClampNeg (.int (0 : Int32)))] 105 #[.val (.ref a1), .val (.int (bump z2 (bump z1 (bump z0 (0 : Int32))))), .val (.int (0 : Int32)), .val (.ref a11), .val (.int (1 : Int32)), .val (.int (0 : Int32))] []
            rw [bumq_p (z := z0) (C := (0 : Int32)) (by omega), wri_p (z := z0) (A := (List.replicate (bump z2 (bump z1 (bump z0 (0 : Int32)))).toNatClampNeg (.int (0 : Int32)))) (l := (0 : Int32)) (i := (0 : Int32)) (by omega)] at jn13
            exact jn13
        · refine go_iconst (1 : Int32) 55 rfl d2_54 rfl ?_
          refine go_goto 59 (by decide) rfl d2_55 ?_
          refine go_istoreN #[.val (.ref a1), .val (.int (bump z2 (bump z1 (bump z0 (0 : Int32))))), .val (.int (1 : Int32)), .val (.int (3 : Int32)), .val (.int (3 : Int32)), .val (.int z2)] 60 rfl d2_59 rfl rfl ?_
          refine go_iloadN 61 rfl d2_60 rfl ?_
          refine go_if 70 64 rfl (by decide) rfl d2_61 rfl (fun (hc61 : (1 : Int) = 0) => absurd hc61 (by decide)) (fun (hc61 : ¬ ((1 : Int) = 0)) => ?_)
          refine go_iloadN 65 rfl d2_64 rfl ?_
          refine go_iconst (1 : Int32) 66 rfl d2_65 rfl ?_
          refine go_iadd 67 rfl d2_66 rfl ?_
          refine go_goto 71 (by decide) rfl d2_67 ?_
          refine go_newarr 73 rfl d2_71 rfl (wd hw 6 rfl) (by (by_cases q0 : z0.toInt = 10 <;> by_cases q1 : z1.toInt = 10 <;> by_cases q2 : z2.toInt = 10) <;> first | omega | decide | (simp only [bump, bumq, wri, q0, q1, q2, if_true, if_false, eq_self, reduceIte]; decide)) 5 (by (by_cases q0 : z0.toInt = 10 <;> by_cases q1 : z1.toInt = 10 <;> by_cases q2 : z2.toInt = 10) <;> first | omega | decide | (simp only [bump, bumq, wri, q0, q1, q2, if_true, if_false, eq_self, reduceIte]; decide)) (by decide) (by decide) (by decide) (fun a15 => ?_)
          show Go B2_n3 Z a0 h0 _ 1 5 [ar a1 .byte [(.int z0), (.int z1), (.int z2)], ar a15 .int (List.replicate ((bump z2 (bump z1 (bump z0 (0 : Int32)))) + (1 : Int32)).toNatClampNeg (.int (0 : Int32)))] 73 #[.val (.ref a1), .val (.int (bump z2 (bump z1 (bump z0 (0 : Int32))))), .val (.int (1 : Int32)), .val (.int (3 : Int32)), .val (.int (3 : Int32)), .val (.int z2)] [(.ref a15)]
          refine go_astoreN #[.val (.ref a1), .val (.int (bump z2 (bump z1 (bump z0 (0 : Int32))))), .val (.int (1 : Int32)), .val (.ref a15), .val (.int (3 : Int32)), .val (.int z2)] 74 rfl d2_73 rfl rfl rfl ?_
          refine go_iconst (0 : Int32) 75 rfl d2_74 rfl ?_
          refine go_istore #[.val (.ref a1), .val (.int (bump z2 (bump z1 (bump z0 (0 : Int32))))), .val (.int (1 : Int32)), .val (.ref a15), .val (.int (0 : Int32)), .val (.int z2)] 77 rfl d2_75 rfl rfl ?_
          refine go_iconst (0 : Int32) 78 rfl d2_77 rfl ?_
          refine go_istore #[.val (.ref a1), .val (.int (bump z2 (bump z1 (bump z0 (0 : Int32))))), .val (.int (1 : Int32)), .val (.ref a15), .val (.int (0 : Int32)), .val (.int (0 : Int32))] 80 rfl d2_78 rfl rfl ?_
          refine go_iload 82 rfl d2_80 rfl ?_
          refine go_aloadN 83 rfl d2_82 rfl rfl ?_
          refine go_alen 0 84 rfl d2_83 rfl rfl ?_
          show Go B2_n3 Z a0 h0 _ 1 5 [ar a1 .byte [(.int z0), (.int z1), (.int z2)], ar a15 .int (List.replicate ((bump z2 (bump z1 (bump z0 (0 : Int32)))) + (1 : Int32)).toNatClampNeg (.int (0 : Int32)))] 84 #[.val (.ref a1), .val (.int (bump z2 (bump z1 (bump z0 (0 : Int32))))), .val (.int (1 : Int32)), .val (.ref a15), .val (.int (0 : Int32)), .val (.int (0 : Int32))] [(.int (3 : Int32)), (.int (0 : Int32))]
          refine go_icmp 111 87 rfl (by decide) rfl d2_84 rfl (fun (hc84 : (3 : Int) ≤ (0 : Int)) => absurd hc84 (by decide)) (fun (hc84 : ¬ ((3 : Int) ≤ (0 : Int))) => ?_)
          refine go_aloadN 88 rfl d2_87 rfl rfl ?_
          refine go_iload 90 rfl d2_88 rfl ?_
          refine go_baload 91 rfl d2_90 rfl (Mo.el (i := 0) rfl (by decide) rfl) ?_
          refine go_bipush (10 : Int32) 93 rfl d2_91 rfl ?_
          have jn16 : Go B2_n3 Z a0 h0 (fun v ds => ∃ a12 a13 a14 a11 : Addr, Ret (some (.ref a12)) (mem42 a12 a13 a14 a1 a11 z0 z1 z2) v ds) 1 5 [ar a1 .byte [(.int z0), (.int z1), (.int z2)], ar a15 .int (wri z0 (List.replicate ((bump z2 (bump z1 (bump z0 (0 : Int32)))) + (1 : Int32)).toNatClampNeg (.int (0 : Int32))) (0 : Int32) (0 : Int32))] 105 #[.val (.ref a1), .val (.int (bump z2 (bump z1 (bump z0 (0 : Int32))))), .val (.int (1 : Int32)), .val (.ref a15), .val (.int (bumq z0 (0 : Int32))), .val (.int (0 : Int32))] [] := by
            refine go_iinc #[.val (.ref a1), .val (.int (bump z2 (bump z1 (bump z0 (0 : Int32))))), .val (.int (1 : Int32)), .val (.ref a15), .val (.int (bumq z0 (0 : Int32))), .val (.int (1 : Int32))] 108 rfl d2_105 rfl rfl ?_
            refine go_goto 80 (by decide) rfl d2_108 ?_
            refine go_iload 82 rfl d2_80 rfl ?_
            refine go_aloadN 83 rfl d2_82 rfl rfl ?_
            refine go_alen 0 84 rfl d2_83 rfl rfl ?_
            show Go B2_n3 Z a0 h0 _ 1 5 [ar a1 .byte [(.int z0), (.int z1), (.int z2)], ar a15 .int (wri z0 (List.replicate ((bump z2 (bump z1 (bump z0 (0 : Int32)))) + (1 : Int32)).toNatClampNeg (.int (0 : Int32))) (0 : Int32) (0 : Int32))] 84 #[.val (.ref a1), .val (.int (bump z2 (bump z1 (bump z0 (0 : Int32))))), .val (.int (1 : Int32)), .val (.ref a15), .val (.int (bumq z0 (0 : Int32))), .val (.int (1 : Int32))] [(.int (3 : Int32)), (.int (1 : Int32))]
            refine go_icmp 111 87 rfl (by decide) rfl d2_84 rfl (fun (hc84 : (3 : Int) ≤ (1 : Int)) => absurd hc84 (by decide)) (fun (hc84 : ¬ ((3 : Int) ≤ (1 : Int))) => ?_)
            refine go_aloadN 88 rfl d2_87 rfl rfl ?_
            refine go_iload 90 rfl d2_88 rfl ?_
            refine go_baload 91 rfl d2_90 rfl (Mo.el (i := 0) rfl (by decide) rfl) ?_
            refine go_bipush (10 : Int32) 93 rfl d2_91 rfl ?_
            have jn17 : Go B2_n3 Z a0 h0 (fun v ds => ∃ a12 a13 a14 a11 : Addr, Ret (some (.ref a12)) (mem42 a12 a13 a14 a1 a11 z0 z1 z2) v ds) 1 5 [ar a1 .byte [(.int z0), (.int z1), (.int z2)], ar a15 .int (wri z1 (wri z0 (List.replicate ((bump z2 (bump z1 (bump z0 (0 : Int32)))) + (1 : Int32)).toNatClampNeg (.int (0 : Int32))) (0 : Int32) (0 : Int32)) (bumq z0 (0 : Int32)) (1 : Int32))] 105 #[.val (.ref a1), .val (.int (bump z2 (bump z1 (bump z0 (0 : Int32))))), .val (.int (1 : Int32)), .val (.ref a15), .val (.int (bumq z1 (bumq z0 (0 : Int32)))), .val (.int (1 : Int32))] [] := by
              refine go_iinc #[.val (.ref a1), .val (.int (bump z2 (bump z1 (bump z0 (0 : Int32))))), .val (.int (1 : Int32)), .val (.ref a15), .val (.int (bumq z1 (bumq z0 (0 : Int32)))), .val (.int (2 : Int32))] 108 rfl d2_105 rfl rfl ?_
              refine go_goto 80 (by decide) rfl d2_108 ?_
              refine go_iload 82 rfl d2_80 rfl ?_
              refine go_aloadN 83 rfl d2_82 rfl rfl ?_
              refine go_alen 0 84 rfl d2_83 rfl rfl ?_
              show Go B2_n3 Z a0 h0 _ 1 5 [ar a1 .byte [(.int z0), (.int z1), (.int z2)], ar a15 .int (wri z1 (wri z0 (List.replicate ((bump z2 (bump z1 (bump z0 (0 : Int32)))) + (1 : Int32)).toNatClampNeg (.int (0 : Int32))) (0 : Int32) (0 : Int32)) (bumq z0 (0 : Int32)) (1 : Int32))] 84 #[.val (.ref a1), .val (.int (bump z2 (bump z1 (bump z0 (0 : Int32))))), .val (.int (1 : Int32)), .val (.ref a15), .val (.int (bumq z1 (bumq z0 (0 : Int32)))), .val (.int (2 : Int32))] [(.int (3 : Int32)), (.int (2 : Int32))]
              refine go_icmp 111 87 rfl (by decide) rfl d2_84 rfl (fun (hc84 : (3 : Int) ≤ (2 : Int)) => absurd hc84 (by decide)) (fun (hc84 : ¬ ((3 : Int) ≤ (2 : Int))) => ?_)
              refine go_aloadN 88 rfl d2_87 rfl rfl ?_
              refine go_iload 90 rfl d2_88 rfl ?_
              refine go_baload 91 rfl d2_90 rfl (Mo.el (i := 0) rfl (by decide) rfl) ?_
              refine go_bipush (10 : Int32) 93 rfl d2_91 rfl ?_
              have jn18 : Go B2_n3 Z a0 h0 (fun v ds => ∃ a12 a13 a14 a11 : Addr, Ret (some (.ref a12)) (mem42 a12 a13 a14 a1 a11 z0 z1 z2) v ds) 1 5 [ar a1 .byte [(.int z0), (.int z1), (.int z2)], ar a15 .int (wri z2 (wri z1 (wri z0 (List.replicate ((bump z2 (bump z1 (bump z0 (0 : Int32)))) + (1 : Int32)).toNatClampNeg (.int (0 : Int32))) (0 : Int32) (0 : Int32)) (bumq z0 (0 : Int32)) (1 : Int32)) (bumq z1 (bumq z0 (0 : Int32))) (2 : Int32))] 105 #[.val (.ref a1), .val (.int (bump z2 (bump z1 (bump z0 (0 : Int32))))), .val (.int (1 : Int32)), .val (.ref a15), .val (.int (bumq z2 (bumq z1 (bumq z0 (0 : Int32))))), .val (.int (2 : Int32))] [] := by
                refine go_iinc #[.val (.ref a1), .val (.int (bump z2 (bump z1 (bump z0 (0 : Int32))))), .val (.int (1 : Int32)), .val (.ref a15), .val (.int (bumq z2 (bumq z1 (bumq z0 (0 : Int32))))), .val (.int (3 : Int32))] 108 rfl d2_105 rfl rfl ?_
                refine go_goto 80 (by decide) rfl d2_108 ?_
                refine go_iload 82 rfl d2_80 rfl ?_
                refine go_aloadN 83 rfl d2_82 rfl rfl ?_
                refine go_alen 0 84 rfl d2_83 rfl rfl ?_
                show Go B2_n3 Z a0 h0 _ 1 5 [ar a1 .byte [(.int z0), (.int z1), (.int z2)], ar a15 .int (wri z2 (wri z1 (wri z0 (List.replicate ((bump z2 (bump z1 (bump z0 (0 : Int32)))) + (1 : Int32)).toNatClampNeg (.int (0 : Int32))) (0 : Int32) (0 : Int32)) (bumq z0 (0 : Int32)) (1 : Int32)) (bumq z1 (bumq z0 (0 : Int32))) (2 : Int32))] 84 #[.val (.ref a1), .val (.int (bump z2 (bump z1 (bump z0 (0 : Int32))))), .val (.int (1 : Int32)), .val (.ref a15), .val (.int (bumq z2 (bumq z1 (bumq z0 (0 : Int32))))), .val (.int (3 : Int32))] [(.int (3 : Int32)), (.int (3 : Int32))]
                refine go_icmp 111 87 rfl (by decide) rfl d2_84 rfl (fun (hc84 : (3 : Int) ≤ (3 : Int)) => ?_) (fun (hc84 : ¬ ((3 : Int) ≤ (3 : Int))) => absurd hc84 (by decide))
                refine go_iloadN 112 rfl d2_111 rfl ?_
                refine go_if 121 115 rfl (by decide) rfl d2_112 rfl (fun (hc112 : (1 : Int) = 0) => absurd hc112 (by decide)) (fun (hc112 : ¬ ((1 : Int) = 0)) => ?_)
                refine go_aloadN 116 rfl d2_115 rfl rfl ?_
                refine go_iload 118 rfl d2_116 rfl ?_
                refine go_aloadN 119 rfl d2_118 rfl rfl ?_
                refine go_alen 0 120 rfl d2_119 rfl rfl ?_
                show Go B2_n3 Z a0 h0 _ 1 5 [ar a1 .byte [(.int z0), (.int z1), (.int z2)], ar a15 .int (wri z2 (wri z1 (wri z0 (List.replicate ((bump z2 (bump z1 (bump z0 (0 : Int32)))) + (1 : Int32)).toNatClampNeg (.int (0 : Int32))) (0 : Int32) (0 : Int32)) (bumq z0 (0 : Int32)) (1 : Int32)) (bumq z1 (bumq z0 (0 : Int32))) (2 : Int32))] 120 #[.val (.ref a1), .val (.int (bump z2 (bump z1 (bump z0 (0 : Int32))))), .val (.int (1 : Int32)), .val (.ref a15), .val (.int (bumq z2 (bumq z1 (bumq z0 (0 : Int32))))), .val (.int (3 : Int32))] [(.int (3 : Int32)), (.int (bumq z2 (bumq z1 (bumq z0 (0 : Int32))))), (.ref a15)]
                refine go_iastore 1 121 rfl d2_120 rfl rfl (by (by_cases q0 : z0.toInt = 10 <;> by_cases q1 : z1.toInt = 10 <;> by_cases q2 : z2.toInt = 10) <;> first | omega | decide | (simp only [bump, bumq, wri, q0, q1, q2, if_true, if_false, eq_self, reduceIte]; decide)) (by (by_cases q0 : z0.toInt = 10 <;> by_cases q1 : z1.toInt = 10 <;> by_cases q2 : z2.toInt = 10) <;> first | omega | decide | (simp only [bump, bumq, wri, q0, q1, q2, if_true, if_false, eq_self, reduceIte]; decide)) ?_
                show Go B2_n3 Z a0 h0 _ 1 5 [ar a1 .byte [(.int z0), (.int z1), (.int z2)], ar a15 .int ((wri z2 (wri z1 (wri z0 (List.replicate ((bump z2 (bump z1 (bump z0 (0 : Int32)))) + (1 : Int32)).toNatClampNeg (.int (0 : Int32))) (0 : Int32) (0 : Int32)) (bumq z0 (0 : Int32)) (1 : Int32)) (bumq z1 (bumq z0 (0 : Int32))) (2 : Int32)).set (bumq z2 (bumq z1 (bumq z0 (0 : Int32)))).toNatClampNeg (.int (3 : Int32)))] 121 #[.val (.ref a1), .val (.int (bump z2 (bump z1 (bump z0 (0 : Int32))))), .val (.int (1 : Int32)), .val (.ref a15), .val (.int (bumq z2 (bumq z1 (bumq z0 (0 : Int32))))), .val (.int (3 : Int32))] []
                generalize eBK : ((wri z2 (wri z1 (wri z0 (List.replicate ((bump z2 (bump z1 (bump z0 (0 : Int32)))) + (1 : Int32)).toNatClampNeg (.int (0 : Int32))) (0 : Int32) (0 : Int32)) (bumq z0 (0 : Int32)) (1 : Int32)) (bumq z1 (bumq z0 (0 : Int32))) (2 : Int32)).set (bumq z2 (bumq z1 (bumq z0 (0 : Int32)))).toNatClampNeg (.int (3 : Int32))) = v93
                refine go_new 124 rfl d2_121 (wd hw 11 rfl) (wd hw 12 rfl) (wd hw 9 rfl) (by decide) (by decide) [("com/example/clauseline/clauseline/model/Document", "recent", "[Lcom/example/clauseline/clauseline/model/Line;", .null), ("com/example/clauseline/clauseline/model/Document", "lines", "Ljava/util/List;", .null), ("com/example/clauseline/clauseline/model/Document", "bytes", "[B", .null), ("com/example/clauseline/clauseline/model/Document", "breaks", "[I", .null)] ⟨⟨Or.inr (wd hw 22 rfl), _, rfl, rfl⟩, ⟨⟨Or.inr (wd hw 46 rfl), _, rfl, rfl⟩, ⟨⟨Or.inr (wd hw 48 rfl), _, rfl, rfl⟩, ⟨⟨Or.inr (wd hw 50 rfl), _, rfl, rfl⟩, trivial⟩⟩⟩⟩ (by decide) (fun a16 => ?_)
                show Go B2_n3 Z a0 h0 _ 2 9 (mem33 a1 z0 z1 z2 a15 v93 a16) 124 #[.val (.ref a1), .val (.int (bump z2 (bump z1 (bump z0 (0 : Int32))))), .val (.int (1 : Int32)), .val (.ref a15), .val (.int (bumq z2 (bumq z1 (bumq z0 (0 : Int32))))), .val (.int (3 : Int32))] [(.ref a16)]
                refine go_dup 125 rfl d2_124 rfl rfl ?_
                refine go_aloadN 126 rfl d2_125 rfl rfl ?_
                refine go_aloadN 127 rfl d2_126 rfl rfl ?_
                refine go_callI 130 rfl d2_127 rfl (wd hw 13 rfl) (wd hw 14 rfl) (wd hw 9 rfl) (wd hw 15 rfl) (by decide) (mt33 Z a0 hw h0 a1 z0 z1 z2 a15 v93 a16) (argsL := [(.ref a1), (.ref a15)]) (rest := [(.ref a16)]) rfl (ret := none) (ps := [(.array .byte), (.array .int)]) (by decide +kernel) rfl rfl 1 rfl (by decide) (by decide) (by decide) (by decide) ?_
                rintro _ _ ⟨a17, a18, rfl, rfl⟩
                show Go B2_n3 Z a0 h0 _ 4 27 (mem41 a16 a17 a18 a1 a15 z0 z1 z2 v93) 130 #[.val (.ref a1), .val (.int (bump z2 (bump z1 (bump z0 (0 : Int32))))), .val (.int (1 : Int32)), .val (.ref a15), .val (.int (bumq z2 (bumq z1 (bumq z0 (0 : Int32))))), .val (.int (3 : Int32))] [(.ref a16)]
                exact go_areturn d2_130 rfl rfl rfl rfl (by decide) (by decide) (by have eb : bk3 z0 z1 z2 = v93 := (by unfold bk3; rw [if_neg (by omega)]; exact eBK); subst eb; exact ⟨a16, a17, a18, a15, rfl, rfl⟩)
              refine go_icmp 105 96 rfl (by decide) rfl d2_93 rfl (fun (hj18 : z2.toInt ≠ (10 : Int)) => ?_) (fun (hj18 : ¬ (z2.toInt ≠ (10 : Int))) => ?_)
              · rw [bumq_n (z := z2) (C := (bumq z1 (bumq z0 (0 : Int32)))) (by omega), wri_n (z := z2) (A := (wri z1 (wri z0 (List.replicate ((bump z2 (bump z1 (bump z0 (0 : Int32)))) + (1 : Int32)).toNatClampNeg (.int (0 : Int32))) (0 : Int32) (0 : Int32)) (bumq z0 (0 : Int32)) (1 : Int32))) (l := (bumq z1 (bumq z0 (0 : Int32)))) (i := (2 : Int32)) (by omega)] at jn18
                exact jn18
              · refine go_aloadN 97 rfl d2_96 rfl rfl ?_
                refine go_iload 99 rfl d2_97 rfl ?_
                refine go_iinc #[.val (.ref a1), .val (.int (bump z2 (bump z1 (bump z0 (0 : Int32))))), .val (.int (1 : Int32)), .val (.ref a15), .val (.int ((bumq z1 (bumq z0 (0 : Int32))) + (1 : Int32))), .val (.int (2 : Int32))] 102 rfl d2_99 rfl rfl ?_
                refine go_iload 104 rfl d2_102 rfl ?_
                refine go_iastore 1 105 rfl d2_104 rfl rfl (by (by_cases q0 : z0.toInt = 10 <;> by_cases q1 : z1.toInt = 10 <;> by_cases q2 : z2.toInt = 10) <;> first | omega | decide | (simp only [bump, bumq, wri, q0, q1, q2, if_true, if_false, eq_self, reduceIte]; decide)) (by (by_cases q0 : z0.toInt = 10 <;> by_cases q1 : z1.toInt = 10 <;> by_cases q2 : z2.toInt = 10) <;> first | omega | decide | (simp only [bump, bumq, wri, q0, q1, q2, if_true, if_false, eq_self, reduceIte]; decide)) ?_
                show Go B2_n3 Z a0 h0 _ 1 5 [ar a1 .byte [(.int z0), (.int z1), (.int z2)], ar a15 .int ((wri z1 (wri z0 (List.replicate ((bump z2 (bump z1 (bump z0 (0 : Int32)))) + (1 : Int32)).toNatClampNeg (.int (0 : Int32))) (0 : Int32) (0 : Int32)) (bumq z0 (0 : Int32)) (1 : Int32)).set (bumq z1 (bumq z0 (0 : Int32))).toNatClampNeg (.int (2 : Int32)))] 105 #[.val (.ref a1), .val (.int (bump z2 (bump z1 (bump z0 (0 : Int32))))), .val (.int (1 : Int32)), .val (.ref a15), .val (.int ((bumq z1 (bumq z0 (0 : Int32))) + (1 : Int32))), .val (.int (2 : Int32))] []
                rw [bumq_p (z := z2) (C := (bumq z1 (bumq z0 (0 : Int32)))) (by omega), wri_p (z := z2) (A := (wri z1 (wri z0 (List.replicate ((bump z2 (bump z1 (bump z0 (0 : Int32)))) + (1 : Int32)).toNatClampNeg (.int (0 : Int32))) (0 : Int32) (0 : Int32)) (bumq z0 (0 : Int32)) (1 : Int32))) (l := (bumq z1 (bumq z0 (0 : Int32)))) (i := (2 : Int32)) (by omega)] at jn18
                exact jn18
            refine go_icmp 105 96 rfl (by decide) rfl d2_93 rfl (fun (hj17 : z1.toInt ≠ (10 : Int)) => ?_) (fun (hj17 : ¬ (z1.toInt ≠ (10 : Int))) => ?_)
            · rw [bumq_n (z := z1) (C := (bumq z0 (0 : Int32))) (by omega), wri_n (z := z1) (A := (wri z0 (List.replicate ((bump z2 (bump z1 (bump z0 (0 : Int32)))) + (1 : Int32)).toNatClampNeg (.int (0 : Int32))) (0 : Int32) (0 : Int32))) (l := (bumq z0 (0 : Int32))) (i := (1 : Int32)) (by omega)] at jn17
              exact jn17
            · refine go_aloadN 97 rfl d2_96 rfl rfl ?_
              refine go_iload 99 rfl d2_97 rfl ?_
              refine go_iinc #[.val (.ref a1), .val (.int (bump z2 (bump z1 (bump z0 (0 : Int32))))), .val (.int (1 : Int32)), .val (.ref a15), .val (.int ((bumq z0 (0 : Int32)) + (1 : Int32))), .val (.int (1 : Int32))] 102 rfl d2_99 rfl rfl ?_
              refine go_iload 104 rfl d2_102 rfl ?_
              refine go_iastore 1 105 rfl d2_104 rfl rfl (by (by_cases q0 : z0.toInt = 10 <;> by_cases q1 : z1.toInt = 10 <;> by_cases q2 : z2.toInt = 10) <;> first | omega | decide | (simp only [bump, bumq, wri, q0, q1, q2, if_true, if_false, eq_self, reduceIte]; decide)) (by (by_cases q0 : z0.toInt = 10 <;> by_cases q1 : z1.toInt = 10 <;> by_cases q2 : z2.toInt = 10) <;> first | omega | decide | (simp only [bump, bumq, wri, q0, q1, q2, if_true, if_false, eq_self, reduceIte]; decide)) ?_
              show Go B2_n3 Z a0 h0 _ 1 5 [ar a1 .byte [(.int z0), (.int z1), (.int z2)], ar a15 .int ((wri z0 (List.replicate ((bump z2 (bump z1 (bump z0 (0 : Int32)))) + (1 : Int32)).toNatClampNeg (.int (0 : Int32))) (0 : Int32) (0 : Int32)).set (bumq z0 (0 : Int32)).toNatClampNeg (.int (1 : Int32)))] 105 #[.val (.ref a1), .val (.int (bump z2 (bump z1 (bump z0 (0 : Int32))))), .val (.int (1 : Int32)), .val (.ref a15), .val (.int ((bumq z0 (0 : Int32)) + (1 : Int32))), .val (.int (1 : Int32))] []
              rw [bumq_p (z := z1) (C := (bumq z0 (0 : Int32))) (by omega), wri_p (z := z1) (A := (wri z0 (List.replicate ((bump z2 (bump z1 (bump z0 (0 : Int32)))) + (1 : Int32)).toNatClampNeg (.int (0 : Int32))) (0 : Int32) (0 : Int32))) (l := (bumq z0 (0 : Int32))) (i := (1 : Int32)) (by omega)] at jn17
              exact jn17
          refine go_icmp 105 96 rfl (by decide) rfl d2_93 rfl (fun (hj16 : z0.toInt ≠ (10 : Int)) => ?_) (fun (hj16 : ¬ (z0.toInt ≠ (10 : Int))) => ?_)
          · rw [bumq_n (z := z0) (C := (0 : Int32)) (by omega), wri_n (z := z0) (A := (List.replicate ((bump z2 (bump z1 (bump z0 (0 : Int32)))) + (1 : Int32)).toNatClampNeg (.int (0 : Int32)))) (l := (0 : Int32)) (i := (0 : Int32)) (by omega)] at jn16
            exact jn16
          · refine go_aloadN 97 rfl d2_96 rfl rfl ?_
            refine go_iload 99 rfl d2_97 rfl ?_
            refine go_iinc #[.val (.ref a1), .val (.int (bump z2 (bump z1 (bump z0 (0 : Int32))))), .val (.int (1 : Int32)), .val (.ref a15), .val (.int (1 : Int32)), .val (.int (0 : Int32))] 102 rfl d2_99 rfl rfl ?_
            refine go_iload 104 rfl d2_102 rfl ?_
            refine go_iastore 1 105 rfl d2_104 rfl rfl (by (by_cases q0 : z0.toInt = 10 <;> by_cases q1 : z1.toInt = 10 <;> by_cases q2 : z2.toInt = 10) <;> first | omega | decide | (simp only [bump, bumq, wri, q0, q1, q2, if_true, if_false, eq_self, reduceIte]; decide)) (by (by_cases q0 : z0.toInt = 10 <;> by_cases q1 : z1.toInt = 10 <;> by_cases q2 : z2.toInt = 10) <;> first | omega | decide | (simp only [bump, bumq, wri, q0, q1, q2, if_true, if_false, eq_self, reduceIte]; decide)) ?_
            show Go B2_n3 Z a0 h0 _ 1 5 [ar a1 .byte [(.int z0), (.int z1), (.int z2)], ar a15 .int ((List.replicate ((bump z2 (bump z1 (bump z0 (0 : Int32)))) + (1 : Int32)).toNatClampNeg (.int (0 : Int32))).set (0 : Int32).toNatClampNeg (.int (0 : Int32)))] 105 #[.val (.ref a1), .val (.int (bump z2 (bump z1 (bump z0 (0 : Int32))))), .val (.int (1 : Int32)), .val (.ref a15), .val (.int (1 : Int32)), .val (.int (0 : Int32))] []
            rw [bumq_p (z := z0) (C := (0 : Int32)) (by omega), wri_p (z := z0) (A := (List.replicate ((bump z2 (bump z1 (bump z0 (0 : Int32)))) + (1 : Int32)).toNatClampNeg (.int (0 : Int32)))) (l := (0 : Int32)) (i := (0 : Int32)) (by omega)] at jn16
            exact jn16
      refine go_icmp 32 29 rfl (by decide) rfl d2_26 rfl (fun (hj12 : z2.toInt ≠ (10 : Int)) => ?_) (fun (hj12 : ¬ (z2.toInt ≠ (10 : Int))) => ?_)
      · rw [bump_n (z := z2) (C := (bump z1 (bump z0 (0 : Int32)))) (by omega)] at jn12
        exact jn12
      · refine go_iinc #[.val (.ref a1), .val (.int ((bump z1 (bump z0 (0 : Int32))) + (1 : Int32))), .val (.ref a1), .val (.int (3 : Int32)), .val (.int (2 : Int32)), .val (.int z2)] 32 rfl d2_29 rfl rfl ?_
        rw [bump_p (z := z2) (C := (bump z1 (bump z0 (0 : Int32)))) (by omega)] at jn12
        exact jn12
    refine go_icmp 32 29 rfl (by decide) rfl d2_26 rfl (fun (hj11 : z1.toInt ≠ (10 : Int)) => ?_) (fun (hj11 : ¬ (z1.toInt ≠ (10 : Int))) => ?_)
    · rw [bump_n (z := z1) (C := (bump z0 (0 : Int32))) (by omega)] at jn11
      exact jn11
    · refine go_iinc #[.val (.ref a1), .val (.int ((bump z0 (0 : Int32)) + (1 : Int32))), .val (.ref a1), .val (.int (3 : Int32)), .val (.int (1 : Int32)), .val (.int z1)] 32 rfl d2_29 rfl rfl ?_
      rw [bump_p (z := z1) (C := (bump z0 (0 : Int32))) (by omega)] at jn11
      exact jn11
  refine go_icmp 32 29 rfl (by decide) rfl d2_26 rfl (fun (hj10 : z0.toInt ≠ (10 : Int)) => ?_) (fun (hj10 : ¬ (z0.toInt ≠ (10 : Int))) => ?_)
  · rw [bump_n (z := z0) (C := (0 : Int32)) (by omega)] at jn10
    exact jn10
  · refine go_iinc #[.val (.ref a1), .val (.int (1 : Int32)), .val (.ref a1), .val (.int (3 : Int32)), .val (.int (0 : Int32)), .val (.int z0)] 32 rfl d2_29 rfl rfl ?_
    rw [bump_p (z := z0) (C := (0 : Int32)) (by omega)] at jn10
    exact jn10
def B3_35 : Bdy := (⟨"com/example/clauseline/clauseline/model/Document", "<init>", "([B[I)V"⟩, prog_16_method_1_code, 3, none, ({ frames := 4, cells := 2, slots := 18, locals := 51 } : Room))
set_option maxRecDepth 65536 in
set_option maxHeartbeats 4000000 in
theorem mt35 (Z : State) (a0 : Array Value) (hw : ∀ d ∈ tables_1, d.before a0 Z = true) (h0 : Heap) (a1 : Addr) (z0 : Int32) (z1 : Int32) (z2 : Int32) (z3 : Int32) (a11 : Addr) (v93 : List Value) (a12 : Addr) :
    Met B3_35 Z a0 h0 #[(.ref a12), (.ref a1), (.ref a11)] (mem43 a1 z0 z1 z2 z3 a11 v93 a12) (fun v ds => ∃ a113 a114 : Addr, Ret none (mem51 a12 a113 a114 a1 a11 z0 z1 z2 z3 v93) v ds) := by
  refine Met.of pn3 (ls := #[.val (.ref a12), .val (.ref a1), .val (.ref a11)]) (fun m => by first | (simp [entryFrame, mkF, argsToLocals, Value.category, B3_35]; done) | rfl) ?_
  show Go B3_35 Z a0 h0 _ 0 0 (mem43 a1 z0 z1 z2 z3 a11 v93 a12) 0 #[.val (.ref a12), .val (.ref a1), .val (.ref a11)] []
  refine go_aloadN 1 rfl d3_0 rfl rfl ?_
  refine go_initObj 4 rfl d3_1 rfl (wd hw 16 rfl) (wd hw 17 rfl) (wd hw 18 rfl) rfl (by decide) (by decide) ?_
  refine go_aloadN 5 rfl d3_4 rfl rfl ?_
  refine go_bipush (16 : Int32) 7 rfl d3_5 rfl ?_
  refine go_anewarr 10 rfl d3_7 rfl (wd hw 19 rfl) (wd hw 20 rfl) (by decide) 16 (by decide) (by decide) (by decide) (by decide) (fun a113 => ?_)
  show Go B3_35 Z a0 h0 _ 1 16 (mem44 a1 z0 z1 z2 z3 a11 v93 a12 a113) 10 #[.val (.ref a12), .val (.ref a1), .val (.ref a11)] [(.ref a113), (.ref a12)]
  refine go_put 2 0 13 rfl d3_10 rfl rfl rfl (wd hw 21 rfl) (Or.inr ⟨(wd hw 22 rfl), rfl, rfl⟩) (wd hw 12 rfl) (ty := (.array (.object "com/example/clauseline/clauseline/model/Line"))) (by decide) rfl rfl ?_
  show Go B3_35 Z a0 h0 _ 1 16 (mem45 a1 z0 z1 z2 z3 a11 v93 a12 a113) 13 #[.val (.ref a12), .val (.ref a1), .val (.ref a11)] []
  refine go_aloadN 14 rfl d3_13 rfl rfl ?_
  refine go_new 17 rfl d3_14 (wd hw 23 rfl) (wd hw 24 rfl) (wd hw 25 rfl) (by decide) (by decide) [("com/example/clauseline/clauseline/model/Document$Lines", "this$0", "Lcom/example/clauseline/clauseline/model/Document;", .null), ("java/util/AbstractList", "modCount", "I", (.int (0 : Int32)))] ⟨⟨Or.inr (wd hw 30 rfl), _, rfl, rfl⟩, ⟨⟨Or.inl (wd hw 44 rfl), _, rfl, rfl⟩, trivial⟩⟩ (by decide) (fun a114 => ?_)
  show Go B3_35 Z a0 h0 _ 2 18 (mem46 a1 z0 z1 z2 z3 a11 v93 a12 a113 a114) 17 #[.val (.ref a12), .val (.ref a1), .val (.ref a11)] [(.ref a114), (.ref a12)]
  refine go_dup 18 rfl d3_17 rfl rfl ?_
  refine go_aloadN 19 rfl d3_18 rfl rfl ?_
  refine Go.front 4 (Nat.le_of_ble_eq_true rfl) ?_
  refine Go.front 4 (Nat.le_of_ble_eq_true rfl) ?_
  refine Go.front 4 (Nat.le_of_ble_eq_true rfl) ?_
  show Go B3_35 Z a0 h0 _ 2 18 (mem47 a12 a113 a114 a1 z0 z1 z2 z3 a11 v93) 19 #[.val (.ref a12), .val (.ref a1), .val (.ref a11)] [(.ref a12), (.ref a114), (.ref a114), (.ref a12)]
  refine go_callIR 22 rfl d3_19 rfl (wd hw 26 rfl) (wd hw 27 rfl) (wd hw 25 rfl) (wd hw 28 rfl) (by decide) (Met.frame [ar a1 .byte [(.int z0), (.int z1), (.int z2), (.int z3)], ar a11 .int v93] (mt25 Z a0 hw h0 a12 a113 a114)) (argsL := [(.ref a12)]) (rest := [(.ref a114), (.ref a12)]) rfl (ret := none) (ps := [(.object "com/example/clauseline/clauseline/model/Document")]) (by decide +kernel) rfl rfl 2 rfl (by decide) (by decide) (by decide) (by decide) ?_
  rintro _ _ ⟨_, ⟨rfl, rfl⟩, rfl⟩
  show Go B3_35 Z a0 h0 _ 2 18 (mem48 a12 a113 a114 a1 z0 z1 z2 z3 a11 v93) 22 #[.val (.ref a12), .val (.ref a1), .val (.ref a11)] [(.ref a114), (.ref a12)]
  refine go_put 0 1 25 rfl d3_22 rfl rfl rfl (wd hw 45 rfl) (Or.inr ⟨(wd hw 46 rfl), rfl, rfl⟩) (wd hw 12 rfl) (ty := (.object "java/util/List")) (by decide) rfl rfl ?_
  show Go B3_35 Z a0 h0 _ 2 18 (mem49 a12 a113 a114 a1 z0 z1 z2 z3 a11 v93) 25 #[.val (.ref a12), .val (.ref a1), .val (.ref a11)] []
  refine go_aloadN 26 rfl d3_25 rfl rfl ?_
  refine go_aloadN 27 rfl d3_26 rfl rfl ?_
  refine go_put 0 2 30 rfl d3_27 rfl rfl rfl (wd hw 47 rfl) (Or.inr ⟨(wd hw 48 rfl), rfl, rfl⟩) (wd hw 12 rfl) (ty := (.array .byte)) (by decide) rfl rfl ?_
  show Go B3_35 Z a0 h0 _ 2 18 (mem50 a12 a113 a114 a1 z0 z1 z2 z3 a11 v93) 30 #[.val (.ref a12), .val (.ref a1), .val (.ref a11)] []
  refine go_aloadN 31 rfl d3_30 rfl rfl ?_
  refine go_aloadN 32 rfl d3_31 rfl rfl ?_
  refine go_put 0 3 35 rfl d3_32 rfl rfl rfl (wd hw 49 rfl) (Or.inr ⟨(wd hw 50 rfl), rfl, rfl⟩) (wd hw 12 rfl) (ty := (.array .int)) (by decide) rfl rfl ?_
  show Go B3_35 Z a0 h0 _ 2 18 (mem51 a12 a113 a114 a1 a11 z0 z1 z2 z3 v93) 35 #[.val (.ref a12), .val (.ref a1), .val (.ref a11)] []
  exact go_return d3_35 rfl rfl (by decide) (by decide) ⟨a113, a114, rfl, rfl⟩
def B2_n4 : Bdy := (⟨"com/example/clauseline/clauseline/model/Document", "of", "([B)Lcom/example/clauseline/clauseline/model/Document;"⟩, prog_16_method_2_code, 6, (some (.object "com/example/clauseline/clauseline/model/Document")), ({ frames := 5, cells := 4, slots := 27, locals := 66 } : Room))
set_option maxRecDepth 65536 in
set_option maxHeartbeats 4000000 in
theorem m_of4 (Z : State) (a0 : Array Value) (hw : ∀ d ∈ tables_1, d.before a0 Z = true) (h0 : Heap) (a1 : Addr) (z0 z1 z2 z3 : Int32) :
    Met B2_n4 Z a0 h0 #[(.ref a1)] [ar a1 .byte [(.int z0), (.int z1), (.int z2), (.int z3)]] (fun v ds => ∃ a12 a13 a14 a11 : Addr, Ret (some (.ref a12)) (mem53 a12 a13 a14 a1 a11 z0 z1 z2 z3) v ds) := by
  refine Met.of pn2 (ls := #[.val (.ref a1), .unset, .unset, .unset, .unset, .unset]) (fun m => by first | (simp [entryFrame, mkF, argsToLocals, Value.category, B2_n4]; done) | rfl) ?_
  show Go B2_n4 Z a0 h0 _ 0 0 [ar a1 .byte [(.int z0), (.int z1), (.int z2), (.int z3)]] 0 #[.val (.ref a1), .unset, .unset, .unset, .unset, .unset] []
  refine go_iconst (0 : Int32) 1 rfl d2_0 rfl ?_
  refine go_istoreN #[.val (.ref a1), .val (.int (0 : Int32)), .unset, .unset, .unset, .unset] 2 rfl d2_1 rfl rfl ?_
  refine go_aloadN 3 rfl d2_2 rfl rfl ?_
  refine go_astoreN #[.val (.ref a1), .val (.int (0 : Int32)), .val (.ref a1), .unset, .unset, .unset] 4 rfl d2_3 rfl rfl rfl ?_
  refine go_aloadN 5 rfl d2_4 rfl rfl ?_
  refine go_alen 0 6 rfl d2_5 rfl rfl ?_
  show Go B2_n4 Z a0 h0 _ 0 0 [ar a1 .byte [(.int z0), (.int z1), (.int z2), (.int z3)]] 6 #[.val (.ref a1), .val (.int (0 : Int32)), .val (.ref a1), .unset, .unset, .unset] [(.int (4 : Int32))]
  refine go_istoreN #[.val (.ref a1), .val (.int (0 : Int32)), .val (.ref a1), .val (.int (4 : Int32)), .unset, .unset] 7 rfl d2_6 rfl rfl ?_
  refine go_iconst (0 : Int32) 8 rfl d2_7 rfl ?_
  refine go_istore #[.val (.ref a1), .val (.int (0 : Int32)), .val (.ref a1), .val (.int (4 : Int32)), .val (.int (0 : Int32)), .unset] 10 rfl d2_8 rfl rfl ?_
  refine go_iload 12 rfl d2_10 rfl ?_
  refine go_iloadN 13 rfl d2_12 rfl ?_
  refine go_icmp 38 16 rfl (by decide) rfl d2_13 rfl (fun (hc13 : (4 : Int) ≤ (0 : Int)) => absurd hc13 (by decide)) (fun (hc13 : ¬ ((4 : Int) ≤ (0 : Int))) => ?_)
  refine go_aloadN 17 rfl d2_16 rfl rfl ?_
  refine go_iload 19 rfl d2_17 rfl ?_
  refine go_baload 20 rfl d2_19 rfl (Mo.el (i := 0) rfl (by decide) rfl) ?_
  refine go_istore #[.val (.ref a1), .val (.int (0 : Int32)), .val (.ref a1), .val (.int (4 : Int32)), .val (.int (0 : Int32)), .val (.int z0)] 22 rfl d2_20 rfl rfl ?_
  refine go_iload 24 rfl d2_22 rfl ?_
  refine go_bipush (10 : Int32) 26 rfl d2_24 rfl ?_
  have jn19 : Go B2_n4 Z a0 h0 (fun v ds => ∃ a12 a13 a14 a11 : Addr, Ret (some (.ref a12)) (mem53 a12 a13 a14 a1 a11 z0 z1 z2 z3) v ds) 0 0 [ar a1 .byte [(.int z0), (.int z1), (.int z2), (.int z3)]] 32 #[.val (.ref a1), .val (.int (bump z0 (0 : Int32))), .val (.ref a1), .val (.int (4 : Int32)), .val (.int (0 : Int32)), .val (.int z0)] [] := by
    refine go_iinc #[.val (.ref a1), .val (.int (bump z0 (0 : Int32))), .val (.ref a1), .val (.int (4 : Int32)), .val (.int (1 : Int32)), .val (.int z0)] 35 rfl d2_32 rfl rfl ?_
    refine go_goto 10 (by decide) rfl d2_35 ?_
    refine go_iload 12 rfl d2_10 rfl ?_
    refine go_iloadN 13 rfl d2_12 rfl ?_
    refine go_icmp 38 16 rfl (by decide) rfl d2_13 rfl (fun (hc13 : (4 : Int) ≤ (1 : Int)) => absurd hc13 (by decide)) (fun (hc13 : ¬ ((4 : Int) ≤ (1 : Int))) => ?_)
    refine go_aloadN 17 rfl d2_16 rfl rfl ?_
    refine go_iload 19 rfl d2_17 rfl ?_
    refine go_baload 20 rfl d2_19 rfl (Mo.el (i := 0) rfl (by decide) rfl) ?_
    refine go_istore #[.val (.ref a1), .val (.int (bump z0 (0 : Int32))), .val (.ref a1), .val (.int (4 : Int32)), .val (.int (1 : Int32)), .val (.int z1)] 22 rfl d2_20 rfl rfl ?_
    refine go_iload 24 rfl d2_22 rfl ?_
    refine go_bipush (10 : Int32) 26 rfl d2_24 rfl ?_
    have jn20 : Go B2_n4 Z a0 h0 (fun v ds => ∃ a12 a13 a14 a11 : Addr, Ret (some (.ref a12)) (mem53 a12 a13 a14 a1 a11 z0 z1 z2 z3) v ds) 0 0 [ar a1 .byte [(.int z0), (.int z1), (.int z2), (.int z3)]] 32 #[.val (.ref a1), .val (.int (bump z1 (bump z0 (0 : Int32)))), .val (.ref a1), .val (.int (4 : Int32)), .val (.int (1 : Int32)), .val (.int z1)] [] := by
      refine go_iinc #[.val (.ref a1), .val (.int (bump z1 (bump z0 (0 : Int32)))), .val (.ref a1), .val (.int (4 : Int32)), .val (.int (2 : Int32)), .val (.int z1)] 35 rfl d2_32 rfl rfl ?_
      refine go_goto 10 (by decide) rfl d2_35 ?_
      refine go_iload 12 rfl d2_10 rfl ?_
      refine go_iloadN 13 rfl d2_12 rfl ?_
      refine go_icmp 38 16 rfl (by decide) rfl d2_13 rfl (fun (hc13 : (4 : Int) ≤ (2 : Int)) => absurd hc13 (by decide)) (fun (hc13 : ¬ ((4 : Int) ≤ (2 : Int))) => ?_)
      refine go_aloadN 17 rfl d2_16 rfl rfl ?_
      refine go_iload 19 rfl d2_17 rfl ?_
      refine go_baload 20 rfl d2_19 rfl (Mo.el (i := 0) rfl (by decide) rfl) ?_
      refine go_istore #[.val (.ref a1), .val (.int (bump z1 (bump z0 (0 : Int32)))), .val (.ref a1), .val (.int (4 : Int32)), .val (.int (2 : Int32)), .val (.int z2)] 22 rfl d2_20 rfl rfl ?_
      refine go_iload 24 rfl d2_22 rfl ?_
      refine go_bipush (10 : Int32) 26 rfl d2_24 rfl ?_
      have jn21 : Go B2_n4 Z a0 h0 (fun v ds => ∃ a12 a13 a14 a11 : Addr, Ret (some (.ref a12)) (mem53 a12 a13 a14 a1 a11 z0 z1 z2 z3) v ds) 0 0 [ar a1 .byte [(.int z0), (.int z1), (.int z2), (.int z3)]] 32 #[.val (.ref a1), .val (.int (bump z2 (bump z1 (bump z0 (0 : Int32))))), .val (.ref a1), .val (.int (4 : Int32)), .val (.int (2 : Int32)), .val (.int z2)] [] := by
        refine go_iinc #[.val (.ref a1), .val (.int (bump z2 (bump z1 (bump z0 (0 : Int32))))), .val (.ref a1), .val (.int (4 : Int32)), .val (.int (3 : Int32)), .val (.int z2)] 35 rfl d2_32 rfl rfl ?_
        refine go_goto 10 (by decide) rfl d2_35 ?_
        refine go_iload 12 rfl d2_10 rfl ?_
        refine go_iloadN 13 rfl d2_12 rfl ?_
        refine go_icmp 38 16 rfl (by decide) rfl d2_13 rfl (fun (hc13 : (4 : Int) ≤ (3 : Int)) => absurd hc13 (by decide)) (fun (hc13 : ¬ ((4 : Int) ≤ (3 : Int))) => ?_)
        refine go_aloadN 17 rfl d2_16 rfl rfl ?_
        refine go_iload 19 rfl d2_17 rfl ?_
        refine go_baload 20 rfl d2_19 rfl (Mo.el (i := 0) rfl (by decide) rfl) ?_
        refine go_istore #[.val (.ref a1), .val (.int (bump z2 (bump z1 (bump z0 (0 : Int32))))), .val (.ref a1), .val (.int (4 : Int32)), .val (.int (3 : Int32)), .val (.int z3)] 22 rfl d2_20 rfl rfl ?_
        refine go_iload 24 rfl d2_22 rfl ?_
        refine go_bipush (10 : Int32) 26 rfl d2_24 rfl ?_
        have jn22 : Go B2_n4 Z a0 h0 (fun v ds => ∃ a12 a13 a14 a11 : Addr, Ret (some (.ref a12)) (mem53 a12 a13 a14 a1 a11 z0 z1 z2 z3) v ds) 0 0 [ar a1 .byte [(.int z0), (.int z1), (.int z2), (.int z3)]] 32 #[.val (.ref a1), .val (.int (bump z3 (bump z2 (bump z1 (bump z0 (0 : Int32)))))), .val (.ref a1), .val (.int (4 : Int32)), .val (.int (3 : Int32)), .val (.int z3)] [] := by
          refine go_iinc #[.val (.ref a1), .val (.int (bump z3 (bump z2 (bump z1 (bump z0 (0 : Int32)))))), .val (.ref a1), .val (.int (4 : Int32)), .val (.int (4 : Int32)), .val (.int z3)] 35 rfl d2_32 rfl rfl ?_
          refine go_goto 10 (by decide) rfl d2_35 ?_
          refine go_iload 12 rfl d2_10 rfl ?_
          refine go_iloadN 13 rfl d2_12 rfl ?_
          refine go_icmp 38 16 rfl (by decide) rfl d2_13 rfl (fun (hc13 : (4 : Int) ≤ (4 : Int)) => ?_) (fun (hc13 : ¬ ((4 : Int) ≤ (4 : Int))) => absurd hc13 (by decide))
          refine go_aloadN 39 rfl d2_38 rfl rfl ?_
          refine go_alen 0 40 rfl d2_39 rfl rfl ?_
          show Go B2_n4 Z a0 h0 _ 0 0 [ar a1 .byte [(.int z0), (.int z1), (.int z2), (.int z3)]] 40 #[.val (.ref a1), .val (.int (bump z3 (bump z2 (bump z1 (bump z0 (0 : Int32)))))), .val (.ref a1), .val (.int (4 : Int32)), .val (.int (4 : Int32)), .val (.int z3)] [(.int (4 : Int32))]
          refine go_if 58 43 rfl (by decide) rfl d2_40 rfl (fun (hc40 : (4 : Int) ≤ 0) => absurd hc40 (by decide)) (fun (hc40 : ¬ ((4 : Int) ≤ 0)) => ?_)
          refine go_aloadN 44 rfl d2_43 rfl rfl ?_
          refine go_aloadN 45 rfl d2_44 rfl rfl ?_
          refine go_alen 0 46 rfl d2_45 rfl rfl ?_
          show Go B2_n4 Z a0 h0 _ 0 0 [ar a1 .byte [(.int z0), (.int z1), (.int z2), (.int z3)]] 46 #[.val (.ref a1), .val (.int (bump z3 (bump z2 (bump z1 (bump z0 (0 : Int32)))))), .val (.ref a1), .val (.int (4 : Int32)), .val (.int (4 : Int32)), .val (.int z3)] [(.int (4 : Int32)), (.ref a1)]
          refine go_iconst (1 : Int32) 47 rfl d2_46 rfl ?_
          refine go_isub 48 rfl d2_47 rfl ?_
          show Go B2_n4 Z a0 h0 _ 0 0 [ar a1 .byte [(.int z0), (.int z1), (.int z2), (.int z3)]] 48 #[.val (.ref a1), .val (.int (bump z3 (bump z2 (bump z1 (bump z0 (0 : Int32)))))), .val (.ref a1), .val (.int (4 : Int32)), .val (.int (4 : Int32)), .val (.int z3)] [(.int (3 : Int32)), (.ref a1)]
          refine go_baload 49 rfl d2_48 rfl (Mo.el (i := 0) rfl (by decide) rfl) ?_
          refine go_bipush (10 : Int32) 51 rfl d2_49 rfl ?_
          refine go_icmp 58 54 rfl (by decide) rfl d2_51 rfl (fun (hc51_33 : z3.toInt = (10 : Int)) => ?_) (fun (hc51_33 : ¬ (z3.toInt = (10 : Int))) => ?_)
          · refine go_iconst (0 : Int32) 59 rfl d2_58 rfl ?_
            refine go_istoreN #[.val (.ref a1), .val (.int (bump z3 (bump z2 (bump z1 (bump z0 (0 : Int32)))))), .val (.int (0 : Int32)), .val (.int (4 : Int32)), .val (.int (4 : Int32)), .val (.int z3)] 60 rfl d2_59 rfl rfl ?_
            refine go_iloadN 61 rfl d2_60 rfl ?_
            refine go_if 70 64 rfl (by decide) rfl d2_61 rfl (fun (hc61 : (0 : Int) = 0) => ?_) (fun (hc61 : ¬ ((0 : Int) = 0)) => absurd hc61 (by decide))
            refine go_iloadN 71 rfl d2_70 rfl ?_
            refine go_newarr 73 rfl d2_71 rfl (wd hw 6 rfl) (by (by_cases q0 : z0.toInt = 10 <;> by_cases q1 : z1.toInt = 10 <;> by_cases q2 : z2.toInt = 10 <;> by_cases q3 : z3.toInt = 10) <;> first | omega | decide | (simp only [bump, bumq, wri, q0, q1, q2, q3, if_true, if_false, eq_self, reduceIte]; decide)) 5 (by (by_cases q0 : z0.toInt = 10 <;> by_cases q1 : z1.toInt = 10 <;> by_cases q2 : z2.toInt = 10 <;> by_cases q3 : z3.toInt = 10) <;> first | omega | decide | (simp only [bump, bumq, wri, q0, q1, q2, q3, if_true, if_false, eq_self, reduceIte]; decide)) (by decide) (by decide) (by decide) (fun a11 => ?_)
            show Go B2_n4 Z a0 h0 _ 1 5 [ar a1 .byte [(.int z0), (.int z1), (.int z2), (.int z3)], ar a11 .int (List.replicate (bump z3 (bump z2 (bump z1 (bump z0 (0 : Int32))))).toNatClampNeg (.int (0 : Int32)))] 73 #[.val (.ref a1), .val (.int (bump z3 (bump z2 (bump z1 (bump z0 (0 : Int32)))))), .val (.int (0 : Int32)), .val (.int (4 : Int32)), .val (.int (4 : Int32)), .val (.int z3)] [(.ref a11)]
            refine go_astoreN #[.val (.ref a1), .val (.int (bump z3 (bump z2 (bump z1 (bump z0 (0 : Int32)))))), .val (.int (0 : Int32)), .val (.ref a11), .val (.int (4 : Int32)), .val (.int z3)] 74 rfl d2_73 rfl rfl rfl ?_
            refine go_iconst (0 : Int32) 75 rfl d2_74 rfl ?_
            refine go_istore #[.val (.ref a1), .val (.int (bump z3 (bump z2 (bump z1 (bump z0 (0 : Int32)))))), .val (.int (0 : Int32)), .val (.ref a11), .val (.int (0 : Int32)), .val (.int z3)] 77 rfl d2_75 rfl rfl ?_
            refine go_iconst (0 : Int32) 78 rfl d2_77 rfl ?_
            refine go_istore #[.val (.ref a1), .val (.int (bump z3 (bump z2 (bump z1 (bump z0 (0 : Int32)))))), .val (.int (0 : Int32)), .val (.ref a11), .val (.int (0 : Int32)), .val (.int (0 : Int32))] 80 rfl d2_78 rfl rfl ?_
            refine go_iload 82 rfl d2_80 rfl ?_
            refine go_aloadN 83 rfl d2_82 rfl rfl ?_
            refine go_alen 0 84 rfl d2_83 rfl rfl ?_
            show Go B2_n4 Z a0 h0 _ 1 5 [ar a1 .byte [(.int z0), (.int z1), (.int z2), (.int z3)], ar a11 .int (List.replicate (bump z3 (bump z2 (bump z1 (bump z0 (0 : Int32))))).toNatClampNeg (.int (0 : Int32)))] 84 #[.val (.ref a1), .val (.int (bump z3 (bump z2 (bump z1 (bump z0 (0 : Int32)))))), .val (.int (0 : Int32)), .val (.ref a11), .val (.int (0 : Int32)), .val (.int (0 : Int32))] [(.int (4 : Int32)), (.int (0 : Int32))]
            refine go_icmp 111 87 rfl (by decide) rfl d2_84 rfl (fun (hc84 : (4 : Int) ≤ (0 : Int)) => absurd hc84 (by decide)) (fun (hc84 : ¬ ((4 : Int) ≤ (0 : Int))) => ?_)
            refine go_aloadN 88 rfl d2_87 rfl rfl ?_
            refine go_iload 90 rfl d2_88 rfl ?_
            refine go_baload 91 rfl d2_90 rfl (Mo.el (i := 0) rfl (by decide) rfl) ?_
            refine go_bipush (10 : Int32) 93 rfl d2_91 rfl ?_
            have jn23 : Go B2_n4 Z a0 h0 (fun v ds => ∃ a12 a13 a14 a11 : Addr, Ret (some (.ref a12)) (mem53 a12 a13 a14 a1 a11 z0 z1 z2 z3) v ds) 1 5 [ar a1 .byte [(.int z0), (.int z1), (.int z2), (.int z3)], ar a11 .int (wri z0 (List.replicate (bump z3 (bump z2 (bump z1 (bump z0 (0 : Int32))))).toNatClampNeg (.int (0 : Int32))) (0 : Int32) (0 : Int32))] 105 #[.val (.ref a1), .val (.int (bump z3 (bump z2 (bump z1 (bump z0 (0 : Int32)))))), .val (.int (0 : Int32)), .val (.ref a11), .val (.int (bumq z0 (0 : Int32))), .val (.int (0 : Int32))] [] := by
              refine go_iinc #[.val (.ref a1), .val (.int (bump z3 (bump z2 (bump z1 (bump z0 (0 : Int32)))))), .val (.int (0 : Int32)), .val (.ref a11), .val (.int (bumq z0 (0 : Int32))), .val (.int (1 : Int32))] 108 rfl d2_105 rfl rfl ?_
              refine go_goto 80 (by decide) rfl d2_108 ?_
              refine go_iload 82 rfl d2_80 rfl ?_
              refine go_aloadN 83 rfl d2_82 rfl rfl ?_
              refine go_alen 0 84 rfl d2_83 rfl rfl ?_
              show Go B2_n4 Z a0 h0 _ 1 5 [ar a1 .byte [(.int z0), (.int z1), (.int z2), (.int z3)], ar a11 .int (wri z0 (List.replicate (bump z3 (bump z2 (bump z1 (bump z0 (0 : Int32))))).toNatClampNeg (.int (0 : Int32))) (0 : Int32) (0 : Int32))] 84 #[.val (.ref a1), .val (.int (bump z3 (bump z2 (bump z1 (bump z0 (0 : Int32)))))), .val (.int (0 : Int32)), .val (.ref a11), .val (.int (bumq z0 (0 : Int32))), .val (.int (1 : Int32))] [(.int (4 : Int32)), (.int (1 : Int32))]
              refine go_icmp 111 87 rfl (by decide) rfl d2_84 rfl (fun (hc84 : (4 : Int) ≤ (1 : Int)) => absurd hc84 (by decide)) (fun (hc84 : ¬ ((4 : Int) ≤ (1 : Int))) => ?_)
              refine go_aloadN 88 rfl d2_87 rfl rfl ?_
              refine go_iload 90 rfl d2_88 rfl ?_
              refine go_baload 91 rfl d2_90 rfl (Mo.el (i := 0) rfl (by decide) rfl) ?_
              refine go_bipush (10 : Int32) 93 rfl d2_91 rfl ?_
              have jn24 : Go B2_n4 Z a0 h0 (fun v ds => ∃ a12 a13 a14 a11 : Addr, Ret (some (.ref a12)) (mem53 a12 a13 a14 a1 a11 z0 z1 z2 z3) v ds) 1 5 [ar a1 .byte [(.int z0), (.int z1), (.int z2), (.int z3)], ar a11 .int (wri z1 (wri z0 (List.replicate (bump z3 (bump z2 (bump z1 (bump z0 (0 : Int32))))).toNatClampNeg (.int (0 : Int32))) (0 : Int32) (0 : Int32)) (bumq z0 (0 : Int32)) (1 : Int32))] 105 #[.val (.ref a1), .val (.int (bump z3 (bump z2 (bump z1 (bump z0 (0 : Int32)))))), .val (.int (0 : Int32)), .val (.ref a11), .val (.int (bumq z1 (bumq z0 (0 : Int32)))), .val (.int (1 : Int32))] [] := by
                refine go_iinc #[.val (.ref a1), .val (.int (bump z3 (bump z2 (bump z1 (bump z0 (0 : Int32)))))), .val (.int (0 : Int32)), .val (.ref a11), .val (.int (bumq z1 (bumq z0 (0 : Int32)))), .val (.int (2 : Int32))] 108 rfl d2_105 rfl rfl ?_
                refine go_goto 80 (by decide) rfl d2_108 ?_
                refine go_iload 82 rfl d2_80 rfl ?_
                refine go_aloadN 83 rfl d2_82 rfl rfl ?_
                refine go_alen 0 84 rfl d2_83 rfl rfl ?_
                show Go B2_n4 Z a0 h0 _ 1 5 [ar a1 .byte [(.int z0), (.int z1), (.int z2), (.int z3)], ar a11 .int (wri z1 (wri z0 (List.replicate (bump z3 (bump z2 (bump z1 (bump z0 (0 : Int32))))).toNatClampNeg (.int (0 : Int32))) (0 : Int32) (0 : Int32)) (bumq z0 (0 : Int32)) (1 : Int32))] 84 #[.val (.ref a1), .val (.int (bump z3 (bump z2 (bump z1 (bump z0 (0 : Int32)))))), .val (.int (0 : Int32)), .val (.ref a11), .val (.int (bumq z1 (bumq z0 (0 : Int32)))), .val (.int (2 : Int32))] [(.int (4 : Int32)), (.int (2 : Int32))]
                refine go_icmp 111 87 rfl (by decide) rfl d2_84 rfl (fun (hc84 : (4 : Int) ≤ (2 : Int)) => absurd hc84 (by decide)) (fun (hc84 : ¬ ((4 : Int) ≤ (2 : Int))) => ?_)
                refine go_aloadN 88 rfl d2_87 rfl rfl ?_
                refine go_iload 90 rfl d2_88 rfl ?_
                refine go_baload 91 rfl d2_90 rfl (Mo.el (i := 0) rfl (by decide) rfl) ?_
                refine go_bipush (10 : Int32) 93 rfl d2_91 rfl ?_
                have jn25 : Go B2_n4 Z a0 h0 (fun v ds => ∃ a12 a13 a14 a11 : Addr, Ret (some (.ref a12)) (mem53 a12 a13 a14 a1 a11 z0 z1 z2 z3) v ds) 1 5 [ar a1 .byte [(.int z0), (.int z1), (.int z2), (.int z3)], ar a11 .int (wri z2 (wri z1 (wri z0 (List.replicate (bump z3 (bump z2 (bump z1 (bump z0 (0 : Int32))))).toNatClampNeg (.int (0 : Int32))) (0 : Int32) (0 : Int32)) (bumq z0 (0 : Int32)) (1 : Int32)) (bumq z1 (bumq z0 (0 : Int32))) (2 : Int32))] 105 #[.val (.ref a1), .val (.int (bump z3 (bump z2 (bump z1 (bump z0 (0 : Int32)))))), .val (.int (0 : Int32)), .val (.ref a11), .val (.int (bumq z2 (bumq z1 (bumq z0 (0 : Int32))))), .val (.int (2 : Int32))] [] := by
                  refine go_iinc #[.val (.ref a1), .val (.int (bump z3 (bump z2 (bump z1 (bump z0 (0 : Int32)))))), .val (.int (0 : Int32)), .val (.ref a11), .val (.int (bumq z2 (bumq z1 (bumq z0 (0 : Int32))))), .val (.int (3 : Int32))] 108 rfl d2_105 rfl rfl ?_
                  refine go_goto 80 (by decide) rfl d2_108 ?_
                  refine go_iload 82 rfl d2_80 rfl ?_
                  refine go_aloadN 83 rfl d2_82 rfl rfl ?_
                  refine go_alen 0 84 rfl d2_83 rfl rfl ?_
                  show Go B2_n4 Z a0 h0 _ 1 5 [ar a1 .byte [(.int z0), (.int z1), (.int z2), (.int z3)], ar a11 .int (wri z2 (wri z1 (wri z0 (List.replicate (bump z3 (bump z2 (bump z1 (bump z0 (0 : Int32))))).toNatClampNeg (.int (0 : Int32))) (0 : Int32) (0 : Int32)) (bumq z0 (0 : Int32)) (1 : Int32)) (bumq z1 (bumq z0 (0 : Int32))) (2 : Int32))] 84 #[.val (.ref a1), .val (.int (bump z3 (bump z2 (bump z1 (bump z0 (0 : Int32)))))), .val (.int (0 : Int32)), .val (.ref a11), .val (.int (bumq z2 (bumq z1 (bumq z0 (0 : Int32))))), .val (.int (3 : Int32))] [(.int (4 : Int32)), (.int (3 : Int32))]
                  refine go_icmp 111 87 rfl (by decide) rfl d2_84 rfl (fun (hc84 : (4 : Int) ≤ (3 : Int)) => absurd hc84 (by decide)) (fun (hc84 : ¬ ((4 : Int) ≤ (3 : Int))) => ?_)
                  refine go_aloadN 88 rfl d2_87 rfl rfl ?_
                  refine go_iload 90 rfl d2_88 rfl ?_
                  refine go_baload 91 rfl d2_90 rfl (Mo.el (i := 0) rfl (by decide) rfl) ?_
                  refine go_bipush (10 : Int32) 93 rfl d2_91 rfl ?_
                  have jn26 : Go B2_n4 Z a0 h0 (fun v ds => ∃ a12 a13 a14 a11 : Addr, Ret (some (.ref a12)) (mem53 a12 a13 a14 a1 a11 z0 z1 z2 z3) v ds) 1 5 [ar a1 .byte [(.int z0), (.int z1), (.int z2), (.int z3)], ar a11 .int (wri z3 (wri z2 (wri z1 (wri z0 (List.replicate (bump z3 (bump z2 (bump z1 (bump z0 (0 : Int32))))).toNatClampNeg (.int (0 : Int32))) (0 : Int32) (0 : Int32)) (bumq z0 (0 : Int32)) (1 : Int32)) (bumq z1 (bumq z0 (0 : Int32))) (2 : Int32)) (bumq z2 (bumq z1 (bumq z0 (0 : Int32)))) (3 : Int32))] 105 #[.val (.ref a1), .val (.int (bump z3 (bump z2 (bump z1 (bump z0 (0 : Int32)))))), .val (.int (0 : Int32)), .val (.ref a11), .val (.int (bumq z3 (bumq z2 (bumq z1 (bumq z0 (0 : Int32)))))), .val (.int (3 : Int32))] [] := by
                    refine go_iinc #[.val (.ref a1), .val (.int (bump z3 (bump z2 (bump z1 (bump z0 (0 : Int32)))))), .val (.int (0 : Int32)), .val (.ref a11), .val (.int (bumq z3 (bumq z2 (bumq z1 (bumq z0 (0 : Int32)))))), .val (.int (4 : Int32))] 108 rfl d2_105 rfl rfl ?_
                    refine go_goto 80 (by decide) rfl d2_108 ?_
                    refine go_iload 82 rfl d2_80 rfl ?_
                    refine go_aloadN 83 rfl d2_82 rfl rfl ?_
                    refine go_alen 0 84 rfl d2_83 rfl rfl ?_
                    show Go B2_n4 Z a0 h0 _ 1 5 [ar a1 .byte [(.int z0), (.int z1), (.int z2), (.int z3)], ar a11 .int (wri z3 (wri z2 (wri z1 (wri z0 (List.replicate (bump z3 (bump z2 (bump z1 (bump z0 (0 : Int32))))).toNatClampNeg (.int (0 : Int32))) (0 : Int32) (0 : Int32)) (bumq z0 (0 : Int32)) (1 : Int32)) (bumq z1 (bumq z0 (0 : Int32))) (2 : Int32)) (bumq z2 (bumq z1 (bumq z0 (0 : Int32)))) (3 : Int32))] 84 #[.val (.ref a1), .val (.int (bump z3 (bump z2 (bump z1 (bump z0 (0 : Int32)))))), .val (.int (0 : Int32)), .val (.ref a11), .val (.int (bumq z3 (bumq z2 (bumq z1 (bumq z0 (0 : Int32)))))), .val (.int (4 : Int32))] [(.int (4 : Int32)), (.int (4 : Int32))]
                    refine go_icmp 111 87 rfl (by decide) rfl d2_84 rfl (fun (hc84 : (4 : Int) ≤ (4 : Int)) => ?_) (fun (hc84 : ¬ ((4 : Int) ≤ (4 : Int))) => absurd hc84 (by decide))
                    refine go_iloadN 112 rfl d2_111 rfl ?_
                    refine go_if 121 115 rfl (by decide) rfl d2_112 rfl (fun (hc112 : (0 : Int) = 0) => ?_) (fun (hc112 : ¬ ((0 : Int) = 0)) => absurd hc112 (by decide))
                    generalize eBK : (wri z3 (wri z2 (wri z1 (wri z0 (List.replicate (bump z3 (bump z2 (bump z1 (bump z0 (0 : Int32))))).toNatClampNeg (.int (0 : Int32))) (0 : Int32) (0 : Int32)) (bumq z0 (0 : Int32)) (1 : Int32)) (bumq z1 (bumq z0 (0 : Int32))) (2 : Int32)) (bumq z2 (bumq z1 (bumq z0 (0 : Int32)))) (3 : Int32)) = v93
                    refine go_new 124 rfl d2_121 (wd hw 11 rfl) (wd hw 12 rfl) (wd hw 9 rfl) (by decide) (by decide) [("com/example/clauseline/clauseline/model/Document", "recent", "[Lcom/example/clauseline/clauseline/model/Line;", .null), ("com/example/clauseline/clauseline/model/Document", "lines", "Ljava/util/List;", .null), ("com/example/clauseline/clauseline/model/Document", "bytes", "[B", .null), ("com/example/clauseline/clauseline/model/Document", "breaks", "[I", .null)] ⟨⟨Or.inr (wd hw 22 rfl), _, rfl, rfl⟩, ⟨⟨Or.inr (wd hw 46 rfl), _, rfl, rfl⟩, ⟨⟨Or.inr (wd hw 48 rfl), _, rfl, rfl⟩, ⟨⟨Or.inr (wd hw 50 rfl), _, rfl, rfl⟩, trivial⟩⟩⟩⟩ (by decide) (fun a12 => ?_)
                    show Go B2_n4 Z a0 h0 _ 2 9 (mem43 a1 z0 z1 z2 z3 a11 v93 a12) 124 #[.val (.ref a1), .val (.int (bump z3 (bump z2 (bump z1 (bump z0 (0 : Int32)))))), .val (.int (0 : Int32)), .val (.ref a11), .val (.int (bumq z3 (bumq z2 (bumq z1 (bumq z0 (0 : Int32)))))), .val (.int (4 : Int32))] [(.ref a12)]
                    refine go_dup 125 rfl d2_124 rfl rfl ?_
                    refine go_aloadN 126 rfl d2_125 rfl rfl ?_
                    refine go_aloadN 127 rfl d2_126 rfl rfl ?_
                    refine go_callI 130 rfl d2_127 rfl (wd hw 13 rfl) (wd hw 14 rfl) (wd hw 9 rfl) (wd hw 15 rfl) (by decide) (mt35 Z a0 hw h0 a1 z0 z1 z2 z3 a11 v93 a12) (argsL := [(.ref a1), (.ref a11)]) (rest := [(.ref a12)]) rfl (ret := none) (ps := [(.array .byte), (.array .int)]) (by decide +kernel) rfl rfl 1 rfl (by decide) (by decide) (by decide) (by decide) ?_
                    rintro _ _ ⟨a13, a14, rfl, rfl⟩
                    show Go B2_n4 Z a0 h0 _ 4 27 (mem51 a12 a13 a14 a1 a11 z0 z1 z2 z3 v93) 130 #[.val (.ref a1), .val (.int (bump z3 (bump z2 (bump z1 (bump z0 (0 : Int32)))))), .val (.int (0 : Int32)), .val (.ref a11), .val (.int (bumq z3 (bumq z2 (bumq z1 (bumq z0 (0 : Int32)))))), .val (.int (4 : Int32))] [(.ref a12)]
                    exact go_areturn d2_130 rfl rfl rfl rfl (by decide) (by decide) (by have eb : bk4 z0 z1 z2 z3 = v93 := (by unfold bk4; rw [if_pos (by omega)]; exact eBK); subst eb; exact ⟨a12, a13, a14, a11, rfl, rfl⟩)
                  refine go_icmp 105 96 rfl (by decide) rfl d2_93 rfl (fun (hj26 : z3.toInt ≠ (10 : Int)) => ?_) (fun (hj26 : ¬ (z3.toInt ≠ (10 : Int))) => ?_)
                  · rw [bumq_n (z := z3) (C := (bumq z2 (bumq z1 (bumq z0 (0 : Int32))))) (by omega), wri_n (z := z3) (A := (wri z2 (wri z1 (wri z0 (List.replicate (bump z3 (bump z2 (bump z1 (bump z0 (0 : Int32))))).toNatClampNeg (.int (0 : Int32))) (0 : Int32) (0 : Int32)) (bumq z0 (0 : Int32)) (1 : Int32)) (bumq z1 (bumq z0 (0 : Int32))) (2 : Int32))) (l := (bumq z2 (bumq z1 (bumq z0 (0 : Int32))))) (i := (3 : Int32)) (by omega)] at jn26
                    exact jn26
                  · refine go_aloadN 97 rfl d2_96 rfl rfl ?_
                    refine go_iload 99 rfl d2_97 rfl ?_
                    refine go_iinc #[.val (.ref a1), .val (.int (bump z3 (bump z2 (bump z1 (bump z0 (0 : Int32)))))), .val (.int (0 : Int32)), .val (.ref a11), .val (.int ((bumq z2 (bumq z1 (bumq z0 (0 : Int32)))) + (1 : Int32))), .val (.int (3 : Int32))] 102 rfl d2_99 rfl rfl ?_
                    refine go_iload 104 rfl d2_102 rfl ?_
                    refine go_iastore 1 105 rfl d2_104 rfl rfl (by (by_cases q0 : z0.toInt = 10 <;> by_cases q1 : z1.toInt = 10 <;> by_cases q2 : z2.toInt = 10 <;> by_cases q3 : z3.toInt = 10) <;> first | omega | decide | (simp only [bump, bumq, wri, q0, q1, q2, q3, if_true, if_false, eq_self, reduceIte]; decide)) (by (by_cases q0 : z0.toInt = 10 <;> by_cases q1 : z1.toInt = 10 <;> by_cases q2 : z2.toInt = 10 <;> by_cases q3 : z3.toInt = 10) <;> first | omega | decide | (simp only [bump, bumq, wri, q0, q1, q2, q3, if_true, if_false, eq_self, reduceIte]; decide)) ?_
                    show Go B2_n4 Z a0 h0 _ 1 5 [ar a1 .byte [(.int z0), (.int z1), (.int z2), (.int z3)], ar a11 .int ((wri z2 (wri z1 (wri z0 (List.replicate (bump z3 (bump z2 (bump z1 (bump z0 (0 : Int32))))).toNatClampNeg (.int (0 : Int32))) (0 : Int32) (0 : Int32)) (bumq z0 (0 : Int32)) (1 : Int32)) (bumq z1 (bumq z0 (0 : Int32))) (2 : Int32)).set (bumq z2 (bumq z1 (bumq z0 (0 : Int32)))).toNatClampNeg (.int (3 : Int32)))] 105 #[.val (.ref a1), .val (.int (bump z3 (bump z2 (bump z1 (bump z0 (0 : Int32)))))), .val (.int (0 : Int32)), .val (.ref a11), .val (.int ((bumq z2 (bumq z1 (bumq z0 (0 : Int32)))) + (1 : Int32))), .val (.int (3 : Int32))] []
                    rw [bumq_p (z := z3) (C := (bumq z2 (bumq z1 (bumq z0 (0 : Int32))))) (by omega), wri_p (z := z3) (A := (wri z2 (wri z1 (wri z0 (List.replicate (bump z3 (bump z2 (bump z1 (bump z0 (0 : Int32))))).toNatClampNeg (.int (0 : Int32))) (0 : Int32) (0 : Int32)) (bumq z0 (0 : Int32)) (1 : Int32)) (bumq z1 (bumq z0 (0 : Int32))) (2 : Int32))) (l := (bumq z2 (bumq z1 (bumq z0 (0 : Int32))))) (i := (3 : Int32)) (by omega)] at jn26
                    exact jn26
                refine go_icmp 105 96 rfl (by decide) rfl d2_93 rfl (fun (hj25 : z2.toInt ≠ (10 : Int)) => ?_) (fun (hj25 : ¬ (z2.toInt ≠ (10 : Int))) => ?_)
                · rw [bumq_n (z := z2) (C := (bumq z1 (bumq z0 (0 : Int32)))) (by omega), wri_n (z := z2) (A := (wri z1 (wri z0 (List.replicate (bump z3 (bump z2 (bump z1 (bump z0 (0 : Int32))))).toNatClampNeg (.int (0 : Int32))) (0 : Int32) (0 : Int32)) (bumq z0 (0 : Int32)) (1 : Int32))) (l := (bumq z1 (bumq z0 (0 : Int32)))) (i := (2 : Int32)) (by omega)] at jn25
                  exact jn25
                · refine go_aloadN 97 rfl d2_96 rfl rfl ?_
                  refine go_iload 99 rfl d2_97 rfl ?_
                  refine go_iinc #[.val (.ref a1), .val (.int (bump z3 (bump z2 (bump z1 (bump z0 (0 : Int32)))))), .val (.int (0 : Int32)), .val (.ref a11), .val (.int ((bumq z1 (bumq z0 (0 : Int32))) + (1 : Int32))), .val (.int (2 : Int32))] 102 rfl d2_99 rfl rfl ?_
                  refine go_iload 104 rfl d2_102 rfl ?_
                  refine go_iastore 1 105 rfl d2_104 rfl rfl (by (by_cases q0 : z0.toInt = 10 <;> by_cases q1 : z1.toInt = 10 <;> by_cases q2 : z2.toInt = 10 <;> by_cases q3 : z3.toInt = 10) <;> first | omega | decide | (simp only [bump, bumq, wri, q0, q1, q2, q3, if_true, if_false, eq_self, reduceIte]; decide)) (by (by_cases q0 : z0.toInt = 10 <;> by_cases q1 : z1.toInt = 10 <;> by_cases q2 : z2.toInt = 10 <;> by_cases q3 : z3.toInt = 10) <;> first | omega | decide | (simp only [bump, bumq, wri, q0, q1, q2, q3, if_true, if_false, eq_self, reduceIte]; decide)) ?_
                  show Go B2_n4 Z a0 h0 _ 1 5 [ar a1 .byte [(.int z0), (.int z1), (.int z2), (.int z3)], ar a11 .int ((wri z1 (wri z0 (List.replicate (bump z3 (bump z2 (bump z1 (bump z0 (0 : Int32))))).toNatClampNeg (.int (0 : Int32))) (0 : Int32) (0 : Int32)) (bumq z0 (0 : Int32)) (1 : Int32)).set (bumq z1 (bumq z0 (0 : Int32))).toNatClampNeg (.int (2 : Int32)))] 105 #[.val (.ref a1), .val (.int (bump z3 (bump z2 (bump z1 (bump z0 (0 : Int32)))))), .val (.int (0 : Int32)), .val (.ref a11), .val (.int ((bumq z1 (bumq z0 (0 : Int32))) + (1 : Int32))), .val (.int (2 : Int32))] []
                  rw [bumq_p (z := z2) (C := (bumq z1 (bumq z0 (0 : Int32)))) (by omega), wri_p (z := z2) (A := (wri z1 (wri z0 (List.replicate (bump z3 (bump z2 (bump z1 (bump z0 (0 : Int32))))).toNatClampNeg (.int (0 : Int32))) (0 : Int32) (0 : Int32)) (bumq z0 (0 : Int32)) (1 : Int32))) (l := (bumq z1 (bumq z0 (0 : Int32)))) (i := (2 : Int32)) (by omega)] at jn25
                  exact jn25
              refine go_icmp 105 96 rfl (by decide) rfl d2_93 rfl (fun (hj24 : z1.toInt ≠ (10 : Int)) => ?_) (fun (hj24 : ¬ (z1.toInt ≠ (10 : Int))) => ?_)
              · rw [bumq_n (z := z1) (C := (bumq z0 (0 : Int32))) (by omega), wri_n (z := z1) (A := (wri z0 (List.replicate (bump z3 (bump z2 (bump z1 (bump z0 (0 : Int32))))).toNatClampNeg (.int (0 : Int32))) (0 : Int32) (0 : Int32))) (l := (bumq z0 (0 : Int32))) (i := (1 : Int32)) (by omega)] at jn24
                exact jn24
              · refine go_aloadN 97 rfl d2_96 rfl rfl ?_
                refine go_iload 99 rfl d2_97 rfl ?_
                refine go_iinc #[.val (.ref a1), .val (.int (bump z3 (bump z2 (bump z1 (bump z0 (0 : Int32)))))), .val (.int (0 : Int32)), .val (.ref a11), .val (.int ((bumq z0 (0 : Int32)) + (1 : Int32))), .val (.int (1 : Int32))] 102 rfl d2_99 rfl rfl ?_
                refine go_iload 104 rfl d2_102 rfl ?_
                refine go_iastore 1 105 rfl d2_104 rfl rfl (by (by_cases q0 : z0.toInt = 10 <;> by_cases q1 : z1.toInt = 10 <;> by_cases q2 : z2.toInt = 10 <;> by_cases q3 : z3.toInt = 10) <;> first | omega | decide | (simp only [bump, bumq, wri, q0, q1, q2, q3, if_true, if_false, eq_self, reduceIte]; decide)) (by (by_cases q0 : z0.toInt = 10 <;> by_cases q1 : z1.toInt = 10 <;> by_cases q2 : z2.toInt = 10 <;> by_cases q3 : z3.toInt = 10) <;> first | omega | decide | (simp only [bump, bumq, wri, q0, q1, q2, q3, if_true, if_false, eq_self, reduceIte]; decide)) ?_
                show Go B2_n4 Z a0 h0 _ 1 5 [ar a1 .byte [(.int z0), (.int z1), (.int z2), (.int z3)], ar a11 .int ((wri z0 (List.replicate (bump z3 (bump z2 (bump z1 (bump z0 (0 : Int32))))).toNatClampNeg (.int (0 : Int32))) (0 : Int32) (0 : Int32)).set (bumq z0 (0 : Int32)).toNatClampNeg (.int (1 : Int32)))] 105 #[.val (.ref a1), .val (.int (bump z3 (bump z2 (bump z1 (bump z0 (0 : Int32)))))), .val (.int (0 : Int32)), .val (.ref a11), .val (.int ((bumq z0 (0 : Int32)) + (1 : Int32))), .val (.int (1 : Int32))] []
                rw [bumq_p (z := z1) (C := (bumq z0 (0 : Int32))) (by omega), wri_p (z := z1) (A := (wri z0 (List.replicate (bump z3 (bump z2 (bump z1 (bump z0 (0 : Int32))))).toNatClampNeg (.int (0 : Int32))) (0 : Int32) (0 : Int32))) (l := (bumq z0 (0 : Int32))) (i := (1 : Int32)) (by omega)] at jn24
                exact jn24
            refine go_icmp 105 96 rfl (by decide) rfl d2_93 rfl (fun (hj23 : z0.toInt ≠ (10 : Int)) => ?_) (fun (hj23 : ¬ (z0.toInt ≠ (10 : Int))) => ?_)
            · rw [bumq_n (z := z0) (C := (0 : Int32)) (by omega), wri_n (z := z0) (A := (List.replicate (bump z3 (bump z2 (bump z1 (bump z0 (0 : Int32))))).toNatClampNeg (.int (0 : Int32)))) (l := (0 : Int32)) (i := (0 : Int32)) (by omega)] at jn23
              exact jn23
            · refine go_aloadN 97 rfl d2_96 rfl rfl ?_
              refine go_iload 99 rfl d2_97 rfl ?_
              refine go_iinc #[.val (.ref a1), .val (.int (bump z3 (bump z2 (bump z1 (bump z0 (0 : Int32)))))), .val (.int (0 : Int32)), .val (.ref a11), .val (.int (1 : Int32)), .val (.int (0 : Int32))] 102 rfl d2_99 rfl rfl ?_
              refine go_iload 104 rfl d2_102 rfl ?_
              refine go_iastore 1 105 rfl d2_104 rfl rfl (by (by_cases q0 : z0.toInt = 10 <;> by_cases q1 : z1.toInt = 10 <;> by_cases q2 : z2.toInt = 10 <;> by_cases q3 : z3.toInt = 10) <;> first | omega | decide | (simp only [bump, bumq, wri, q0, q1, q2, q3, if_true, if_false, eq_self, reduceIte]; decide)) (by (by_cases q0 : z0.toInt = 10 <;> by_cases q1 : z1.toInt = 10 <;> by_cases q2 : z2.toInt = 10 <;> by_cases q3 : z3.toInt = 10) <;> first | omega | decide | (simp only [bump, bumq, wri, q0, q1, q2, q3, if_true, if_false, eq_self, reduceIte]; decide)) ?_
              show Go B2_n4 Z a0 h0 _ 1 5 [ar a1 .byte [(.int z0), (.int z1), (.int z2), (.int z3)], ar a11 .int ((List.replicate (bump z3 (bump z2 (bump z1 (bump z0 (0 : Int32))))).toNatClampNeg (.int (0 : Int32))).set (0 : Int32).toNatClampNeg (.int (0 : Int32)))] 105 #[.val (.ref a1), .val (.int (bump z3 (bump z2 (bump z1 (bump z0 (0 : Int32)))))), .val (.int (0 : Int32)), .val (.ref a11), .val (.int (1 : Int32)), .val (.int (0 : Int32))] []
              rw [bumq_p (z := z0) (C := (0 : Int32)) (by omega), wri_p (z := z0) (A := (List.replicate (bump z3 (bump z2 (bump z1 (bump z0 (0 : Int32))))).toNatClampNeg (.int (0 : Int32)))) (l := (0 : Int32)) (i := (0 : Int32)) (by omega)] at jn23
              exact jn23
          · refine go_iconst (1 : Int32) 55 rfl d2_54 rfl ?_
            refine go_goto 59 (by decide) rfl d2_55 ?_
            refine go_istoreN #[.val (.ref a1), .val (.int (bump z3 (bump z2 (bump z1 (bump z0 (0 : Int32)))))), .val (.int (1 : Int32)), .val (.int (4 : Int32)), .val (.int (4 : Int32)), .val (.int z3)] 60 rfl d2_59 rfl rfl ?_
            refine go_iloadN 61 rfl d2_60 rfl ?_
            refine go_if 70 64 rfl (by decide) rfl d2_61 rfl (fun (hc61 : (1 : Int) = 0) => absurd hc61 (by decide)) (fun (hc61 : ¬ ((1 : Int) = 0)) => ?_)
            refine go_iloadN 65 rfl d2_64 rfl ?_
            refine go_iconst (1 : Int32) 66 rfl d2_65 rfl ?_
            refine go_iadd 67 rfl d2_66 rfl ?_
            refine go_goto 71 (by decide) rfl d2_67 ?_
            refine go_newarr 73 rfl d2_71 rfl (wd hw 6 rfl) (by (by_cases q0 : z0.toInt = 10 <;> by_cases q1 : z1.toInt = 10 <;> by_cases q2 : z2.toInt = 10 <;> by_cases q3 : z3.toInt = 10) <;> first | omega | decide | (simp only [bump, bumq, wri, q0, q1, q2, q3, if_true, if_false, eq_self, reduceIte]; decide)) 5 (by (by_cases q0 : z0.toInt = 10 <;> by_cases q1 : z1.toInt = 10 <;> by_cases q2 : z2.toInt = 10 <;> by_cases q3 : z3.toInt = 10) <;> first | omega | decide | (simp only [bump, bumq, wri, q0, q1, q2, q3, if_true, if_false, eq_self, reduceIte]; decide)) (by decide) (by decide) (by decide) (fun a15 => ?_)
            show Go B2_n4 Z a0 h0 _ 1 5 [ar a1 .byte [(.int z0), (.int z1), (.int z2), (.int z3)], ar a15 .int (List.replicate ((bump z3 (bump z2 (bump z1 (bump z0 (0 : Int32))))) + (1 : Int32)).toNatClampNeg (.int (0 : Int32)))] 73 #[.val (.ref a1), .val (.int (bump z3 (bump z2 (bump z1 (bump z0 (0 : Int32)))))), .val (.int (1 : Int32)), .val (.int (4 : Int32)), .val (.int (4 : Int32)), .val (.int z3)] [(.ref a15)]
            refine go_astoreN #[.val (.ref a1), .val (.int (bump z3 (bump z2 (bump z1 (bump z0 (0 : Int32)))))), .val (.int (1 : Int32)), .val (.ref a15), .val (.int (4 : Int32)), .val (.int z3)] 74 rfl d2_73 rfl rfl rfl ?_
            refine go_iconst (0 : Int32) 75 rfl d2_74 rfl ?_
            refine go_istore #[.val (.ref a1), .val (.int (bump z3 (bump z2 (bump z1 (bump z0 (0 : Int32)))))), .val (.int (1 : Int32)), .val (.ref a15), .val (.int (0 : Int32)), .val (.int z3)] 77 rfl d2_75 rfl rfl ?_
            refine go_iconst (0 : Int32) 78 rfl d2_77 rfl ?_
            refine go_istore #[.val (.ref a1), .val (.int (bump z3 (bump z2 (bump z1 (bump z0 (0 : Int32)))))), .val (.int (1 : Int32)), .val (.ref a15), .val (.int (0 : Int32)), .val (.int (0 : Int32))] 80 rfl d2_78 rfl rfl ?_
            refine go_iload 82 rfl d2_80 rfl ?_
            refine go_aloadN 83 rfl d2_82 rfl rfl ?_
            refine go_alen 0 84 rfl d2_83 rfl rfl ?_
            show Go B2_n4 Z a0 h0 _ 1 5 [ar a1 .byte [(.int z0), (.int z1), (.int z2), (.int z3)], ar a15 .int (List.replicate ((bump z3 (bump z2 (bump z1 (bump z0 (0 : Int32))))) + (1 : Int32)).toNatClampNeg (.int (0 : Int32)))] 84 #[.val (.ref a1), .val (.int (bump z3 (bump z2 (bump z1 (bump z0 (0 : Int32)))))), .val (.int (1 : Int32)), .val (.ref a15), .val (.int (0 : Int32)), .val (.int (0 : Int32))] [(.int (4 : Int32)), (.int (0 : Int32))]
            refine go_icmp 111 87 rfl (by decide) rfl d2_84 rfl (fun (hc84 : (4 : Int) ≤ (0 : Int)) => absurd hc84 (by decide)) (fun (hc84 : ¬ ((4 : Int) ≤ (0 : Int))) => ?_)
            refine go_aloadN 88 rfl d2_87 rfl rfl ?_
            refine go_iload 90 rfl d2_88 rfl ?_
            refine go_baload 91 rfl d2_90 rfl (Mo.el (i := 0) rfl (by decide) rfl) ?_
            refine go_bipush (10 : Int32) 93 rfl d2_91 rfl ?_
            have jn27 : Go B2_n4 Z a0 h0 (fun v ds => ∃ a12 a13 a14 a11 : Addr, Ret (some (.ref a12)) (mem53 a12 a13 a14 a1 a11 z0 z1 z2 z3) v ds) 1 5 [ar a1 .byte [(.int z0), (.int z1), (.int z2), (.int z3)], ar a15 .int (wri z0 (List.replicate ((bump z3 (bump z2 (bump z1 (bump z0 (0 : Int32))))) + (1 : Int32)).toNatClampNeg (.int (0 : Int32))) (0 : Int32) (0 : Int32))] 105 #[.val (.ref a1), .val (.int (bump z3 (bump z2 (bump z1 (bump z0 (0 : Int32)))))), .val (.int (1 : Int32)), .val (.ref a15), .val (.int (bumq z0 (0 : Int32))), .val (.int (0 : Int32))] [] := by
              refine go_iinc #[.val (.ref a1), .val (.int (bump z3 (bump z2 (bump z1 (bump z0 (0 : Int32)))))), .val (.int (1 : Int32)), .val (.ref a15), .val (.int (bumq z0 (0 : Int32))), .val (.int (1 : Int32))] 108 rfl d2_105 rfl rfl ?_
              refine go_goto 80 (by decide) rfl d2_108 ?_
              refine go_iload 82 rfl d2_80 rfl ?_
              refine go_aloadN 83 rfl d2_82 rfl rfl ?_
              refine go_alen 0 84 rfl d2_83 rfl rfl ?_
              show Go B2_n4 Z a0 h0 _ 1 5 [ar a1 .byte [(.int z0), (.int z1), (.int z2), (.int z3)], ar a15 .int (wri z0 (List.replicate ((bump z3 (bump z2 (bump z1 (bump z0 (0 : Int32))))) + (1 : Int32)).toNatClampNeg (.int (0 : Int32))) (0 : Int32) (0 : Int32))] 84 #[.val (.ref a1), .val (.int (bump z3 (bump z2 (bump z1 (bump z0 (0 : Int32)))))), .val (.int (1 : Int32)), .val (.ref a15), .val (.int (bumq z0 (0 : Int32))), .val (.int (1 : Int32))] [(.int (4 : Int32)), (.int (1 : Int32))]
              refine go_icmp 111 87 rfl (by decide) rfl d2_84 rfl (fun (hc84 : (4 : Int) ≤ (1 : Int)) => absurd hc84 (by decide)) (fun (hc84 : ¬ ((4 : Int) ≤ (1 : Int))) => ?_)
              refine go_aloadN 88 rfl d2_87 rfl rfl ?_
              refine go_iload 90 rfl d2_88 rfl ?_
              refine go_baload 91 rfl d2_90 rfl (Mo.el (i := 0) rfl (by decide) rfl) ?_
              refine go_bipush (10 : Int32) 93 rfl d2_91 rfl ?_
              have jn28 : Go B2_n4 Z a0 h0 (fun v ds => ∃ a12 a13 a14 a11 : Addr, Ret (some (.ref a12)) (mem53 a12 a13 a14 a1 a11 z0 z1 z2 z3) v ds) 1 5 [ar a1 .byte [(.int z0), (.int z1), (.int z2), (.int z3)], ar a15 .int (wri z1 (wri z0 (List.replicate ((bump z3 (bump z2 (bump z1 (bump z0 (0 : Int32))))) + (1 : Int32)).toNatClampNeg (.int (0 : Int32))) (0 : Int32) (0 : Int32)) (bumq z0 (0 : Int32)) (1 : Int32))] 105 #[.val (.ref a1), .val (.int (bump z3 (bump z2 (bump z1 (bump z0 (0 : Int32)))))), .val (.int (1 : Int32)), .val (.ref a15), .val (.int (bumq z1 (bumq z0 (0 : Int32)))), .val (.int (1 : Int32))] [] := by
                refine go_iinc #[.val (.ref a1), .val (.int (bump z3 (bump z2 (bump z1 (bump z0 (0 : Int32)))))), .val (.int (1 : Int32)), .val (.ref a15), .val (.int (bumq z1 (bumq z0 (0 : Int32)))), .val (.int (2 : Int32))] 108 rfl d2_105 rfl rfl ?_
                refine go_goto 80 (by decide) rfl d2_108 ?_
                refine go_iload 82 rfl d2_80 rfl ?_
                refine go_aloadN 83 rfl d2_82 rfl rfl ?_
                refine go_alen 0 84 rfl d2_83 rfl rfl ?_
                show Go B2_n4 Z a0 h0 _ 1 5 [ar a1 .byte [(.int z0), (.int z1), (.int z2), (.int z3)], ar a15 .int (wri z1 (wri z0 (List.replicate ((bump z3 (bump z2 (bump z1 (bump z0 (0 : Int32))))) + (1 : Int32)).toNatClampNeg (.int (0 : Int32))) (0 : Int32) (0 : Int32)) (bumq z0 (0 : Int32)) (1 : Int32))] 84 #[.val (.ref a1), .val (.int (bump z3 (bump z2 (bump z1 (bump z0 (0 : Int32)))))), .val (.int (1 : Int32)), .val (.ref a15), .val (.int (bumq z1 (bumq z0 (0 : Int32)))), .val (.int (2 : Int32))] [(.int (4 : Int32)), (.int (2 : Int32))]
                refine go_icmp 111 87 rfl (by decide) rfl d2_84 rfl (fun (hc84 : (4 : Int) ≤ (2 : Int)) => absurd hc84 (by decide)) (fun (hc84 : ¬ ((4 : Int) ≤ (2 : Int))) => ?_)
                refine go_aloadN 88 rfl d2_87 rfl rfl ?_
                refine go_iload 90 rfl d2_88 rfl ?_
                refine go_baload 91 rfl d2_90 rfl (Mo.el (i := 0) rfl (by decide) rfl) ?_
                refine go_bipush (10 : Int32) 93 rfl d2_91 rfl ?_
                have jn29 : Go B2_n4 Z a0 h0 (fun v ds => ∃ a12 a13 a14 a11 : Addr, Ret (some (.ref a12)) (mem53 a12 a13 a14 a1 a11 z0 z1 z2 z3) v ds) 1 5 [ar a1 .byte [(.int z0), (.int z1), (.int z2), (.int z3)], ar a15 .int (wri z2 (wri z1 (wri z0 (List.replicate ((bump z3 (bump z2 (bump z1 (bump z0 (0 : Int32))))) + (1 : Int32)).toNatClampNeg (.int (0 : Int32))) (0 : Int32) (0 : Int32)) (bumq z0 (0 : Int32)) (1 : Int32)) (bumq z1 (bumq z0 (0 : Int32))) (2 : Int32))] 105 #[.val (.ref a1), .val (.int (bump z3 (bump z2 (bump z1 (bump z0 (0 : Int32)))))), .val (.int (1 : Int32)), .val (.ref a15), .val (.int (bumq z2 (bumq z1 (bumq z0 (0 : Int32))))), .val (.int (2 : Int32))] [] := by
                  refine go_iinc #[.val (.ref a1), .val (.int (bump z3 (bump z2 (bump z1 (bump z0 (0 : Int32)))))), .val (.int (1 : Int32)), .val (.ref a15), .val (.int (bumq z2 (bumq z1 (bumq z0 (0 : Int32))))), .val (.int (3 : Int32))] 108 rfl d2_105 rfl rfl ?_
                  refine go_goto 80 (by decide) rfl d2_108 ?_
                  refine go_iload 82 rfl d2_80 rfl ?_
                  refine go_aloadN 83 rfl d2_82 rfl rfl ?_
                  refine go_alen 0 84 rfl d2_83 rfl rfl ?_
                  show Go B2_n4 Z a0 h0 _ 1 5 [ar a1 .byte [(.int z0), (.int z1), (.int z2), (.int z3)], ar a15 .int (wri z2 (wri z1 (wri z0 (List.replicate ((bump z3 (bump z2 (bump z1 (bump z0 (0 : Int32))))) + (1 : Int32)).toNatClampNeg (.int (0 : Int32))) (0 : Int32) (0 : Int32)) (bumq z0 (0 : Int32)) (1 : Int32)) (bumq z1 (bumq z0 (0 : Int32))) (2 : Int32))] 84 #[.val (.ref a1), .val (.int (bump z3 (bump z2 (bump z1 (bump z0 (0 : Int32)))))), .val (.int (1 : Int32)), .val (.ref a15), .val (.int (bumq z2 (bumq z1 (bumq z0 (0 : Int32))))), .val (.int (3 : Int32))] [(.int (4 : Int32)), (.int (3 : Int32))]
                  refine go_icmp 111 87 rfl (by decide) rfl d2_84 rfl (fun (hc84 : (4 : Int) ≤ (3 : Int)) => absurd hc84 (by decide)) (fun (hc84 : ¬ ((4 : Int) ≤ (3 : Int))) => ?_)
                  refine go_aloadN 88 rfl d2_87 rfl rfl ?_
                  refine go_iload 90 rfl d2_88 rfl ?_
                  refine go_baload 91 rfl d2_90 rfl (Mo.el (i := 0) rfl (by decide) rfl) ?_
                  refine go_bipush (10 : Int32) 93 rfl d2_91 rfl ?_
                  have jn30 : Go B2_n4 Z a0 h0 (fun v ds => ∃ a12 a13 a14 a11 : Addr, Ret (some (.ref a12)) (mem53 a12 a13 a14 a1 a11 z0 z1 z2 z3) v ds) 1 5 [ar a1 .byte [(.int z0), (.int z1), (.int z2), (.int z3)], ar a15 .int (wri z3 (wri z2 (wri z1 (wri z0 (List.replicate ((bump z3 (bump z2 (bump z1 (bump z0 (0 : Int32))))) + (1 : Int32)).toNatClampNeg (.int (0 : Int32))) (0 : Int32) (0 : Int32)) (bumq z0 (0 : Int32)) (1 : Int32)) (bumq z1 (bumq z0 (0 : Int32))) (2 : Int32)) (bumq z2 (bumq z1 (bumq z0 (0 : Int32)))) (3 : Int32))] 105 #[.val (.ref a1), .val (.int (bump z3 (bump z2 (bump z1 (bump z0 (0 : Int32)))))), .val (.int (1 : Int32)), .val (.ref a15), .val (.int (bumq z3 (bumq z2 (bumq z1 (bumq z0 (0 : Int32)))))), .val (.int (3 : Int32))] [] := by
                    refine go_iinc #[.val (.ref a1), .val (.int (bump z3 (bump z2 (bump z1 (bump z0 (0 : Int32)))))), .val (.int (1 : Int32)), .val (.ref a15), .val (.int (bumq z3 (bumq z2 (bumq z1 (bumq z0 (0 : Int32)))))), .val (.int (4 : Int32))] 108 rfl d2_105 rfl rfl ?_
                    refine go_goto 80 (by decide) rfl d2_108 ?_
                    refine go_iload 82 rfl d2_80 rfl ?_
                    refine go_aloadN 83 rfl d2_82 rfl rfl ?_
                    refine go_alen 0 84 rfl d2_83 rfl rfl ?_
                    show Go B2_n4 Z a0 h0 _ 1 5 [ar a1 .byte [(.int z0), (.int z1), (.int z2), (.int z3)], ar a15 .int (wri z3 (wri z2 (wri z1 (wri z0 (List.replicate ((bump z3 (bump z2 (bump z1 (bump z0 (0 : Int32))))) + (1 : Int32)).toNatClampNeg (.int (0 : Int32))) (0 : Int32) (0 : Int32)) (bumq z0 (0 : Int32)) (1 : Int32)) (bumq z1 (bumq z0 (0 : Int32))) (2 : Int32)) (bumq z2 (bumq z1 (bumq z0 (0 : Int32)))) (3 : Int32))] 84 #[.val (.ref a1), .val (.int (bump z3 (bump z2 (bump z1 (bump z0 (0 : Int32)))))), .val (.int (1 : Int32)), .val (.ref a15), .val (.int (bumq z3 (bumq z2 (bumq z1 (bumq z0 (0 : Int32)))))), .val (.int (4 : Int32))] [(.int (4 : Int32)), (.int (4 : Int32))]
                    refine go_icmp 111 87 rfl (by decide) rfl d2_84 rfl (fun (hc84 : (4 : Int) ≤ (4 : Int)) => ?_) (fun (hc84 : ¬ ((4 : Int) ≤ (4 : Int))) => absurd hc84 (by decide))
                    refine go_iloadN 112 rfl d2_111 rfl ?_
                    refine go_if 121 115 rfl (by decide) rfl d2_112 rfl (fun (hc112 : (1 : Int) = 0) => absurd hc112 (by decide)) (fun (hc112 : ¬ ((1 : Int) = 0)) => ?_)
                    refine go_aloadN 116 rfl d2_115 rfl rfl ?_
                    refine go_iload 118 rfl d2_116 rfl ?_
                    refine go_aloadN 119 rfl d2_118 rfl rfl ?_
                    refine go_alen 0 120 rfl d2_119 rfl rfl ?_
                    show Go B2_n4 Z a0 h0 _ 1 5 [ar a1 .byte [(.int z0), (.int z1), (.int z2), (.int z3)], ar a15 .int (wri z3 (wri z2 (wri z1 (wri z0 (List.replicate ((bump z3 (bump z2 (bump z1 (bump z0 (0 : Int32))))) + (1 : Int32)).toNatClampNeg (.int (0 : Int32))) (0 : Int32) (0 : Int32)) (bumq z0 (0 : Int32)) (1 : Int32)) (bumq z1 (bumq z0 (0 : Int32))) (2 : Int32)) (bumq z2 (bumq z1 (bumq z0 (0 : Int32)))) (3 : Int32))] 120 #[.val (.ref a1), .val (.int (bump z3 (bump z2 (bump z1 (bump z0 (0 : Int32)))))), .val (.int (1 : Int32)), .val (.ref a15), .val (.int (bumq z3 (bumq z2 (bumq z1 (bumq z0 (0 : Int32)))))), .val (.int (4 : Int32))] [(.int (4 : Int32)), (.int (bumq z3 (bumq z2 (bumq z1 (bumq z0 (0 : Int32)))))), (.ref a15)]
                    refine go_iastore 1 121 rfl d2_120 rfl rfl (by (by_cases q0 : z0.toInt = 10 <;> by_cases q1 : z1.toInt = 10 <;> by_cases q2 : z2.toInt = 10 <;> by_cases q3 : z3.toInt = 10) <;> first | omega | decide | (simp only [bump, bumq, wri, q0, q1, q2, q3, if_true, if_false, eq_self, reduceIte]; decide)) (by (by_cases q0 : z0.toInt = 10 <;> by_cases q1 : z1.toInt = 10 <;> by_cases q2 : z2.toInt = 10 <;> by_cases q3 : z3.toInt = 10) <;> first | omega | decide | (simp only [bump, bumq, wri, q0, q1, q2, q3, if_true, if_false, eq_self, reduceIte]; decide)) ?_
                    show Go B2_n4 Z a0 h0 _ 1 5 (mem52 a1 z0 z1 z2 z3 a15) 121 #[.val (.ref a1), .val (.int (bump z3 (bump z2 (bump z1 (bump z0 (0 : Int32)))))), .val (.int (1 : Int32)), .val (.ref a15), .val (.int (bumq z3 (bumq z2 (bumq z1 (bumq z0 (0 : Int32)))))), .val (.int (4 : Int32))] []
                    show Go B2_n4 Z a0 h0 _ 1 5 [ar a1 .byte [(.int z0), (.int z1), (.int z2), (.int z3)], ar a15 .int ((wri z3 (wri z2 (wri z1 (wri z0 (List.replicate ((bump z3 (bump z2 (bump z1 (bump z0 (0 : Int32))))) + (1 : Int32)).toNatClampNeg (.int (0 : Int32))) (0 : Int32) (0 : Int32)) (bumq z0 (0 : Int32)) (1 : Int32)) (bumq z1 (bumq z0 (0 : Int32))) (2 : Int32)) (bumq z2 (bumq z1 (bumq z0 (0 : Int32)))) (3 : Int32)).set (bumq z3 (bumq z2 (bumq z1 (bumq z0 (0 : Int32))))).toNatClampNeg (.int (4 : Int32)))] 121 #[.val (.ref a1), .val (.int (bump z3 (bump z2 (bump z1 (bump z0 (0 : Int32)))))), .val (.int (1 : Int32)), .val (.ref a15), .val (.int (bumq z3 (bumq z2 (bumq z1 (bumq z0 (0 : Int32)))))), .val (.int (4 : Int32))] []
                    generalize eBK : ((wri z3 (wri z2 (wri z1 (wri z0 (List.replicate ((bump z3 (bump z2 (bump z1 (bump z0 (0 : Int32))))) + (1 : Int32)).toNatClampNeg (.int (0 : Int32))) (0 : Int32) (0 : Int32)) (bumq z0 (0 : Int32)) (1 : Int32)) (bumq z1 (bumq z0 (0 : Int32))) (2 : Int32)) (bumq z2 (bumq z1 (bumq z0 (0 : Int32)))) (3 : Int32)).set (bumq z3 (bumq z2 (bumq z1 (bumq z0 (0 : Int32))))).toNatClampNeg (.int (4 : Int32))) = v93
                    refine go_new 124 rfl d2_121 (wd hw 11 rfl) (wd hw 12 rfl) (wd hw 9 rfl) (by decide) (by decide) [("com/example/clauseline/clauseline/model/Document", "recent", "[Lcom/example/clauseline/clauseline/model/Line;", .null), ("com/example/clauseline/clauseline/model/Document", "lines", "Ljava/util/List;", .null), ("com/example/clauseline/clauseline/model/Document", "bytes", "[B", .null), ("com/example/clauseline/clauseline/model/Document", "breaks", "[I", .null)] ⟨⟨Or.inr (wd hw 22 rfl), _, rfl, rfl⟩, ⟨⟨Or.inr (wd hw 46 rfl), _, rfl, rfl⟩, ⟨⟨Or.inr (wd hw 48 rfl), _, rfl, rfl⟩, ⟨⟨Or.inr (wd hw 50 rfl), _, rfl, rfl⟩, trivial⟩⟩⟩⟩ (by decide) (fun a16 => ?_)
                    show Go B2_n4 Z a0 h0 _ 2 9 (mem43 a1 z0 z1 z2 z3 a15 v93 a16) 124 #[.val (.ref a1), .val (.int (bump z3 (bump z2 (bump z1 (bump z0 (0 : Int32)))))), .val (.int (1 : Int32)), .val (.ref a15), .val (.int (bumq z3 (bumq z2 (bumq z1 (bumq z0 (0 : Int32)))))), .val (.int (4 : Int32))] [(.ref a16)]
                    refine go_dup 125 rfl d2_124 rfl rfl ?_
                    refine go_aloadN 126 rfl d2_125 rfl rfl ?_
                    refine go_aloadN 127 rfl d2_126 rfl rfl ?_
                    refine go_callI 130 rfl d2_127 rfl (wd hw 13 rfl) (wd hw 14 rfl) (wd hw 9 rfl) (wd hw 15 rfl) (by decide) (mt35 Z a0 hw h0 a1 z0 z1 z2 z3 a15 v93 a16) (argsL := [(.ref a1), (.ref a15)]) (rest := [(.ref a16)]) rfl (ret := none) (ps := [(.array .byte), (.array .int)]) (by decide +kernel) rfl rfl 1 rfl (by decide) (by decide) (by decide) (by decide) ?_
                    rintro _ _ ⟨a17, a18, rfl, rfl⟩
                    show Go B2_n4 Z a0 h0 _ 4 27 (mem51 a16 a17 a18 a1 a15 z0 z1 z2 z3 v93) 130 #[.val (.ref a1), .val (.int (bump z3 (bump z2 (bump z1 (bump z0 (0 : Int32)))))), .val (.int (1 : Int32)), .val (.ref a15), .val (.int (bumq z3 (bumq z2 (bumq z1 (bumq z0 (0 : Int32)))))), .val (.int (4 : Int32))] [(.ref a16)]
                    exact go_areturn d2_130 rfl rfl rfl rfl (by decide) (by decide) (by have eb : bk4 z0 z1 z2 z3 = v93 := (by unfold bk4; rw [if_neg (by omega)]; exact eBK); subst eb; exact ⟨a16, a17, a18, a15, rfl, rfl⟩)
                  refine go_icmp 105 96 rfl (by decide) rfl d2_93 rfl (fun (hj30 : z3.toInt ≠ (10 : Int)) => ?_) (fun (hj30 : ¬ (z3.toInt ≠ (10 : Int))) => ?_)
                  · rw [bumq_n (z := z3) (C := (bumq z2 (bumq z1 (bumq z0 (0 : Int32))))) (by omega), wri_n (z := z3) (A := (wri z2 (wri z1 (wri z0 (List.replicate ((bump z3 (bump z2 (bump z1 (bump z0 (0 : Int32))))) + (1 : Int32)).toNatClampNeg (.int (0 : Int32))) (0 : Int32) (0 : Int32)) (bumq z0 (0 : Int32)) (1 : Int32)) (bumq z1 (bumq z0 (0 : Int32))) (2 : Int32))) (l := (bumq z2 (bumq z1 (bumq z0 (0 : Int32))))) (i := (3 : Int32)) (by omega)] at jn30
                    exact jn30
                  · refine go_aloadN 97 rfl d2_96 rfl rfl ?_
                    refine go_iload 99 rfl d2_97 rfl ?_
                    refine go_iinc #[.val (.ref a1), .val (.int (bump z3 (bump z2 (bump z1 (bump z0 (0 : Int32)))))), .val (.int (1 : Int32)), .val (.ref a15), .val (.int ((bumq z2 (bumq z1 (bumq z0 (0 : Int32)))) + (1 : Int32))), .val (.int (3 : Int32))] 102 rfl d2_99 rfl rfl ?_
                    refine go_iload 104 rfl d2_102 rfl ?_
                    refine go_iastore 1 105 rfl d2_104 rfl rfl (by (by_cases q0 : z0.toInt = 10 <;> by_cases q1 : z1.toInt = 10 <;> by_cases q2 : z2.toInt = 10 <;> by_cases q3 : z3.toInt = 10) <;> first | omega | decide | (simp only [bump, bumq, wri, q0, q1, q2, q3, if_true, if_false, eq_self, reduceIte]; decide)) (by (by_cases q0 : z0.toInt = 10 <;> by_cases q1 : z1.toInt = 10 <;> by_cases q2 : z2.toInt = 10 <;> by_cases q3 : z3.toInt = 10) <;> first | omega | decide | (simp only [bump, bumq, wri, q0, q1, q2, q3, if_true, if_false, eq_self, reduceIte]; decide)) ?_
                    show Go B2_n4 Z a0 h0 _ 1 5 [ar a1 .byte [(.int z0), (.int z1), (.int z2), (.int z3)], ar a15 .int ((wri z2 (wri z1 (wri z0 (List.replicate ((bump z3 (bump z2 (bump z1 (bump z0 (0 : Int32))))) + (1 : Int32)).toNatClampNeg (.int (0 : Int32))) (0 : Int32) (0 : Int32)) (bumq z0 (0 : Int32)) (1 : Int32)) (bumq z1 (bumq z0 (0 : Int32))) (2 : Int32)).set (bumq z2 (bumq z1 (bumq z0 (0 : Int32)))).toNatClampNeg (.int (3 : Int32)))] 105 #[.val (.ref a1), .val (.int (bump z3 (bump z2 (bump z1 (bump z0 (0 : Int32)))))), .val (.int (1 : Int32)), .val (.ref a15), .val (.int ((bumq z2 (bumq z1 (bumq z0 (0 : Int32)))) + (1 : Int32))), .val (.int (3 : Int32))] []
                    rw [bumq_p (z := z3) (C := (bumq z2 (bumq z1 (bumq z0 (0 : Int32))))) (by omega), wri_p (z := z3) (A := (wri z2 (wri z1 (wri z0 (List.replicate ((bump z3 (bump z2 (bump z1 (bump z0 (0 : Int32))))) + (1 : Int32)).toNatClampNeg (.int (0 : Int32))) (0 : Int32) (0 : Int32)) (bumq z0 (0 : Int32)) (1 : Int32)) (bumq z1 (bumq z0 (0 : Int32))) (2 : Int32))) (l := (bumq z2 (bumq z1 (bumq z0 (0 : Int32))))) (i := (3 : Int32)) (by omega)] at jn30
                    exact jn30
                refine go_icmp 105 96 rfl (by decide) rfl d2_93 rfl (fun (hj29 : z2.toInt ≠ (10 : Int)) => ?_) (fun (hj29 : ¬ (z2.toInt ≠ (10 : Int))) => ?_)
                · rw [bumq_n (z := z2) (C := (bumq z1 (bumq z0 (0 : Int32)))) (by omega), wri_n (z := z2) (A := (wri z1 (wri z0 (List.replicate ((bump z3 (bump z2 (bump z1 (bump z0 (0 : Int32))))) + (1 : Int32)).toNatClampNeg (.int (0 : Int32))) (0 : Int32) (0 : Int32)) (bumq z0 (0 : Int32)) (1 : Int32))) (l := (bumq z1 (bumq z0 (0 : Int32)))) (i := (2 : Int32)) (by omega)] at jn29
                  exact jn29
                · refine go_aloadN 97 rfl d2_96 rfl rfl ?_
                  refine go_iload 99 rfl d2_97 rfl ?_
                  refine go_iinc #[.val (.ref a1), .val (.int (bump z3 (bump z2 (bump z1 (bump z0 (0 : Int32)))))), .val (.int (1 : Int32)), .val (.ref a15), .val (.int ((bumq z1 (bumq z0 (0 : Int32))) + (1 : Int32))), .val (.int (2 : Int32))] 102 rfl d2_99 rfl rfl ?_
                  refine go_iload 104 rfl d2_102 rfl ?_
                  refine go_iastore 1 105 rfl d2_104 rfl rfl (by (by_cases q0 : z0.toInt = 10 <;> by_cases q1 : z1.toInt = 10 <;> by_cases q2 : z2.toInt = 10 <;> by_cases q3 : z3.toInt = 10) <;> first | omega | decide | (simp only [bump, bumq, wri, q0, q1, q2, q3, if_true, if_false, eq_self, reduceIte]; decide)) (by (by_cases q0 : z0.toInt = 10 <;> by_cases q1 : z1.toInt = 10 <;> by_cases q2 : z2.toInt = 10 <;> by_cases q3 : z3.toInt = 10) <;> first | omega | decide | (simp only [bump, bumq, wri, q0, q1, q2, q3, if_true, if_false, eq_self, reduceIte]; decide)) ?_
                  show Go B2_n4 Z a0 h0 _ 1 5 [ar a1 .byte [(.int z0), (.int z1), (.int z2), (.int z3)], ar a15 .int ((wri z1 (wri z0 (List.replicate ((bump z3 (bump z2 (bump z1 (bump z0 (0 : Int32))))) + (1 : Int32)).toNatClampNeg (.int (0 : Int32))) (0 : Int32) (0 : Int32)) (bumq z0 (0 : Int32)) (1 : Int32)).set (bumq z1 (bumq z0 (0 : Int32))).toNatClampNeg (.int (2 : Int32)))] 105 #[.val (.ref a1), .val (.int (bump z3 (bump z2 (bump z1 (bump z0 (0 : Int32)))))), .val (.int (1 : Int32)), .val (.ref a15), .val (.int ((bumq z1 (bumq z0 (0 : Int32))) + (1 : Int32))), .val (.int (2 : Int32))] []
                  rw [bumq_p (z := z2) (C := (bumq z1 (bumq z0 (0 : Int32)))) (by omega), wri_p (z := z2) (A := (wri z1 (wri z0 (List.replicate ((bump z3 (bump z2 (bump z1 (bump z0 (0 : Int32))))) + (1 : Int32)).toNatClampNeg (.int (0 : Int32))) (0 : Int32) (0 : Int32)) (bumq z0 (0 : Int32)) (1 : Int32))) (l := (bumq z1 (bumq z0 (0 : Int32)))) (i := (2 : Int32)) (by omega)] at jn29
                  exact jn29
              refine go_icmp 105 96 rfl (by decide) rfl d2_93 rfl (fun (hj28 : z1.toInt ≠ (10 : Int)) => ?_) (fun (hj28 : ¬ (z1.toInt ≠ (10 : Int))) => ?_)
              · rw [bumq_n (z := z1) (C := (bumq z0 (0 : Int32))) (by omega), wri_n (z := z1) (A := (wri z0 (List.replicate ((bump z3 (bump z2 (bump z1 (bump z0 (0 : Int32))))) + (1 : Int32)).toNatClampNeg (.int (0 : Int32))) (0 : Int32) (0 : Int32))) (l := (bumq z0 (0 : Int32))) (i := (1 : Int32)) (by omega)] at jn28
                exact jn28
              · refine go_aloadN 97 rfl d2_96 rfl rfl ?_
                refine go_iload 99 rfl d2_97 rfl ?_
                refine go_iinc #[.val (.ref a1), .val (.int (bump z3 (bump z2 (bump z1 (bump z0 (0 : Int32)))))), .val (.int (1 : Int32)), .val (.ref a15), .val (.int ((bumq z0 (0 : Int32)) + (1 : Int32))), .val (.int (1 : Int32))] 102 rfl d2_99 rfl rfl ?_
                refine go_iload 104 rfl d2_102 rfl ?_
                refine go_iastore 1 105 rfl d2_104 rfl rfl (by (by_cases q0 : z0.toInt = 10 <;> by_cases q1 : z1.toInt = 10 <;> by_cases q2 : z2.toInt = 10 <;> by_cases q3 : z3.toInt = 10) <;> first | omega | decide | (simp only [bump, bumq, wri, q0, q1, q2, q3, if_true, if_false, eq_self, reduceIte]; decide)) (by (by_cases q0 : z0.toInt = 10 <;> by_cases q1 : z1.toInt = 10 <;> by_cases q2 : z2.toInt = 10 <;> by_cases q3 : z3.toInt = 10) <;> first | omega | decide | (simp only [bump, bumq, wri, q0, q1, q2, q3, if_true, if_false, eq_self, reduceIte]; decide)) ?_
                show Go B2_n4 Z a0 h0 _ 1 5 [ar a1 .byte [(.int z0), (.int z1), (.int z2), (.int z3)], ar a15 .int ((wri z0 (List.replicate ((bump z3 (bump z2 (bump z1 (bump z0 (0 : Int32))))) + (1 : Int32)).toNatClampNeg (.int (0 : Int32))) (0 : Int32) (0 : Int32)).set (bumq z0 (0 : Int32)).toNatClampNeg (.int (1 : Int32)))] 105 #[.val (.ref a1), .val (.int (bump z3 (bump z2 (bump z1 (bump z0 (0 : Int32)))))), .val (.int (1 : Int32)), .val (.ref a15), .val (.int ((bumq z0 (0 : Int32)) + (1 : Int32))), .val (.int (1 : Int32))] []
                rw [bumq_p (z := z1) (C := (bumq z0 (0 : Int32))) (by omega), wri_p (z := z1) (A := (wri z0 (List.replicate ((bump z3 (bump z2 (bump z1 (bump z0 (0 : Int32))))) + (1 : Int32)).toNatClampNeg (.int (0 : Int32))) (0 : Int32) (0 : Int32))) (l := (bumq z0 (0 : Int32))) (i := (1 : Int32)) (by omega)] at jn28
                exact jn28
            refine go_icmp 105 96 rfl (by decide) rfl d2_93 rfl (fun (hj27 : z0.toInt ≠ (10 : Int)) => ?_) (fun (hj27 : ¬ (z0.toInt ≠ (10 : Int))) => ?_)
            · rw [bumq_n (z := z0) (C := (0 : Int32)) (by omega), wri_n (z := z0) (A := (List.replicate ((bump z3 (bump z2 (bump z1 (bump z0 (0 : Int32))))) + (1 : Int32)).toNatClampNeg (.int (0 : Int32)))) (l := (0 : Int32)) (i := (0 : Int32)) (by omega)] at jn27
              exact jn27
            · refine go_aloadN 97 rfl d2_96 rfl rfl ?_
              refine go_iload 99 rfl d2_97 rfl ?_
              refine go_iinc #[.val (.ref a1), .val (.int (bump z3 (bump z2 (bump z1 (bump z0 (0 : Int32)))))), .val (.int (1 : Int32)), .val (.ref a15), .val (.int (1 : Int32)), .val (.int (0 : Int32))] 102 rfl d2_99 rfl rfl ?_
              refine go_iload 104 rfl d2_102 rfl ?_
              refine go_iastore 1 105 rfl d2_104 rfl rfl (by (by_cases q0 : z0.toInt = 10 <;> by_cases q1 : z1.toInt = 10 <;> by_cases q2 : z2.toInt = 10 <;> by_cases q3 : z3.toInt = 10) <;> first | omega | decide | (simp only [bump, bumq, wri, q0, q1, q2, q3, if_true, if_false, eq_self, reduceIte]; decide)) (by (by_cases q0 : z0.toInt = 10 <;> by_cases q1 : z1.toInt = 10 <;> by_cases q2 : z2.toInt = 10 <;> by_cases q3 : z3.toInt = 10) <;> first | omega | decide | (simp only [bump, bumq, wri, q0, q1, q2, q3, if_true, if_false, eq_self, reduceIte]; decide)) ?_
              show Go B2_n4 Z a0 h0 _ 1 5 [ar a1 .byte [(.int z0), (.int z1), (.int z2), (.int z3)], ar a15 .int ((List.replicate ((bump z3 (bump z2 (bump z1 (bump z0 (0 : Int32))))) + (1 : Int32)).toNatClampNeg (.int (0 : Int32))).set (0 : Int32).toNatClampNeg (.int (0 : Int32)))] 105 #[.val (.ref a1), .val (.int (bump z3 (bump z2 (bump z1 (bump z0 (0 : Int32)))))), .val (.int (1 : Int32)), .val (.ref a15), .val (.int (1 : Int32)), .val (.int (0 : Int32))] []
              rw [bumq_p (z := z0) (C := (0 : Int32)) (by omega), wri_p (z := z0) (A := (List.replicate ((bump z3 (bump z2 (bump z1 (bump z0 (0 : Int32))))) + (1 : Int32)).toNatClampNeg (.int (0 : Int32)))) (l := (0 : Int32)) (i := (0 : Int32)) (by omega)] at jn27
              exact jn27
        refine go_icmp 32 29 rfl (by decide) rfl d2_26 rfl (fun (hj22 : z3.toInt ≠ (10 : Int)) => ?_) (fun (hj22 : ¬ (z3.toInt ≠ (10 : Int))) => ?_)
        · rw [bump_n (z := z3) (C := (bump z2 (bump z1 (bump z0 (0 : Int32))))) (by omega)] at jn22
          exact jn22
        · refine go_iinc #[.val (.ref a1), .val (.int ((bump z2 (bump z1 (bump z0 (0 : Int32)))) + (1 : Int32))), .val (.ref a1), .val (.int (4 : Int32)), .val (.int (3 : Int32)), .val (.int z3)] 32 rfl d2_29 rfl rfl ?_
          rw [bump_p (z := z3) (C := (bump z2 (bump z1 (bump z0 (0 : Int32))))) (by omega)] at jn22
          exact jn22
      refine go_icmp 32 29 rfl (by decide) rfl d2_26 rfl (fun (hj21 : z2.toInt ≠ (10 : Int)) => ?_) (fun (hj21 : ¬ (z2.toInt ≠ (10 : Int))) => ?_)
      · rw [bump_n (z := z2) (C := (bump z1 (bump z0 (0 : Int32)))) (by omega)] at jn21
        exact jn21
      · refine go_iinc #[.val (.ref a1), .val (.int ((bump z1 (bump z0 (0 : Int32))) + (1 : Int32))), .val (.ref a1), .val (.int (4 : Int32)), .val (.int (2 : Int32)), .val (.int z2)] 32 rfl d2_29 rfl rfl ?_
        rw [bump_p (z := z2) (C := (bump z1 (bump z0 (0 : Int32)))) (by omega)] at jn21
        exact jn21
    refine go_icmp 32 29 rfl (by decide) rfl d2_26 rfl (fun (hj20 : z1.toInt ≠ (10 : Int)) => ?_) (fun (hj20 : ¬ (z1.toInt ≠ (10 : Int))) => ?_)
    · rw [bump_n (z := z1) (C := (bump z0 (0 : Int32))) (by omega)] at jn20
      exact jn20
    · refine go_iinc #[.val (.ref a1), .val (.int ((bump z0 (0 : Int32)) + (1 : Int32))), .val (.ref a1), .val (.int (4 : Int32)), .val (.int (1 : Int32)), .val (.int z1)] 32 rfl d2_29 rfl rfl ?_
      rw [bump_p (z := z1) (C := (bump z0 (0 : Int32))) (by omega)] at jn20
      exact jn20
  refine go_icmp 32 29 rfl (by decide) rfl d2_26 rfl (fun (hj19 : z0.toInt ≠ (10 : Int)) => ?_) (fun (hj19 : ¬ (z0.toInt ≠ (10 : Int))) => ?_)
  · rw [bump_n (z := z0) (C := (0 : Int32)) (by omega)] at jn19
    exact jn19
  · refine go_iinc #[.val (.ref a1), .val (.int (1 : Int32)), .val (.ref a1), .val (.int (4 : Int32)), .val (.int (0 : Int32)), .val (.int z0)] 32 rfl d2_29 rfl rfl ?_
    rw [bump_p (z := z0) (C := (0 : Int32)) (by omega)] at jn19
    exact jn19
theorem d16_0 : decode jdk_41_method_11_code 0 = .ok (.iload_n 0, 1) := by decide +kernel
theorem d16_1 : decode jdk_41_method_11_code 1 = .ok (.ifCond .lt 8, 3) := by decide +kernel
theorem d16_4 : decode jdk_41_method_11_code 4 = .ok (.iload_n 0, 1) := by decide +kernel
theorem d16_5 : decode jdk_41_method_11_code 5 = .ok (.iload_n 1, 1) := by decide +kernel
theorem d16_6 : decode jdk_41_method_11_code 6 = .ok (.if_icmp .lt 10, 3) := by decide +kernel
theorem d16_16 : decode jdk_41_method_11_code 16 = .ok (.iload_n 0, 1) := by decide +kernel
theorem d16_17 : decode jdk_41_method_11_code 17 = .ok (.ireturn, 1) := by decide +kernel
theorem pn16 : plainFor (⟨"jdk/internal/util/Preconditions", "checkIndex", "(IILjava/util/function/BiFunction;)I"⟩ : MethodName) = true := by first | (apply plainFor_of_name; simp [plainName, overriddenIn]; done) | decide +kernel
def B16_39 : Bdy := (⟨"jdk/internal/util/Preconditions", "checkIndex", "(IILjava/util/function/BiFunction;)I"⟩, jdk_41_method_11_code, 3, (some .int), ({ frames := 0, cells := 0, slots := 0, locals := 0 } : Room))
set_option maxRecDepth 65536 in
set_option maxHeartbeats 4000000 in
theorem mt39 (Z : State) (a0 : Array Value) (hw : ∀ d ∈ tables_1, d.before a0 Z = true) (h0 : Heap) (v93 v94 : List Value) (p71 p73 : Int32) (hl : (0 : Int) < v93.length.toInt32.toInt) (he : v93[0]? = some (.int p71)) (hy : (0 : Int32).toInt < p71.toInt → ¬ (p71 - (1 : Int32)) < 0 ∧ v94[(p71 - (1 : Int32)).toNatClampNeg]? = some (.int p73)) :
    Met B16_39 Z a0 h0 #[(.int (0 : Int32)), (.int (v93.length.toInt32)), .null] [] (Ret (some (.int (0 : Int32))) []) := by
  refine Met.of pn16 (ls := #[.val (.int (0 : Int32)), .val (.int (v93.length.toInt32)), .val .null]) (fun m => by first | (simp [entryFrame, mkF, argsToLocals, Value.category, B16_39]; done) | rfl) ?_
  show Go B16_39 Z a0 h0 _ 0 0 [] 0 #[.val (.int (0 : Int32)), .val (.int (v93.length.toInt32)), .val .null] []
  refine go_iloadN 1 rfl d16_0 rfl ?_
  refine go_if 9 4 rfl (by decide) rfl d16_1 rfl (fun (hc1 : (0 : Int) < 0) => absurd hc1 (by decide)) (fun (hc1 : ¬ ((0 : Int) < 0)) => ?_)
  refine go_iloadN 5 rfl d16_4 rfl ?_
  refine go_iloadN 6 rfl d16_5 rfl ?_
  refine go_icmp 16 9 rfl (by decide) rfl d16_6 rfl (fun (hc6 : (0 : Int) < (v93.length.toInt32).toInt) => ?_) (fun (hc6 : ¬ ((0 : Int) < (v93.length.toInt32).toInt)) => absurd hc6 (by omega))
  refine go_iloadN 17 rfl d16_16 rfl ?_
  exact go_ireturn d16_17 rfl (Or.inl rfl) rfl rfl (by decide) (by decide) ⟨rfl, rfl⟩
theorem d15_0 : decode jdk_31_method_17_code 0 = .ok (.iload_n 0, 1) := by decide +kernel
theorem d15_1 : decode jdk_31_method_17_code 1 = .ok (.iload_n 1, 1) := by decide +kernel
theorem d15_2 : decode jdk_31_method_17_code 2 = .ok (.aconst_null, 1) := by decide +kernel
theorem d15_3 : decode jdk_31_method_17_code 3 = .ok (.invokestatic 105, 3) := by decide +kernel
theorem d15_6 : decode jdk_31_method_17_code 6 = .ok (.ireturn, 1) := by decide +kernel
theorem pn15 : plainFor (⟨"java/util/Objects", "checkIndex", "(II)I"⟩ : MethodName) = true := by first | (apply plainFor_of_name; simp [plainName, overriddenIn]; done) | decide +kernel
def B15_38 : Bdy := (⟨"java/util/Objects", "checkIndex", "(II)I"⟩, jdk_31_method_17_code, 2, (some .int), ({ frames := 1, cells := 0, slots := 0, locals := 14 } : Room))
set_option maxRecDepth 65536 in
set_option maxHeartbeats 4000000 in
theorem mt38 (Z : State) (a0 : Array Value) (hw : ∀ d ∈ tables_1, d.before a0 Z = true) (h0 : Heap) (v93 v94 : List Value) (p71 p73 : Int32) (hl : (0 : Int) < v93.length.toInt32.toInt) (he : v93[0]? = some (.int p71)) (hy : (0 : Int32).toInt < p71.toInt → ¬ (p71 - (1 : Int32)) < 0 ∧ v94[(p71 - (1 : Int32)).toNatClampNeg]? = some (.int p73)) :
    Met B15_38 Z a0 h0 #[(.int (0 : Int32)), (.int (v93.length.toInt32))] [] (Ret (some (.int (0 : Int32))) []) := by
  refine Met.of pn15 (ls := #[.val (.int (0 : Int32)), .val (.int (v93.length.toInt32))]) (fun m => by first | (simp [entryFrame, mkF, argsToLocals, Value.category, B15_38]; done) | rfl) ?_
  show Go B15_38 Z a0 h0 _ 0 0 [] 0 #[.val (.int (0 : Int32)), .val (.int (v93.length.toInt32))] []
  refine go_iloadN 1 rfl d15_0 rfl ?_
  refine go_iloadN 2 rfl d15_1 rfl ?_
  refine go_aconstNull 3 rfl d15_2 ?_
  refine go_callS 6 rfl d15_3 (wd hw 94 rfl) (wd hw 95 rfl) (wd hw 96 rfl) (wd hw 97 rfl) (by decide) (mt39 Z a0 hw h0 v93 v94 p71 p73 hl he hy) (argsL := [(.int (0 : Int32)), (.int (v93.length.toInt32)), .null]) (rest := []) rfl (ps := [.int, .int, (.object "java/util/function/BiFunction")]) (by decide +kernel) rfl rfl 0 rfl (by decide) (by decide) (by decide) (by decide) ?_
  rintro _ _ ⟨rfl, rfl⟩
  show Go B15_38 Z a0 h0 _ 0 0 [] 6 #[.val (.int (0 : Int32)), .val (.int (v93.length.toInt32))] [(.int (0 : Int32))]
  exact go_ireturn d15_6 rfl (Or.inl rfl) rfl rfl (by decide) (by decide) ⟨rfl, rfl⟩
theorem d17_0 : decode prog_16_method_7_code 0 = .ok (.iload_n 1, 1) := by decide +kernel
theorem d17_1 : decode prog_16_method_7_code 1 = .ok (.ifCond .ne 7, 3) := by decide +kernel
theorem d17_4 : decode prog_16_method_7_code 4 = .ok (.iconst 0, 1) := by decide +kernel
theorem d17_5 : decode prog_16_method_7_code 5 = .ok (.goto 13, 3) := by decide +kernel
theorem d17_18 : decode prog_16_method_7_code 18 = .ok (.ireturn, 1) := by decide +kernel
theorem pn17 : plainFor (⟨"com/example/clauseline/clauseline/model/Document", "start", "(I)I"⟩ : MethodName) = true := by first | (apply plainFor_of_name; simp [plainName, overriddenIn]; done) | decide +kernel
def B17_40 : Bdy := (⟨"com/example/clauseline/clauseline/model/Document", "start", "(I)I"⟩, prog_16_method_7_code, 2, (some .int), ({ frames := 0, cells := 0, slots := 0, locals := 0 } : Room))
set_option maxRecDepth 65536 in
set_option maxHeartbeats 4000000 in
theorem mt40 (Z : State) (a0 : Array Value) (hw : ∀ d ∈ tables_1, d.before a0 Z = true) (h0 : Heap) (v93 v94 : List Value) (p71 p73 : Int32) (hl : (0 : Int) < v93.length.toInt32.toInt) (he : v93[0]? = some (.int p71)) (hy : (0 : Int32).toInt < p71.toInt → ¬ (p71 - (1 : Int32)) < 0 ∧ v94[(p71 - (1 : Int32)).toNatClampNeg]? = some (.int p73)) (a5 : Addr) (a6 : Addr) (a7 : Addr) (a1 : Addr) (a4 : Addr) :
    Met B17_40 Z a0 h0 #[(.ref a5), (.int (0 : Int32))] (mem56 a5 a6 a7 a1 a4 v94 v93) (Ret (some (.int (0 : Int32))) (mem56 a5 a6 a7 a1 a4 v94 v93)) := by
  refine Met.of pn17 (ls := #[.val (.ref a5), .val (.int (0 : Int32))]) (fun m => by first | (simp [entryFrame, mkF, argsToLocals, Value.category, B17_40]; done) | rfl) ?_
  show Go B17_40 Z a0 h0 _ 0 0 (mem56 a5 a6 a7 a1 a4 v94 v93) 0 #[.val (.ref a5), .val (.int (0 : Int32))] []
  refine go_iloadN 1 rfl d17_0 rfl ?_
  refine go_if 8 4 rfl (by decide) rfl d17_1 rfl (fun (hc1 : (0 : Int) ≠ 0) => absurd hc1 (by decide)) (fun (hc1 : ¬ ((0 : Int) ≠ 0)) => ?_)
  refine go_iconst (0 : Int32) 5 rfl d17_4 rfl ?_
  refine go_goto 18 (by decide) rfl d17_5 ?_
  exact go_ireturn d17_18 rfl (Or.inl rfl) rfl rfl (by decide) (by decide) ⟨rfl, rfl⟩
theorem d18_0 : decode prog_16_method_8_code 0 = .ok (.aload_n 0, 1) := by decide +kernel
theorem d18_1 : decode prog_16_method_8_code 1 = .ok (.getfield 28, 3) := by decide +kernel
theorem d18_4 : decode prog_16_method_8_code 4 = .ok (.iload_n 1, 1) := by decide +kernel
theorem d18_5 : decode prog_16_method_8_code 5 = .ok (.iaload, 1) := by decide +kernel
theorem d18_6 : decode prog_16_method_8_code 6 = .ok (.istore_n 2, 1) := by decide +kernel
theorem d18_7 : decode prog_16_method_8_code 7 = .ok (.iload_n 2, 1) := by decide +kernel
theorem d18_8 : decode prog_16_method_8_code 8 = .ok (.aload_n 0, 1) := by decide +kernel
theorem d18_9 : decode prog_16_method_8_code 9 = .ok (.iload_n 1, 1) := by decide +kernel
theorem d18_10 : decode prog_16_method_8_code 10 = .ok (.invokevirtual 62, 3) := by decide +kernel
theorem d18_13 : decode prog_16_method_8_code 13 = .ok (.if_icmp .le 22, 3) := by decide +kernel
theorem d18_16 : decode prog_16_method_8_code 16 = .ok (.aload_n 0, 1) := by decide +kernel
theorem d18_17 : decode prog_16_method_8_code 17 = .ok (.getfield 24, 3) := by decide +kernel
theorem d18_20 : decode prog_16_method_8_code 20 = .ok (.iload_n 2, 1) := by decide +kernel
theorem d18_21 : decode prog_16_method_8_code 21 = .ok (.iconst 1, 1) := by decide +kernel
theorem d18_22 : decode prog_16_method_8_code 22 = .ok (.isub, 1) := by decide +kernel
theorem d18_23 : decode prog_16_method_8_code 23 = .ok (.baload, 1) := by decide +kernel
theorem d18_24 : decode prog_16_method_8_code 24 = .ok (.bipush 13, 2) := by decide +kernel
theorem d18_26 : decode prog_16_method_8_code 26 = .ok (.if_icmp .ne 9, 3) := by decide +kernel
theorem d18_29 : decode prog_16_method_8_code 29 = .ok (.iload_n 2, 1) := by decide +kernel
theorem d18_30 : decode prog_16_method_8_code 30 = .ok (.iconst 1, 1) := by decide +kernel
theorem d18_31 : decode prog_16_method_8_code 31 = .ok (.isub, 1) := by decide +kernel
theorem d18_32 : decode prog_16_method_8_code 32 = .ok (.goto 4, 3) := by decide +kernel
theorem d18_35 : decode prog_16_method_8_code 35 = .ok (.iload_n 2, 1) := by decide +kernel
theorem d18_36 : decode prog_16_method_8_code 36 = .ok (.ireturn, 1) := by decide +kernel
theorem pn18 : plainFor (⟨"com/example/clauseline/clauseline/model/Document", "textEnd", "(I)I"⟩ : MethodName) = true := by first | (apply plainFor_of_name; simp [plainName, overriddenIn]; done) | decide +kernel
def B18_41 : Bdy := (⟨"com/example/clauseline/clauseline/model/Document", "textEnd", "(I)I"⟩, prog_16_method_8_code, 3, (some .int), ({ frames := 1, cells := 0, slots := 0, locals := 14 } : Room))
set_option maxRecDepth 65536 in
set_option maxHeartbeats 4000000 in
theorem mt41 (Z : State) (a0 : Array Value) (hw : ∀ d ∈ tables_1, d.before a0 Z = true) (h0 : Heap) (v93 v94 : List Value) (p71 p73 : Int32) (hl : (0 : Int) < v93.length.toInt32.toInt) (he : v93[0]? = some (.int p71)) (hy : (0 : Int32).toInt < p71.toInt → ¬ (p71 - (1 : Int32)) < 0 ∧ v94[(p71 - (1 : Int32)).toNatClampNeg]? = some (.int p73)) (a5 : Addr) (a6 : Addr) (a7 : Addr) (a1 : Addr) (a4 : Addr) :
    Met B18_41 Z a0 h0 #[(.ref a5), (.int (0 : Int32))] (mem56 a5 a6 a7 a1 a4 v94 v93) (Ret (some (.int (trim (0 : Int32) p71 p73))) (mem56 a5 a6 a7 a1 a4 v94 v93)) := by
  refine Met.of pn18 (ls := #[.val (.ref a5), .val (.int (0 : Int32)), .unset]) (fun m => by first | (simp [entryFrame, mkF, argsToLocals, Value.category, B18_41]; done) | rfl) ?_
  show Go B18_41 Z a0 h0 _ 0 0 (mem56 a5 a6 a7 a1 a4 v94 v93) 0 #[.val (.ref a5), .val (.int (0 : Int32)), .unset] []
  refine go_aloadN 1 rfl d18_0 rfl rfl ?_
  refine go_get 0 3 4 rfl d18_1 rfl rfl rfl (wd hw 49 rfl) ?_
  refine go_iloadN 5 rfl d18_4 rfl ?_
  refine go_iaload 6 rfl d18_5 rfl (v := (.int p71)) (Mo.el (i := 4) rfl (by decide) he) ?_
  refine go_istoreN #[.val (.ref a5), .val (.int (0 : Int32)), .val (.int p71)] 7 rfl d18_6 rfl rfl ?_
  refine go_iloadN 8 rfl d18_7 rfl ?_
  refine go_aloadN 9 rfl d18_8 rfl rfl ?_
  refine go_iloadN 10 rfl d18_9 rfl ?_
  refine go_callP (host := "") 13 rfl d18_10 (Or.inl (wd hw 111 rfl)) (wd hw 100 rfl) (wd hw 101 rfl) (wd hw 12 rfl) (wd hw 9 rfl) (wd hw 102 rfl) (by decide) (Mo.exa (i := 0) rfl) (mt40 Z a0 hw h0 v93 v94 p71 p73 hl he hy a5 a6 a7 a1 a4) (argsL := [(.int (0 : Int32))]) (rest := [(.int p71)]) rfl (ps := [.int]) (by decide +kernel) rfl rfl 1 rfl (by decide) (by decide) (by decide) (by decide) ?_
  rintro _ _ ⟨rfl, rfl⟩
  show Go B18_41 Z a0 h0 _ 0 0 (mem56 a5 a6 a7 a1 a4 v94 v93) 13 #[.val (.ref a5), .val (.int (0 : Int32)), .val (.int p71)] [(.int (0 : Int32)), (.int p71)]
  refine go_icmp 35 16 rfl (by decide) rfl d18_13 rfl (fun (hc13_41 : p71.toInt ≤ (0 : Int)) => ?_) (fun (hc13_41 : ¬ (p71.toInt ≤ (0 : Int))) => ?_)
  · refine go_iloadN 36 rfl d18_35 rfl ?_
    exact go_ireturn d18_36 rfl (Or.inl rfl) rfl rfl (by decide) (by decide) (by rw [trim_a (by have e0 : (0 : Int32).toInt = 0 := rfl; omega)]; exact ⟨rfl, rfl⟩)
  · refine go_aloadN 17 rfl d18_16 rfl rfl ?_
    refine go_get 0 2 20 rfl d18_17 rfl rfl rfl (wd hw 47 rfl) ?_
    refine go_iloadN 21 rfl d18_20 rfl ?_
    refine go_iconst (1 : Int32) 22 rfl d18_21 rfl ?_
    refine go_isub 23 rfl d18_22 rfl ?_
    have hy2 := hy (by have e0 : (0 : Int32).toInt = 0 := rfl; omega)
    refine go_baload 24 rfl d18_23 rfl (v := (.int p73)) (Mo.el (i := 3) rfl hy2.1 hy2.2) ?_
    refine go_bipush (13 : Int32) 26 rfl d18_24 rfl ?_
    refine go_icmp 35 29 rfl (by decide) rfl d18_26 rfl (fun (hc26_42 : p73.toInt ≠ (13 : Int)) => ?_) (fun (hc26_42 : ¬ (p73.toInt ≠ (13 : Int))) => ?_)
    · refine go_iloadN 36 rfl d18_35 rfl ?_
      exact go_ireturn d18_36 rfl (Or.inl rfl) rfl rfl (by decide) (by decide) (by rw [trim_b (by omega)]; exact ⟨rfl, rfl⟩)
    · refine go_iloadN 30 rfl d18_29 rfl ?_
      refine go_iconst (1 : Int32) 31 rfl d18_30 rfl ?_
      refine go_isub 32 rfl d18_31 rfl ?_
      refine go_goto 36 (by decide) rfl d18_32 ?_
      exact go_ireturn d18_36 rfl (Or.inl rfl) rfl rfl (by decide) (by decide) (by rw [trim_c (by have e0 : (0 : Int32).toInt = 0 := rfl; omega) (by omega)]; exact ⟨rfl, rfl⟩)
theorem d19_0 : decode prog_28_method_1_code 0 = .ok (.aload_n 0, 1) := by decide +kernel
theorem d19_1 : decode prog_28_method_1_code 1 = .ok (.invokespecial 1, 3) := by decide +kernel
theorem d19_4 : decode prog_28_method_1_code 4 = .ok (.aload_n 0, 1) := by decide +kernel
theorem d19_5 : decode prog_28_method_1_code 5 = .ok (.aload_n 1, 1) := by decide +kernel
theorem d19_6 : decode prog_28_method_1_code 6 = .ok (.putfield 7, 3) := by decide +kernel
theorem d19_9 : decode prog_28_method_1_code 9 = .ok (.aload_n 0, 1) := by decide +kernel
theorem d19_10 : decode prog_28_method_1_code 10 = .ok (.iload_n 2, 1) := by decide +kernel
theorem d19_11 : decode prog_28_method_1_code 11 = .ok (.putfield 13, 3) := by decide +kernel
theorem d19_14 : decode prog_28_method_1_code 14 = .ok (.aload_n 0, 1) := by decide +kernel
theorem d19_15 : decode prog_28_method_1_code 15 = .ok (.iload_n 3, 1) := by decide +kernel
theorem d19_16 : decode prog_28_method_1_code 16 = .ok (.putfield 17, 3) := by decide +kernel
theorem d19_19 : decode prog_28_method_1_code 19 = .ok (.return_, 1) := by decide +kernel
theorem pn19 : plainFor (⟨"com/example/clauseline/clauseline/model/Line", "<init>", "([BII)V"⟩ : MethodName) = true := by first | (apply plainFor_of_name; simp [plainName, overriddenIn]; done) | decide +kernel
def B19_44 : Bdy := (⟨"com/example/clauseline/clauseline/model/Line", "<init>", "([BII)V"⟩, prog_28_method_1_code, 4, none, ({ frames := 1, cells := 0, slots := 0, locals := 12 } : Room))
set_option maxRecDepth 65536 in
set_option maxHeartbeats 4000000 in
theorem mt44 (Z : State) (a0 : Array Value) (hw : ∀ d ∈ tables_1, d.before a0 Z = true) (h0 : Heap) (v93 v94 : List Value) (p71 p73 : Int32) (hl : (0 : Int) < v93.length.toInt32.toInt) (he : v93[0]? = some (.int p71)) (hy : (0 : Int32).toInt < p71.toInt → ¬ (p71 - (1 : Int32)) < 0 ∧ v94[(p71 - (1 : Int32)).toNatClampNeg]? = some (.int p73)) (a1 : Addr) (a221 : Addr) :
    Met B19_44 Z a0 h0 #[(.ref a221), (.ref a1), (.int (0 : Int32)), (.int (trim (0 : Int32) p71 p73))] [ar a1 .byte v94, ob a221 "com/example/clauseline/clauseline/model/Line" [("com/example/clauseline/clauseline/model/Line", "bytes", "[B", .null), ("com/example/clauseline/clauseline/model/Line", "start", "I", (.int (0 : Int32))), ("com/example/clauseline/clauseline/model/Line", "end", "I", (.int (0 : Int32)))]] (Ret none [ar a1 .byte v94, ob a221 "com/example/clauseline/clauseline/model/Line" [("com/example/clauseline/clauseline/model/Line", "bytes", "[B", (.ref a1)), ("com/example/clauseline/clauseline/model/Line", "start", "I", (.int (0 : Int32))), ("com/example/clauseline/clauseline/model/Line", "end", "I", (.int (trim (0 : Int32) p71 p73)))]]) := by
  refine Met.of pn19 (ls := #[.val (.ref a221), .val (.ref a1), .val (.int (0 : Int32)), .val (.int (trim (0 : Int32) p71 p73))]) (fun m => by first | (simp [entryFrame, mkF, argsToLocals, Value.category, B19_44]; done) | rfl) ?_
  show Go B19_44 Z a0 h0 _ 0 0 [ar a1 .byte v94, ob a221 "com/example/clauseline/clauseline/model/Line" [("com/example/clauseline/clauseline/model/Line", "bytes", "[B", .null), ("com/example/clauseline/clauseline/model/Line", "start", "I", (.int (0 : Int32))), ("com/example/clauseline/clauseline/model/Line", "end", "I", (.int (0 : Int32)))]] 0 #[.val (.ref a221), .val (.ref a1), .val (.int (0 : Int32)), .val (.int (trim (0 : Int32) p71 p73))] []
  refine go_aloadN 1 rfl d19_0 rfl rfl ?_
  refine go_initObj 4 rfl d19_1 rfl (wd hw 115 rfl) (wd hw 17 rfl) (wd hw 18 rfl) rfl (by decide) (by decide) ?_
  refine go_aloadN 5 rfl d19_4 rfl rfl ?_
  refine go_aloadN 6 rfl d19_5 rfl rfl ?_
  refine go_put 1 0 9 rfl d19_6 rfl rfl rfl (wd hw 116 rfl) (Or.inr ⟨(wd hw 117 rfl), rfl, rfl⟩) (wd hw 104 rfl) (ty := (.array .byte)) (by decide) rfl rfl ?_
  show Go B19_44 Z a0 h0 _ 0 0 [ar a1 .byte v94, ob a221 "com/example/clauseline/clauseline/model/Line" [("com/example/clauseline/clauseline/model/Line", "bytes", "[B", (.ref a1)), ("com/example/clauseline/clauseline/model/Line", "start", "I", (.int (0 : Int32))), ("com/example/clauseline/clauseline/model/Line", "end", "I", (.int (0 : Int32)))]] 9 #[.val (.ref a221), .val (.ref a1), .val (.int (0 : Int32)), .val (.int (trim (0 : Int32) p71 p73))] []
  refine go_aloadN 10 rfl d19_9 rfl rfl ?_
  refine go_iloadN 11 rfl d19_10 rfl ?_
  refine go_put 1 1 14 rfl d19_11 rfl rfl rfl (wd hw 118 rfl) (Or.inr ⟨(wd hw 119 rfl), rfl, rfl⟩) (wd hw 104 rfl) (ty := .int) (by decide) rfl rfl ?_
  show Go B19_44 Z a0 h0 _ 0 0 [ar a1 .byte v94, ob a221 "com/example/clauseline/clauseline/model/Line" [("com/example/clauseline/clauseline/model/Line", "bytes", "[B", (.ref a1)), ("com/example/clauseline/clauseline/model/Line", "start", "I", (.int (0 : Int32))), ("com/example/clauseline/clauseline/model/Line", "end", "I", (.int (0 : Int32)))]] 14 #[.val (.ref a221), .val (.ref a1), .val (.int (0 : Int32)), .val (.int (trim (0 : Int32) p71 p73))] []
  refine go_aloadN 15 rfl d19_14 rfl rfl ?_
  refine go_iloadN 16 rfl d19_15 rfl ?_
  refine go_put 1 2 19 rfl d19_16 rfl rfl rfl (wd hw 120 rfl) (Or.inr ⟨(wd hw 121 rfl), rfl, rfl⟩) (wd hw 104 rfl) (ty := .int) (by decide) rfl rfl ?_
  show Go B19_44 Z a0 h0 _ 0 0 [ar a1 .byte v94, ob a221 "com/example/clauseline/clauseline/model/Line" [("com/example/clauseline/clauseline/model/Line", "bytes", "[B", (.ref a1)), ("com/example/clauseline/clauseline/model/Line", "start", "I", (.int (0 : Int32))), ("com/example/clauseline/clauseline/model/Line", "end", "I", (.int (trim (0 : Int32) p71 p73)))]] 19 #[.val (.ref a221), .val (.ref a1), .val (.int (0 : Int32)), .val (.int (trim (0 : Int32) p71 p73))] []
  exact go_return d19_19 rfl rfl (by decide) (by decide) ⟨rfl, rfl⟩
theorem d14_0 : decode prog_17_method_2_code 0 = .ok (.iload_n 1, 1) := by decide +kernel
theorem d14_1 : decode prog_17_method_2_code 1 = .ok (.aload_n 0, 1) := by decide +kernel
theorem d14_2 : decode prog_17_method_2_code 2 = .ok (.getfield 3, 3) := by decide +kernel
theorem d14_5 : decode prog_17_method_2_code 5 = .ok (.getfield 15, 3) := by decide +kernel
theorem d14_8 : decode prog_17_method_2_code 8 = .ok (.arraylength, 1) := by decide +kernel
theorem d14_9 : decode prog_17_method_2_code 9 = .ok (.invokestatic 19, 3) := by decide +kernel
theorem d14_12 : decode prog_17_method_2_code 12 = .ok (.pop, 1) := by decide +kernel
theorem d14_13 : decode prog_17_method_2_code 13 = .ok (.iload_n 1, 1) := by decide +kernel
theorem d14_14 : decode prog_17_method_2_code 14 = .ok (.bipush 15, 2) := by decide +kernel
theorem d14_16 : decode prog_17_method_2_code 16 = .ok (.iand, 1) := by decide +kernel
theorem d14_17 : decode prog_17_method_2_code 17 = .ok (.istore_n 2, 1) := by decide +kernel
theorem d14_18 : decode prog_17_method_2_code 18 = .ok (.aload_n 0, 1) := by decide +kernel
theorem d14_19 : decode prog_17_method_2_code 19 = .ok (.getfield 3, 3) := by decide +kernel
theorem d14_22 : decode prog_17_method_2_code 22 = .ok (.getfield 25, 3) := by decide +kernel
theorem d14_25 : decode prog_17_method_2_code 25 = .ok (.iload_n 2, 1) := by decide +kernel
theorem d14_26 : decode prog_17_method_2_code 26 = .ok (.aaload, 1) := by decide +kernel
theorem d14_27 : decode prog_17_method_2_code 27 = .ok (.astore_n 3, 1) := by decide +kernel
theorem d14_28 : decode prog_17_method_2_code 28 = .ok (.aload_n 0, 1) := by decide +kernel
theorem d14_29 : decode prog_17_method_2_code 29 = .ok (.getfield 3, 3) := by decide +kernel
theorem d14_32 : decode prog_17_method_2_code 32 = .ok (.iload_n 1, 1) := by decide +kernel
theorem d14_33 : decode prog_17_method_2_code 33 = .ok (.invokevirtual 29, 3) := by decide +kernel
theorem d14_36 : decode prog_17_method_2_code 36 = .ok (.istore 4, 2) := by decide +kernel
theorem d14_38 : decode prog_17_method_2_code 38 = .ok (.aload_n 3, 1) := by decide +kernel
theorem d14_39 : decode prog_17_method_2_code 39 = .ok (.ifnull 12, 3) := by decide +kernel
theorem d14_51 : decode prog_17_method_2_code 51 = .ok (.new 34, 3) := by decide +kernel
theorem d14_54 : decode prog_17_method_2_code 54 = .ok (.dup, 1) := by decide +kernel
theorem d14_55 : decode prog_17_method_2_code 55 = .ok (.aload_n 0, 1) := by decide +kernel
theorem d14_56 : decode prog_17_method_2_code 56 = .ok (.getfield 3, 3) := by decide +kernel
theorem d14_59 : decode prog_17_method_2_code 59 = .ok (.getfield 38, 3) := by decide +kernel
theorem d14_62 : decode prog_17_method_2_code 62 = .ok (.iload 4, 2) := by decide +kernel
theorem d14_64 : decode prog_17_method_2_code 64 = .ok (.aload_n 0, 1) := by decide +kernel
theorem d14_65 : decode prog_17_method_2_code 65 = .ok (.getfield 3, 3) := by decide +kernel
theorem d14_68 : decode prog_17_method_2_code 68 = .ok (.iload_n 1, 1) := by decide +kernel
theorem d14_69 : decode prog_17_method_2_code 69 = .ok (.invokevirtual 42, 3) := by decide +kernel
theorem d14_72 : decode prog_17_method_2_code 72 = .ok (.invokespecial 45, 3) := by decide +kernel
theorem d14_75 : decode prog_17_method_2_code 75 = .ok (.astore_n 3, 1) := by decide +kernel
theorem d14_76 : decode prog_17_method_2_code 76 = .ok (.aload_n 0, 1) := by decide +kernel
theorem d14_77 : decode prog_17_method_2_code 77 = .ok (.getfield 3, 3) := by decide +kernel
theorem d14_80 : decode prog_17_method_2_code 80 = .ok (.getfield 25, 3) := by decide +kernel
theorem d14_83 : decode prog_17_method_2_code 83 = .ok (.iload_n 2, 1) := by decide +kernel
theorem d14_84 : decode prog_17_method_2_code 84 = .ok (.aload_n 3, 1) := by decide +kernel
theorem d14_85 : decode prog_17_method_2_code 85 = .ok (.aastore, 1) := by decide +kernel
theorem d14_86 : decode prog_17_method_2_code 86 = .ok (.aload_n 3, 1) := by decide +kernel
theorem d14_87 : decode prog_17_method_2_code 87 = .ok (.areturn, 1) := by decide +kernel
theorem pn14 : plainFor (⟨"com/example/clauseline/clauseline/model/Document$Lines", "get", "(I)Lcom/example/clauseline/clauseline/model/Line;"⟩ : MethodName) = true := by first | (apply plainFor_of_name; simp [plainName, overriddenIn]; done) | decide +kernel
def B14_37 : Bdy := (⟨"com/example/clauseline/clauseline/model/Document$Lines", "get", "(I)Lcom/example/clauseline/clauseline/model/Line;"⟩, prog_17_method_2_code, 5, (some (.object "com/example/clauseline/clauseline/model/Line")), ({ frames := 2, cells := 1, slots := 4, locals := 32 } : Room))
set_option maxRecDepth 65536 in
set_option maxHeartbeats 4000000 in
theorem mt37 (Z : State) (a0 : Array Value) (hw : ∀ d ∈ tables_1, d.before a0 Z = true) (h0 : Heap) (v93 v94 : List Value) (p71 p73 : Int32) (hl : (0 : Int) < v93.length.toInt32.toInt) (he : v93[0]? = some (.int p71)) (hy : (0 : Int32).toInt < p71.toInt → ¬ (p71 - (1 : Int32)) < 0 ∧ v94[(p71 - (1 : Int32)).toNatClampNeg]? = some (.int p73)) (a5 : Addr) (a6 : Addr) (a7 : Addr) (a1 : Addr) (a4 : Addr) :
    Met B14_37 Z a0 h0 #[(.ref a7), (.int (0 : Int32))] (mem56 a5 a6 a7 a1 a4 v94 v93) (fun v ds => ∃ a221 : Addr, Ret (some (.ref a221)) (mem61 a1 v94 a221 p71 p73 a5 a6 a7 a4 v93) v ds) := by
  refine Met.of pn14 (ls := #[.val (.ref a7), .val (.int (0 : Int32)), .unset, .unset, .unset]) (fun m => by first | (simp [entryFrame, mkF, argsToLocals, Value.category, B14_37]; done) | rfl) ?_
  show Go B14_37 Z a0 h0 _ 0 0 (mem56 a5 a6 a7 a1 a4 v94 v93) 0 #[.val (.ref a7), .val (.int (0 : Int32)), .unset, .unset, .unset] []
  refine go_iloadN 1 rfl d14_0 rfl ?_
  refine go_aloadN 2 rfl d14_1 rfl rfl ?_
  refine go_get 2 0 5 rfl d14_2 rfl rfl rfl (wd hw 29 rfl) ?_
  refine go_getN 0 3 8 rfl d14_5 rfl rfl rfl (wd hw 70 rfl) ?_
  refine go_alen 4 9 rfl d14_8 rfl rfl ?_
  refine go_callS 12 rfl d14_9 (wd hw 90 rfl) (wd hw 91 rfl) (wd hw 92 rfl) (wd hw 93 rfl) (by decide) (Met.frame (mem56 a5 a6 a7 a1 a4 v94 v93) (mt38 Z a0 hw h0 v93 v94 p71 p73 hl he hy)) (argsL := [(.int (0 : Int32)), (.int (v93.length.toInt32))]) (rest := []) rfl (ps := [.int, .int]) (by decide +kernel) rfl rfl 0 rfl (by decide) (by decide) (by decide) (by decide) ?_
  rintro _ _ ⟨_, ⟨rfl, rfl⟩, rfl⟩
  show Go B14_37 Z a0 h0 _ 0 0 (mem56 a5 a6 a7 a1 a4 v94 v93) 12 #[.val (.ref a7), .val (.int (0 : Int32)), .unset, .unset, .unset] [(.int (0 : Int32))]
  refine go_pop 13 rfl d14_12 rfl rfl ?_
  refine go_iloadN 14 rfl d14_13 rfl ?_
  refine go_bipush (15 : Int32) 16 rfl d14_14 rfl ?_
  refine go_iand 17 rfl d14_16 rfl ?_
  show Go B14_37 Z a0 h0 _ 0 0 (mem56 a5 a6 a7 a1 a4 v94 v93) 17 #[.val (.ref a7), .val (.int (0 : Int32)), .unset, .unset, .unset] [(.int (0 : Int32))]
  refine go_istoreN #[.val (.ref a7), .val (.int (0 : Int32)), .val (.int (0 : Int32)), .unset, .unset] 18 rfl d14_17 rfl rfl ?_
  refine go_aloadN 19 rfl d14_18 rfl rfl ?_
  refine go_get 2 0 22 rfl d14_19 rfl rfl rfl (wd hw 29 rfl) ?_
  refine go_getN 0 0 25 rfl d14_22 rfl rfl rfl (wd hw 98 rfl) ?_
  refine go_iloadN 26 rfl d14_25 rfl ?_
  refine go_aaload 27 rfl d14_26 rfl rfl (Mo.el (i := 1) rfl (by decide) rfl) ?_
  refine go_astoreN #[.val (.ref a7), .val (.int (0 : Int32)), .val (.int (0 : Int32)), .val .null, .unset] 28 rfl d14_27 rfl rfl rfl ?_
  refine go_aloadN 29 rfl d14_28 rfl rfl ?_
  refine go_get 2 0 32 rfl d14_29 rfl rfl rfl (wd hw 29 rfl) ?_
  refine go_iloadN 33 rfl d14_32 rfl ?_
  refine go_callP 36 rfl d14_33 (Or.inr (wd hw 99 rfl)) (wd hw 100 rfl) (wd hw 101 rfl) (wd hw 12 rfl) (wd hw 9 rfl) (wd hw 102 rfl) (by decide) (Mo.exa (i := 0) rfl) (mt40 Z a0 hw h0 v93 v94 p71 p73 hl he hy a5 a6 a7 a1 a4) (argsL := [(.int (0 : Int32))]) (rest := []) rfl (ps := [.int]) (by decide +kernel) rfl rfl 0 rfl (by decide) (by decide) (by decide) (by decide) ?_
  rintro _ _ ⟨rfl, rfl⟩
  show Go B14_37 Z a0 h0 _ 0 0 (mem56 a5 a6 a7 a1 a4 v94 v93) 36 #[.val (.ref a7), .val (.int (0 : Int32)), .val (.int (0 : Int32)), .val .null, .unset] [(.int (0 : Int32))]
  refine go_istore #[.val (.ref a7), .val (.int (0 : Int32)), .val (.int (0 : Int32)), .val .null, .val (.int (0 : Int32))] 38 rfl d14_36 rfl rfl ?_
  refine go_aloadN 39 rfl d14_38 rfl rfl ?_
  refine go_ifnullY 51 (by decide) rfl d14_39 rfl ?_
  refine go_new 54 rfl d14_51 (wd hw 103 rfl) (wd hw 104 rfl) (wd hw 105 rfl) (by decide) (by decide) [("com/example/clauseline/clauseline/model/Line", "bytes", "[B", .null), ("com/example/clauseline/clauseline/model/Line", "start", "I", (.int (0 : Int32))), ("com/example/clauseline/clauseline/model/Line", "end", "I", (.int (0 : Int32)))] ⟨⟨Or.inr (wd hw 117 rfl), _, rfl, rfl⟩, ⟨⟨Or.inr (wd hw 119 rfl), _, rfl, rfl⟩, ⟨⟨Or.inr (wd hw 121 rfl), _, rfl, rfl⟩, trivial⟩⟩⟩ (by decide) (fun a221 => ?_)
  show Go B14_37 Z a0 h0 _ 1 4 (mem57 a5 a6 a7 a1 a4 v94 v93 a221) 54 #[.val (.ref a7), .val (.int (0 : Int32)), .val (.int (0 : Int32)), .val .null, .val (.int (0 : Int32))] [(.ref a221)]
  refine go_dup 55 rfl d14_54 rfl rfl ?_
  refine go_aloadN 56 rfl d14_55 rfl rfl ?_
  refine go_get 2 0 59 rfl d14_56 rfl rfl rfl (wd hw 29 rfl) ?_
  refine go_getN 0 2 62 rfl d14_59 rfl rfl rfl (wd hw 106 rfl) ?_
  refine go_iload 64 rfl d14_62 rfl ?_
  refine go_aloadN 65 rfl d14_64 rfl rfl ?_
  refine go_get 2 0 68 rfl d14_65 rfl rfl rfl (wd hw 29 rfl) ?_
  refine go_iloadN 69 rfl d14_68 rfl ?_
  refine go_callP 72 rfl d14_69 (Or.inr (wd hw 107 rfl)) (wd hw 108 rfl) (wd hw 109 rfl) (wd hw 12 rfl) (wd hw 9 rfl) (wd hw 110 rfl) (by decide) (Mo.exa (i := 0) rfl) (Met.frame [ob a221 "com/example/clauseline/clauseline/model/Line" [("com/example/clauseline/clauseline/model/Line", "bytes", "[B", .null), ("com/example/clauseline/clauseline/model/Line", "start", "I", (.int (0 : Int32))), ("com/example/clauseline/clauseline/model/Line", "end", "I", (.int (0 : Int32)))]] (mt41 Z a0 hw h0 v93 v94 p71 p73 hl he hy a5 a6 a7 a1 a4)) (argsL := [(.int (0 : Int32))]) (rest := [(.int (0 : Int32)), (.ref a1), (.ref a221), (.ref a221)]) rfl (ps := [.int]) (by decide +kernel) rfl rfl 4 rfl (by decide) (by decide) (by decide) (by decide) ?_
  rintro _ _ ⟨_, ⟨rfl, rfl⟩, rfl⟩
  show Go B14_37 Z a0 h0 _ 1 4 (mem57 a5 a6 a7 a1 a4 v94 v93 a221) 72 #[.val (.ref a7), .val (.int (0 : Int32)), .val (.int (0 : Int32)), .val .null, .val (.int (0 : Int32))] [(.int (trim (0 : Int32) p71 p73)), (.int (0 : Int32)), (.ref a1), (.ref a221), (.ref a221)]
  refine Go.front 5 (Nat.le_of_ble_eq_true rfl) ?_
  refine Go.front 4 (Nat.le_of_ble_eq_true rfl) ?_
  show Go B14_37 Z a0 h0 _ 1 4 (mem58 a1 v94 a221 a5 a6 a7 a4 v93) 72 #[.val (.ref a7), .val (.int (0 : Int32)), .val (.int (0 : Int32)), .val .null, .val (.int (0 : Int32))] [(.int (trim (0 : Int32) p71 p73)), (.int (0 : Int32)), (.ref a1), (.ref a221), (.ref a221)]
  refine go_callI 75 rfl d14_72 rfl (wd hw 112 rfl) (wd hw 113 rfl) (wd hw 105 rfl) (wd hw 114 rfl) (by decide) (Met.frame (mem59 a5 a6 a7 a1 a4 v93) (mt44 Z a0 hw h0 v93 v94 p71 p73 hl he hy a1 a221)) (argsL := [(.ref a1), (.int (0 : Int32)), (.int (trim (0 : Int32) p71 p73))]) (rest := [(.ref a221)]) rfl (ret := none) (ps := [(.array .byte), .int, .int]) (by decide +kernel) rfl rfl 1 rfl (by decide) (by decide) (by decide) (by decide) ?_
  rintro _ _ ⟨_, ⟨rfl, rfl⟩, rfl⟩
  show Go B14_37 Z a0 h0 _ 1 4 (mem60 a1 v94 a221 p71 p73 a5 a6 a7 a4 v93) 75 #[.val (.ref a7), .val (.int (0 : Int32)), .val (.int (0 : Int32)), .val .null, .val (.int (0 : Int32))] [(.ref a221)]
  refine go_astoreN #[.val (.ref a7), .val (.int (0 : Int32)), .val (.int (0 : Int32)), .val (.ref a221), .val (.int (0 : Int32))] 76 rfl d14_75 rfl rfl rfl ?_
  refine go_aloadN 77 rfl d14_76 rfl rfl ?_
  refine go_get 4 0 80 rfl d14_77 rfl rfl rfl (wd hw 29 rfl) ?_
  refine go_getN 2 0 83 rfl d14_80 rfl rfl rfl (wd hw 98 rfl) ?_
  refine go_iloadN 84 rfl d14_83 rfl ?_
  refine go_aloadN 85 rfl d14_84 rfl rfl ?_
  refine go_aastore 3 86 rfl d14_85 rfl rfl rfl (by decide) (Nat.le_of_ble_eq_true rfl) (Mo.sto (i := 3) rfl (fun h M => Ins.self (Mo.exa (i := 1) rfl h M))) ?_
  show Go B14_37 Z a0 h0 _ 1 4 (mem61 a1 v94 a221 p71 p73 a5 a6 a7 a4 v93) 86 #[.val (.ref a7), .val (.int (0 : Int32)), .val (.int (0 : Int32)), .val (.ref a221), .val (.int (0 : Int32))] []
  refine go_aloadN 87 rfl d14_86 rfl rfl ?_
  exact go_areturn d14_87 rfl rfl rfl rfl (by decide) (by decide) ⟨a221, rfl, rfl⟩
theorem d13_0 : decode prog_17_method_4_code 0 = .ok (.aload_n 0, 1) := by decide +kernel
theorem d13_1 : decode prog_17_method_4_code 1 = .ok (.iload_n 1, 1) := by decide +kernel
theorem d13_2 : decode prog_17_method_4_code 2 = .ok (.invokevirtual 48, 3) := by decide +kernel
theorem d13_5 : decode prog_17_method_4_code 5 = .ok (.areturn, 1) := by decide +kernel
theorem pn13 : plainFor (⟨"com/example/clauseline/clauseline/model/Document$Lines", "get", "(I)Ljava/lang/Object;"⟩ : MethodName) = true := by first | (apply plainFor_of_name; simp [plainName, overriddenIn]; done) | decide +kernel
def B13_36 : Bdy := (⟨"com/example/clauseline/clauseline/model/Document$Lines", "get", "(I)Ljava/lang/Object;"⟩, prog_17_method_4_code, 2, (some (.object "java/lang/Object")), ({ frames := 3, cells := 1, slots := 4, locals := 48 } : Room))
set_option maxRecDepth 65536 in
set_option maxHeartbeats 4000000 in
theorem mt36 (Z : State) (a0 : Array Value) (hw : ∀ d ∈ tables_1, d.before a0 Z = true) (h0 : Heap) (v93 v94 : List Value) (p71 p73 : Int32) (hl : (0 : Int) < v93.length.toInt32.toInt) (he : v93[0]? = some (.int p71)) (hy : (0 : Int32).toInt < p71.toInt → ¬ (p71 - (1 : Int32)) < 0 ∧ v94[(p71 - (1 : Int32)).toNatClampNeg]? = some (.int p73)) (a5 : Addr) (a6 : Addr) (a7 : Addr) (a1 : Addr) (a4 : Addr) :
    Met B13_36 Z a0 h0 #[(.ref a7), (.int (0 : Int32))] (mem56 a5 a6 a7 a1 a4 v94 v93) (fun v ds => ∃ a121 : Addr, Ret (some (.ref a121)) (mem61 a1 v94 a121 p71 p73 a5 a6 a7 a4 v93) v ds) := by
  refine Met.of pn13 (ls := #[.val (.ref a7), .val (.int (0 : Int32))]) (fun m => by first | (simp [entryFrame, mkF, argsToLocals, Value.category, B13_36]; done) | rfl) ?_
  show Go B13_36 Z a0 h0 _ 0 0 (mem56 a5 a6 a7 a1 a4 v94 v93) 0 #[.val (.ref a7), .val (.int (0 : Int32))] []
  refine go_aloadN 1 rfl d13_0 rfl rfl ?_
  refine go_iloadN 2 rfl d13_1 rfl ?_
  refine go_callV 5 rfl d13_2 (wd hw 85 rfl) (wd hw 86 rfl) (wd hw 88 rfl) (wd hw 87 rfl) (wd hw 25 rfl) (wd hw 89 rfl) (by decide) (Mo.exa (i := 2) rfl) (mt37 Z a0 hw h0 v93 v94 p71 p73 hl he hy a5 a6 a7 a1 a4) (argsL := [(.int (0 : Int32))]) (rest := []) rfl (ps := [.int]) (by decide +kernel) rfl rfl 0 rfl (by decide) (by decide) (by decide) (by decide) ?_
  rintro _ _ ⟨a121, rfl, rfl⟩
  show Go B13_36 Z a0 h0 _ 1 4 (mem61 a1 v94 a121 p71 p73 a5 a6 a7 a4 v93) 5 #[.val (.ref a7), .val (.int (0 : Int32))] [(.ref a121)]
  exact go_areturn d13_5 rfl rfl rfl rfl (by decide) (by decide) ⟨a121, rfl, rfl⟩
theorem d20_0 : decode prog_28_method_2_code 0 = .ok (.aload_n 0, 1) := by decide +kernel
theorem d20_1 : decode prog_28_method_2_code 1 = .ok (.getfield 13, 3) := by decide +kernel
theorem d20_4 : decode prog_28_method_2_code 4 = .ok (.ireturn, 1) := by decide +kernel
theorem pn20 : plainFor (⟨"com/example/clauseline/clauseline/model/Line", "start", "()I"⟩ : MethodName) = true := by first | (apply plainFor_of_name; simp [plainName, overriddenIn]; done) | decide +kernel
def B20_45 : Bdy := (⟨"com/example/clauseline/clauseline/model/Line", "start", "()I"⟩, prog_28_method_2_code, 1, (some .int), ({ frames := 0, cells := 0, slots := 0, locals := 0 } : Room))
set_option maxRecDepth 65536 in
set_option maxHeartbeats 4000000 in
theorem mt45 (Z : State) (a0 : Array Value) (hw : ∀ d ∈ tables_1, d.before a0 Z = true) (h0 : Heap) (v93 v94 : List Value) (p71 p73 : Int32) (hl : (0 : Int) < v93.length.toInt32.toInt) (he : v93[0]? = some (.int p71)) (hy : (0 : Int32).toInt < p71.toInt → ¬ (p71 - (1 : Int32)) < 0 ∧ v94[(p71 - (1 : Int32)).toNatClampNeg]? = some (.int p73)) (a1 : Addr) (a21 : Addr) :
    Met B20_45 Z a0 h0 #[(.ref a21)] [ar a1 .byte v94, ob a21 "com/example/clauseline/clauseline/model/Line" [("com/example/clauseline/clauseline/model/Line", "bytes", "[B", (.ref a1)), ("com/example/clauseline/clauseline/model/Line", "start", "I", (.int (0 : Int32))), ("com/example/clauseline/clauseline/model/Line", "end", "I", (.int (trim (0 : Int32) p71 p73)))]] (Ret (some (.int (0 : Int32))) [ar a1 .byte v94, ob a21 "com/example/clauseline/clauseline/model/Line" [("com/example/clauseline/clauseline/model/Line", "bytes", "[B", (.ref a1)), ("com/example/clauseline/clauseline/model/Line", "start", "I", (.int (0 : Int32))), ("com/example/clauseline/clauseline/model/Line", "end", "I", (.int (trim (0 : Int32) p71 p73)))]]) := by
  refine Met.of pn20 (ls := #[.val (.ref a21)]) (fun m => by first | (simp [entryFrame, mkF, argsToLocals, Value.category, B20_45]; done) | rfl) ?_
  show Go B20_45 Z a0 h0 _ 0 0 [ar a1 .byte v94, ob a21 "com/example/clauseline/clauseline/model/Line" [("com/example/clauseline/clauseline/model/Line", "bytes", "[B", (.ref a1)), ("com/example/clauseline/clauseline/model/Line", "start", "I", (.int (0 : Int32))), ("com/example/clauseline/clauseline/model/Line", "end", "I", (.int (trim (0 : Int32) p71 p73)))]] 0 #[.val (.ref a21)] []
  refine go_aloadN 1 rfl d20_0 rfl rfl ?_
  refine go_get 1 1 4 rfl d20_1 rfl rfl rfl (wd hw 118 rfl) ?_
  exact go_ireturn d20_4 rfl (Or.inl rfl) rfl rfl (by decide) (by decide) ⟨rfl, rfl⟩
theorem d21_0 : decode prog_28_method_3_code 0 = .ok (.aload_n 0, 1) := by decide +kernel
theorem d21_1 : decode prog_28_method_3_code 1 = .ok (.getfield 17, 3) := by decide +kernel
theorem d21_4 : decode prog_28_method_3_code 4 = .ok (.ireturn, 1) := by decide +kernel
theorem pn21 : plainFor (⟨"com/example/clauseline/clauseline/model/Line", "end", "()I"⟩ : MethodName) = true := by first | (apply plainFor_of_name; simp [plainName, overriddenIn]; done) | decide +kernel
def B21_46 : Bdy := (⟨"com/example/clauseline/clauseline/model/Line", "end", "()I"⟩, prog_28_method_3_code, 1, (some .int), ({ frames := 0, cells := 0, slots := 0, locals := 0 } : Room))
set_option maxRecDepth 65536 in
set_option maxHeartbeats 4000000 in
theorem mt46 (Z : State) (a0 : Array Value) (hw : ∀ d ∈ tables_1, d.before a0 Z = true) (h0 : Heap) (v93 v94 : List Value) (p71 p73 : Int32) (hl : (0 : Int) < v93.length.toInt32.toInt) (he : v93[0]? = some (.int p71)) (hy : (0 : Int32).toInt < p71.toInt → ¬ (p71 - (1 : Int32)) < 0 ∧ v94[(p71 - (1 : Int32)).toNatClampNeg]? = some (.int p73)) (a1 : Addr) (a21 : Addr) :
    Met B21_46 Z a0 h0 #[(.ref a21)] [ar a1 .byte v94, ob a21 "com/example/clauseline/clauseline/model/Line" [("com/example/clauseline/clauseline/model/Line", "bytes", "[B", (.ref a1)), ("com/example/clauseline/clauseline/model/Line", "start", "I", (.int (0 : Int32))), ("com/example/clauseline/clauseline/model/Line", "end", "I", (.int (trim (0 : Int32) p71 p73)))]] (Ret (some (.int (trim (0 : Int32) p71 p73))) [ar a1 .byte v94, ob a21 "com/example/clauseline/clauseline/model/Line" [("com/example/clauseline/clauseline/model/Line", "bytes", "[B", (.ref a1)), ("com/example/clauseline/clauseline/model/Line", "start", "I", (.int (0 : Int32))), ("com/example/clauseline/clauseline/model/Line", "end", "I", (.int (trim (0 : Int32) p71 p73)))]]) := by
  refine Met.of pn21 (ls := #[.val (.ref a21)]) (fun m => by first | (simp [entryFrame, mkF, argsToLocals, Value.category, B21_46]; done) | rfl) ?_
  show Go B21_46 Z a0 h0 _ 0 0 [ar a1 .byte v94, ob a21 "com/example/clauseline/clauseline/model/Line" [("com/example/clauseline/clauseline/model/Line", "bytes", "[B", (.ref a1)), ("com/example/clauseline/clauseline/model/Line", "start", "I", (.int (0 : Int32))), ("com/example/clauseline/clauseline/model/Line", "end", "I", (.int (trim (0 : Int32) p71 p73)))]] 0 #[.val (.ref a21)] []
  refine go_aloadN 1 rfl d21_0 rfl rfl ?_
  refine go_get 1 2 4 rfl d21_1 rfl rfl rfl (wd hw 120 rfl) ?_
  exact go_ireturn d21_4 rfl (Or.inl rfl) rfl rfl (by decide) (by decide) ⟨rfl, rfl⟩
theorem d11_0 : decode method_4_code 0 = .ok (.iload_n 1, 1) := by decide +kernel
theorem d11_1 : decode method_4_code 1 = .ok (.iload_n 2, 1) := by decide +kernel
theorem d11_2 : decode method_4_code 2 = .ok (.if_icmp .lt 5, 3) := by decide +kernel
theorem d11_5 : decode method_4_code 5 = .ok (.iconst 1, 1) := by decide +kernel
theorem d11_6 : decode method_4_code 6 = .ok (.ireturn, 1) := by decide +kernel
theorem d11_7 : decode method_4_code 7 = .ok (.aload_n 0, 1) := by decide +kernel
theorem d11_8 : decode method_4_code 8 = .ok (.iload_n 1, 1) := by decide +kernel
theorem d11_9 : decode method_4_code 9 = .ok (.invokeinterface 7 2, 5) := by decide +kernel
theorem d11_14 : decode method_4_code 14 = .ok (.checkcast 13, 3) := by decide +kernel
theorem d11_17 : decode method_4_code 17 = .ok (.astore 5, 2) := by decide +kernel
theorem d11_19 : decode method_4_code 19 = .ok (.aload 5, 2) := by decide +kernel
theorem d11_21 : decode method_4_code 21 = .ok (.invokevirtual 15, 3) := by decide +kernel
theorem d11_24 : decode method_4_code 24 = .ok (.aload_n 3, 1) := by decide +kernel
theorem d11_25 : decode method_4_code 25 = .ok (.iload_n 1, 1) := by decide +kernel
theorem d11_26 : decode method_4_code 26 = .ok (.iaload, 1) := by decide +kernel
theorem d11_27 : decode method_4_code 27 = .ok (.if_icmp .ne 19, 3) := by decide +kernel
theorem d11_30 : decode method_4_code 30 = .ok (.aload 5, 2) := by decide +kernel
theorem d11_32 : decode method_4_code 32 = .ok (.invokevirtual 19, 3) := by decide +kernel
theorem d11_35 : decode method_4_code 35 = .ok (.aload 4, 2) := by decide +kernel
theorem d11_37 : decode method_4_code 37 = .ok (.iload_n 1, 1) := by decide +kernel
theorem d11_38 : decode method_4_code 38 = .ok (.iaload, 1) := by decide +kernel
theorem d11_39 : decode method_4_code 39 = .ok (.if_icmp .ne 7, 3) := by decide +kernel
theorem d11_42 : decode method_4_code 42 = .ok (.iconst 1, 1) := by decide +kernel
theorem d11_43 : decode method_4_code 43 = .ok (.goto 4, 3) := by decide +kernel
theorem d11_47 : decode method_4_code 47 = .ok (.ireturn, 1) := by decide +kernel
theorem pn11 : plainFor (⟨"com/example/clauseline/clauseline/model/DocumentOfPinLaw", "check", "(Ljava/util/List;II[I[I)Z"⟩ : MethodName) = true := by first | (apply plainFor_of_name; simp [plainName, overriddenIn]; done) | decide +kernel
def B11_j0 : Bdy := (⟨"com/example/clauseline/clauseline/model/DocumentOfPinLaw", "check", "(Ljava/util/List;II[I[I)Z"⟩, method_4_code, 6, (some .boolean), ({ frames := 4, cells := 1, slots := 4, locals := 61 } : Room))
set_option maxRecDepth 65536 in
set_option maxHeartbeats 4000000 in
theorem m_check0 (Z : State) (a0 : Array Value) (hw : ∀ d ∈ tables_1, d.before a0 Z = true) (h0 : Heap) (a1 a2 a3 a4 a5 a6 a7 : Addr) (v91 v92 v93 v94 : List Value) (p7 : Int32) (hf : (0 : Int) < p7.toInt → Fact0 v91 v92 v93 v94) :
    Met B11_j0 Z a0 h0 #[(.ref a7), (.int (0 : Int32)), (.int p7), (.ref a2), (.ref a3)] (mem55 a5 a6 a7 a1 a4 v94 v93 a2 v91 a3 v92) (fun v ds => ∃ r9 : Value, Ret (some (.int 1)) (mem54 a5 a6 a7 a1 a4 r9 v94 v93 a2 v91 a3 v92) v ds) := by
  refine Met.of pn11 (ls := #[.val (.ref a7), .val (.int (0 : Int32)), .val (.int p7), .val (.ref a2), .val (.ref a3), .unset]) (fun m => by first | (simp [entryFrame, mkF, argsToLocals, Value.category, B11_j0]; done) | rfl) ?_
  show Go B11_j0 Z a0 h0 _ 0 0 (mem55 a5 a6 a7 a1 a4 v94 v93 a2 v91 a3 v92) 0 #[.val (.ref a7), .val (.int (0 : Int32)), .val (.int p7), .val (.ref a2), .val (.ref a3), .unset] []
  refine go_iloadN 1 rfl d11_0 rfl ?_
  refine go_iloadN 2 rfl d11_1 rfl ?_
  refine go_icmp 7 5 rfl (by decide) rfl d11_2 rfl (fun (hc2 : (0 : Int) < p7.toInt) => ?_) (fun (hc2 : ¬ ((0 : Int) < p7.toInt)) => ?_)
  · obtain ⟨p71, p73, hl, he, hy, hE, hF⟩ := hf hc2
    refine go_aloadN 8 rfl d11_7 rfl rfl ?_
    refine go_iloadN 9 rfl d11_8 rfl ?_
    refine go_callF 14 rfl d11_9 (wd hw 77 rfl) (wd hw 78 rfl) (wd hw 79 rfl) (by decide) (wd hw 80 rfl) (wd hw 81 rfl) (wd hw 82 rfl) (wd hw 83 rfl) (wd hw 68 rfl) (wd hw 25 rfl) (wd hw 84 rfl) (by decide) (Mo.exa (i := 2) rfl) (Met.frame [ar a2 .int v91, ar a3 .int v92] (mt36 Z a0 hw h0 v93 v94 p71 p73 hl he hy a5 a6 a7 a1 a4)) (argsL := [(.int (0 : Int32))]) (rest := []) rfl (ps := [.int]) (by decide +kernel) rfl rfl 0 rfl (by decide) (by decide) (by decide) (by decide) ?_
    rintro _ _ ⟨_, ⟨a21, rfl, rfl⟩, rfl⟩
    show Go B11_j0 Z a0 h0 _ 1 4 (mem62 a1 v94 a21 p71 p73 a5 a6 a7 a4 v93 a2 v91 a3 v92) 14 #[.val (.ref a7), .val (.int (0 : Int32)), .val (.int p7), .val (.ref a2), .val (.ref a3), .unset] [(.ref a21)]
    refine go_cast 17 rfl d11_14 rfl (wd hw 123 rfl) (fun h M => Ins.self (Mo.exa (i := 1) rfl h M)) ?_
    refine go_astore #[.val (.ref a7), .val (.int (0 : Int32)), .val (.int p7), .val (.ref a2), .val (.ref a3), .val (.ref a21)] 19 rfl d11_17 rfl rfl rfl ?_
    refine go_aload 21 rfl d11_19 rfl rfl ?_
    refine go_callV 24 rfl d11_21 (wd hw 124 rfl) (wd hw 125 rfl) (wd hw 127 rfl) (wd hw 126 rfl) (wd hw 105 rfl) (wd hw 128 rfl) (by decide) (Mo.exa (i := 1) rfl) (Met.frame (mem63 a5 a6 a7 a1 a4 a21 v93 a2 v91 a3 v92) (mt45 Z a0 hw h0 v93 v94 p71 p73 hl he hy a1 a21)) (argsL := []) (rest := []) rfl (ps := []) (by decide +kernel) rfl rfl 0 rfl (by decide) (by decide) (by decide) (by decide) ?_
    rintro _ _ ⟨_, ⟨rfl, rfl⟩, rfl⟩
    show Go B11_j0 Z a0 h0 _ 1 4 (mem62 a1 v94 a21 p71 p73 a5 a6 a7 a4 v93 a2 v91 a3 v92) 24 #[.val (.ref a7), .val (.int (0 : Int32)), .val (.int p7), .val (.ref a2), .val (.ref a3), .val (.ref a21)] [(.int (0 : Int32))]
    refine go_aloadN 25 rfl d11_24 rfl rfl ?_
    refine go_iloadN 26 rfl d11_25 rfl ?_
    refine go_iaload 27 rfl d11_26 rfl (v := (.int (0 : Int32))) (Mo.el (i := 6) rfl (by decide) hE) ?_
    refine go_icmp 46 30 rfl (by decide) rfl d11_27 rfl (fun (hc27 : (0 : Int) ≠ (0 : Int)) => absurd hc27 (by decide)) (fun (hc27 : ¬ ((0 : Int) ≠ (0 : Int))) => ?_)
    refine go_aload 32 rfl d11_30 rfl rfl ?_
    refine go_callV 35 rfl d11_32 (wd hw 129 rfl) (wd hw 130 rfl) (wd hw 132 rfl) (wd hw 131 rfl) (wd hw 105 rfl) (wd hw 133 rfl) (by decide) (Mo.exa (i := 1) rfl) (Met.frame (mem63 a5 a6 a7 a1 a4 a21 v93 a2 v91 a3 v92) (mt46 Z a0 hw h0 v93 v94 p71 p73 hl he hy a1 a21)) (argsL := []) (rest := []) rfl (ps := []) (by decide +kernel) rfl rfl 0 rfl (by decide) (by decide) (by decide) (by decide) ?_
    rintro _ _ ⟨_, ⟨rfl, rfl⟩, rfl⟩
    show Go B11_j0 Z a0 h0 _ 1 4 (mem62 a1 v94 a21 p71 p73 a5 a6 a7 a4 v93 a2 v91 a3 v92) 35 #[.val (.ref a7), .val (.int (0 : Int32)), .val (.int p7), .val (.ref a2), .val (.ref a3), .val (.ref a21)] [(.int (trim (0 : Int32) p71 p73))]
    refine go_aload 37 rfl d11_35 rfl rfl ?_
    refine go_iloadN 38 rfl d11_37 rfl ?_
    refine go_iaload 39 rfl d11_38 rfl (v := (.int (trim (0 : Int32) p71 p73))) (Mo.el (i := 7) rfl (by decide) hF) ?_
    refine go_icmp 46 42 rfl (by decide) rfl d11_39 rfl (fun (hc39 : (trim (0 : Int32) p71 p73).toInt ≠ (trim (0 : Int32) p71 p73).toInt) => absurd hc39 (by simp)) (fun (hc39 : ¬ ((trim (0 : Int32) p71 p73).toInt ≠ (trim (0 : Int32) p71 p73).toInt)) => ?_)
    refine go_iconst (1 : Int32) 43 rfl d11_42 rfl ?_
    refine go_goto 47 (by decide) rfl d11_43 ?_
    refine Go.sub (ds' := (mem64 a1 v94 a5 a6 a7 a4 a21 v93 a2 v91 a3 v92)) (.cons₂ _ (.cons _ (.cons₂ _ (.cons₂ _ (.cons₂ _ (.cons₂ _ (.cons₂ _ (.cons₂ _ .slnil)))))))) ?_
    refine Go.front 6 (Nat.le_of_ble_eq_true rfl) ?_
    refine Go.front 6 (Nat.le_of_ble_eq_true rfl) ?_
    refine Go.front 6 (Nat.le_of_ble_eq_true rfl) ?_
    refine Go.front 3 (Nat.le_of_ble_eq_true rfl) ?_
    refine Go.front 6 (Nat.le_of_ble_eq_true rfl) ?_
    refine Go.front 6 (Nat.le_of_ble_eq_true rfl) ?_
    refine Go.front 6 (Nat.le_of_ble_eq_true rfl) ?_
    show Go B11_j0 Z a0 h0 _ 1 4 (mem65 a5 a6 a7 a1 a4 a21 v94 v93 a2 v91 a3 v92) 47 #[.val (.ref a7), .val (.int (0 : Int32)), .val (.int p7), .val (.ref a2), .val (.ref a3), .val (.ref a21)] [(.int (1 : Int32))]
    exact go_ireturn d11_47 rfl (Or.inr (Or.inl rfl)) rfl rfl (by decide) (by decide) ⟨_, rfl, rfl⟩
  · refine go_iconst (1 : Int32) 6 rfl d11_5 rfl ?_
    exact go_ireturn d11_6 rfl (Or.inr (Or.inl rfl)) rfl rfl (by decide) (by decide) ⟨.null, rfl, rfl⟩
def B16_50 : Bdy := (⟨"jdk/internal/util/Preconditions", "checkIndex", "(IILjava/util/function/BiFunction;)I"⟩, jdk_41_method_11_code, 3, (some .int), ({ frames := 0, cells := 0, slots := 0, locals := 0 } : Room))
set_option maxRecDepth 65536 in
set_option maxHeartbeats 4000000 in
theorem mt50 (Z : State) (a0 : Array Value) (hw : ∀ d ∈ tables_1, d.before a0 Z = true) (h0 : Heap) (v93 v94 : List Value) (p71 p73 p74 : Int32) (hl : (1 : Int) < v93.length.toInt32.toInt) (he : v93[1]? = some (.int p71)) (hs : v93[0]? = some (.int p74)) (hy : (p74 + (1 : Int32)).toInt < p71.toInt → ¬ (p71 - (1 : Int32)) < 0 ∧ v94[(p71 - (1 : Int32)).toNatClampNeg]? = some (.int p73)) :
    Met B16_50 Z a0 h0 #[(.int (1 : Int32)), (.int (v93.length.toInt32)), .null] [] (Ret (some (.int (1 : Int32))) []) := by
  refine Met.of pn16 (ls := #[.val (.int (1 : Int32)), .val (.int (v93.length.toInt32)), .val .null]) (fun m => by first | (simp [entryFrame, mkF, argsToLocals, Value.category, B16_50]; done) | rfl) ?_
  show Go B16_50 Z a0 h0 _ 0 0 [] 0 #[.val (.int (1 : Int32)), .val (.int (v93.length.toInt32)), .val .null] []
  refine go_iloadN 1 rfl d16_0 rfl ?_
  refine go_if 9 4 rfl (by decide) rfl d16_1 rfl (fun (hc1 : (1 : Int) < 0) => absurd hc1 (by decide)) (fun (hc1 : ¬ ((1 : Int) < 0)) => ?_)
  refine go_iloadN 5 rfl d16_4 rfl ?_
  refine go_iloadN 6 rfl d16_5 rfl ?_
  refine go_icmp 16 9 rfl (by decide) rfl d16_6 rfl (fun (hc6 : (1 : Int) < (v93.length.toInt32).toInt) => ?_) (fun (hc6 : ¬ ((1 : Int) < (v93.length.toInt32).toInt)) => absurd hc6 (by omega))
  refine go_iloadN 17 rfl d16_16 rfl ?_
  exact go_ireturn d16_17 rfl (Or.inl rfl) rfl rfl (by decide) (by decide) ⟨rfl, rfl⟩
def B15_49 : Bdy := (⟨"java/util/Objects", "checkIndex", "(II)I"⟩, jdk_31_method_17_code, 2, (some .int), ({ frames := 1, cells := 0, slots := 0, locals := 14 } : Room))
set_option maxRecDepth 65536 in
set_option maxHeartbeats 4000000 in
theorem mt49 (Z : State) (a0 : Array Value) (hw : ∀ d ∈ tables_1, d.before a0 Z = true) (h0 : Heap) (v93 v94 : List Value) (p71 p73 p74 : Int32) (hl : (1 : Int) < v93.length.toInt32.toInt) (he : v93[1]? = some (.int p71)) (hs : v93[0]? = some (.int p74)) (hy : (p74 + (1 : Int32)).toInt < p71.toInt → ¬ (p71 - (1 : Int32)) < 0 ∧ v94[(p71 - (1 : Int32)).toNatClampNeg]? = some (.int p73)) :
    Met B15_49 Z a0 h0 #[(.int (1 : Int32)), (.int (v93.length.toInt32))] [] (Ret (some (.int (1 : Int32))) []) := by
  refine Met.of pn15 (ls := #[.val (.int (1 : Int32)), .val (.int (v93.length.toInt32))]) (fun m => by first | (simp [entryFrame, mkF, argsToLocals, Value.category, B15_49]; done) | rfl) ?_
  show Go B15_49 Z a0 h0 _ 0 0 [] 0 #[.val (.int (1 : Int32)), .val (.int (v93.length.toInt32))] []
  refine go_iloadN 1 rfl d15_0 rfl ?_
  refine go_iloadN 2 rfl d15_1 rfl ?_
  refine go_aconstNull 3 rfl d15_2 ?_
  refine go_callS 6 rfl d15_3 (wd hw 94 rfl) (wd hw 95 rfl) (wd hw 96 rfl) (wd hw 97 rfl) (by decide) (mt50 Z a0 hw h0 v93 v94 p71 p73 p74 hl he hs hy) (argsL := [(.int (1 : Int32)), (.int (v93.length.toInt32)), .null]) (rest := []) rfl (ps := [.int, .int, (.object "java/util/function/BiFunction")]) (by decide +kernel) rfl rfl 0 rfl (by decide) (by decide) (by decide) (by decide) ?_
  rintro _ _ ⟨rfl, rfl⟩
  show Go B15_49 Z a0 h0 _ 0 0 [] 6 #[.val (.int (1 : Int32)), .val (.int (v93.length.toInt32))] [(.int (1 : Int32))]
  exact go_ireturn d15_6 rfl (Or.inl rfl) rfl rfl (by decide) (by decide) ⟨rfl, rfl⟩
theorem d17_8 : decode prog_16_method_7_code 8 = .ok (.aload_n 0, 1) := by decide +kernel
theorem d17_9 : decode prog_16_method_7_code 9 = .ok (.getfield 28, 3) := by decide +kernel
theorem d17_12 : decode prog_16_method_7_code 12 = .ok (.iload_n 1, 1) := by decide +kernel
theorem d17_13 : decode prog_16_method_7_code 13 = .ok (.iconst 1, 1) := by decide +kernel
theorem d17_14 : decode prog_16_method_7_code 14 = .ok (.isub, 1) := by decide +kernel
theorem d17_15 : decode prog_16_method_7_code 15 = .ok (.iaload, 1) := by decide +kernel
theorem d17_16 : decode prog_16_method_7_code 16 = .ok (.iconst 1, 1) := by decide +kernel
theorem d17_17 : decode prog_16_method_7_code 17 = .ok (.iadd, 1) := by decide +kernel
def B17_51 : Bdy := (⟨"com/example/clauseline/clauseline/model/Document", "start", "(I)I"⟩, prog_16_method_7_code, 2, (some .int), ({ frames := 0, cells := 0, slots := 0, locals := 0 } : Room))
set_option maxRecDepth 65536 in
set_option maxHeartbeats 4000000 in
theorem mt51 (Z : State) (a0 : Array Value) (hw : ∀ d ∈ tables_1, d.before a0 Z = true) (h0 : Heap) (v93 v94 : List Value) (p71 p73 p74 : Int32) (hl : (1 : Int) < v93.length.toInt32.toInt) (he : v93[1]? = some (.int p71)) (hs : v93[0]? = some (.int p74)) (hy : (p74 + (1 : Int32)).toInt < p71.toInt → ¬ (p71 - (1 : Int32)) < 0 ∧ v94[(p71 - (1 : Int32)).toNatClampNeg]? = some (.int p73)) (a5 : Addr) (a6 : Addr) (a7 : Addr) (a1 : Addr) (a4 : Addr) (r1 : Value) :
    Met B17_51 Z a0 h0 #[(.ref a5), (.int (1 : Int32))] (mem67 a5 a6 a7 a1 a4 r1 v94 v93) (Ret (some (.int (p74 + (1 : Int32)))) (mem67 a5 a6 a7 a1 a4 r1 v94 v93)) := by
  refine Met.of pn17 (ls := #[.val (.ref a5), .val (.int (1 : Int32))]) (fun m => by first | (simp [entryFrame, mkF, argsToLocals, Value.category, B17_51]; done) | rfl) ?_
  show Go B17_51 Z a0 h0 _ 0 0 (mem67 a5 a6 a7 a1 a4 r1 v94 v93) 0 #[.val (.ref a5), .val (.int (1 : Int32))] []
  refine go_iloadN 1 rfl d17_0 rfl ?_
  refine go_if 8 4 rfl (by decide) rfl d17_1 rfl (fun (hc1 : (1 : Int) ≠ 0) => ?_) (fun (hc1 : ¬ ((1 : Int) ≠ 0)) => absurd hc1 (by decide))
  refine go_aloadN 9 rfl d17_8 rfl rfl ?_
  refine go_get 0 3 12 rfl d17_9 rfl rfl rfl (wd hw 49 rfl) ?_
  refine go_iloadN 13 rfl d17_12 rfl ?_
  refine go_iconst (1 : Int32) 14 rfl d17_13 rfl ?_
  refine go_isub 15 rfl d17_14 rfl ?_
  show Go B17_51 Z a0 h0 _ 0 0 (mem67 a5 a6 a7 a1 a4 r1 v94 v93) 15 #[.val (.ref a5), .val (.int (1 : Int32))] [(.int (0 : Int32)), (.ref a4)]
  refine go_iaload 16 rfl d17_15 rfl (v := (.int p74)) (Mo.el (i := 4) rfl (by decide) hs) ?_
  refine go_iconst (1 : Int32) 17 rfl d17_16 rfl ?_
  refine go_iadd 18 rfl d17_17 rfl ?_
  exact go_ireturn d17_18 rfl (Or.inl rfl) rfl rfl (by decide) (by decide) ⟨rfl, rfl⟩
def B18_52 : Bdy := (⟨"com/example/clauseline/clauseline/model/Document", "textEnd", "(I)I"⟩, prog_16_method_8_code, 3, (some .int), ({ frames := 1, cells := 0, slots := 0, locals := 14 } : Room))
set_option maxRecDepth 65536 in
set_option maxHeartbeats 4000000 in
theorem mt52 (Z : State) (a0 : Array Value) (hw : ∀ d ∈ tables_1, d.before a0 Z = true) (h0 : Heap) (v93 v94 : List Value) (p71 p73 p74 : Int32) (hl : (1 : Int) < v93.length.toInt32.toInt) (he : v93[1]? = some (.int p71)) (hs : v93[0]? = some (.int p74)) (hy : (p74 + (1 : Int32)).toInt < p71.toInt → ¬ (p71 - (1 : Int32)) < 0 ∧ v94[(p71 - (1 : Int32)).toNatClampNeg]? = some (.int p73)) (a5 : Addr) (a6 : Addr) (a7 : Addr) (a1 : Addr) (a4 : Addr) (r1 : Value) :
    Met B18_52 Z a0 h0 #[(.ref a5), (.int (1 : Int32))] (mem67 a5 a6 a7 a1 a4 r1 v94 v93) (Ret (some (.int (trim (p74 + (1 : Int32)) p71 p73))) (mem67 a5 a6 a7 a1 a4 r1 v94 v93)) := by
  refine Met.of pn18 (ls := #[.val (.ref a5), .val (.int (1 : Int32)), .unset]) (fun m => by first | (simp [entryFrame, mkF, argsToLocals, Value.category, B18_52]; done) | rfl) ?_
  show Go B18_52 Z a0 h0 _ 0 0 (mem67 a5 a6 a7 a1 a4 r1 v94 v93) 0 #[.val (.ref a5), .val (.int (1 : Int32)), .unset] []
  refine go_aloadN 1 rfl d18_0 rfl rfl ?_
  refine go_get 0 3 4 rfl d18_1 rfl rfl rfl (wd hw 49 rfl) ?_
  refine go_iloadN 5 rfl d18_4 rfl ?_
  refine go_iaload 6 rfl d18_5 rfl (v := (.int p71)) (Mo.el (i := 4) rfl (by decide) he) ?_
  refine go_istoreN #[.val (.ref a5), .val (.int (1 : Int32)), .val (.int p71)] 7 rfl d18_6 rfl rfl ?_
  refine go_iloadN 8 rfl d18_7 rfl ?_
  refine go_aloadN 9 rfl d18_8 rfl rfl ?_
  refine go_iloadN 10 rfl d18_9 rfl ?_
  refine go_callP (host := "") 13 rfl d18_10 (Or.inl (wd hw 111 rfl)) (wd hw 100 rfl) (wd hw 101 rfl) (wd hw 12 rfl) (wd hw 9 rfl) (wd hw 102 rfl) (by decide) (Mo.exa (i := 0) rfl) (mt51 Z a0 hw h0 v93 v94 p71 p73 p74 hl he hs hy a5 a6 a7 a1 a4 r1) (argsL := [(.int (1 : Int32))]) (rest := [(.int p71)]) rfl (ps := [.int]) (by decide +kernel) rfl rfl 1 rfl (by decide) (by decide) (by decide) (by decide) ?_
  rintro _ _ ⟨rfl, rfl⟩
  show Go B18_52 Z a0 h0 _ 0 0 (mem67 a5 a6 a7 a1 a4 r1 v94 v93) 13 #[.val (.ref a5), .val (.int (1 : Int32)), .val (.int p71)] [(.int (p74 + (1 : Int32))), (.int p71)]
  refine go_icmp 35 16 rfl (by decide) rfl d18_13 rfl (fun (hc13_52 : p71.toInt ≤ (p74 + (1 : Int32)).toInt) => ?_) (fun (hc13_52 : ¬ (p71.toInt ≤ (p74 + (1 : Int32)).toInt)) => ?_)
  · refine go_iloadN 36 rfl d18_35 rfl ?_
    exact go_ireturn d18_36 rfl (Or.inl rfl) rfl rfl (by decide) (by decide) (by rw [trim_a (by omega)]; exact ⟨rfl, rfl⟩)
  · refine go_aloadN 17 rfl d18_16 rfl rfl ?_
    refine go_get 0 2 20 rfl d18_17 rfl rfl rfl (wd hw 47 rfl) ?_
    refine go_iloadN 21 rfl d18_20 rfl ?_
    refine go_iconst (1 : Int32) 22 rfl d18_21 rfl ?_
    refine go_isub 23 rfl d18_22 rfl ?_
    have hy2 := hy (by omega)
    refine go_baload 24 rfl d18_23 rfl (v := (.int p73)) (Mo.el (i := 3) rfl hy2.1 hy2.2) ?_
    refine go_bipush (13 : Int32) 26 rfl d18_24 rfl ?_
    refine go_icmp 35 29 rfl (by decide) rfl d18_26 rfl (fun (hc26_53 : p73.toInt ≠ (13 : Int)) => ?_) (fun (hc26_53 : ¬ (p73.toInt ≠ (13 : Int))) => ?_)
    · refine go_iloadN 36 rfl d18_35 rfl ?_
      exact go_ireturn d18_36 rfl (Or.inl rfl) rfl rfl (by decide) (by decide) (by rw [trim_b (by omega)]; exact ⟨rfl, rfl⟩)
    · refine go_iloadN 30 rfl d18_29 rfl ?_
      refine go_iconst (1 : Int32) 31 rfl d18_30 rfl ?_
      refine go_isub 32 rfl d18_31 rfl ?_
      refine go_goto 36 (by decide) rfl d18_32 ?_
      exact go_ireturn d18_36 rfl (Or.inl rfl) rfl rfl (by decide) (by decide) (by rw [trim_c (by omega) (by omega)]; exact ⟨rfl, rfl⟩)
def B19_55 : Bdy := (⟨"com/example/clauseline/clauseline/model/Line", "<init>", "([BII)V"⟩, prog_28_method_1_code, 4, none, ({ frames := 1, cells := 0, slots := 0, locals := 12 } : Room))
set_option maxRecDepth 65536 in
set_option maxHeartbeats 4000000 in
theorem mt55 (Z : State) (a0 : Array Value) (hw : ∀ d ∈ tables_1, d.before a0 Z = true) (h0 : Heap) (v93 v94 : List Value) (p71 p73 p74 : Int32) (hl : (1 : Int) < v93.length.toInt32.toInt) (he : v93[1]? = some (.int p71)) (hs : v93[0]? = some (.int p74)) (hy : (p74 + (1 : Int32)).toInt < p71.toInt → ¬ (p71 - (1 : Int32)) < 0 ∧ v94[(p71 - (1 : Int32)).toNatClampNeg]? = some (.int p73)) (a1 : Addr) (a221 : Addr) :
    Met B19_55 Z a0 h0 #[(.ref a221), (.ref a1), (.int (p74 + (1 : Int32))), (.int (trim (p74 + (1 : Int32)) p71 p73))] [ar a1 .byte v94, ob a221 "com/example/clauseline/clauseline/model/Line" [("com/example/clauseline/clauseline/model/Line", "bytes", "[B", .null), ("com/example/clauseline/clauseline/model/Line", "start", "I", (.int (0 : Int32))), ("com/example/clauseline/clauseline/model/Line", "end", "I", (.int (0 : Int32)))]] (Ret none [ar a1 .byte v94, ob a221 "com/example/clauseline/clauseline/model/Line" [("com/example/clauseline/clauseline/model/Line", "bytes", "[B", (.ref a1)), ("com/example/clauseline/clauseline/model/Line", "start", "I", (.int (p74 + (1 : Int32)))), ("com/example/clauseline/clauseline/model/Line", "end", "I", (.int (trim (p74 + (1 : Int32)) p71 p73)))]]) := by
  refine Met.of pn19 (ls := #[.val (.ref a221), .val (.ref a1), .val (.int (p74 + (1 : Int32))), .val (.int (trim (p74 + (1 : Int32)) p71 p73))]) (fun m => by first | (simp [entryFrame, mkF, argsToLocals, Value.category, B19_55]; done) | rfl) ?_
  show Go B19_55 Z a0 h0 _ 0 0 [ar a1 .byte v94, ob a221 "com/example/clauseline/clauseline/model/Line" [("com/example/clauseline/clauseline/model/Line", "bytes", "[B", .null), ("com/example/clauseline/clauseline/model/Line", "start", "I", (.int (0 : Int32))), ("com/example/clauseline/clauseline/model/Line", "end", "I", (.int (0 : Int32)))]] 0 #[.val (.ref a221), .val (.ref a1), .val (.int (p74 + (1 : Int32))), .val (.int (trim (p74 + (1 : Int32)) p71 p73))] []
  refine go_aloadN 1 rfl d19_0 rfl rfl ?_
  refine go_initObj 4 rfl d19_1 rfl (wd hw 115 rfl) (wd hw 17 rfl) (wd hw 18 rfl) rfl (by decide) (by decide) ?_
  refine go_aloadN 5 rfl d19_4 rfl rfl ?_
  refine go_aloadN 6 rfl d19_5 rfl rfl ?_
  refine go_put 1 0 9 rfl d19_6 rfl rfl rfl (wd hw 116 rfl) (Or.inr ⟨(wd hw 117 rfl), rfl, rfl⟩) (wd hw 104 rfl) (ty := (.array .byte)) (by decide) rfl rfl ?_
  show Go B19_55 Z a0 h0 _ 0 0 [ar a1 .byte v94, ob a221 "com/example/clauseline/clauseline/model/Line" [("com/example/clauseline/clauseline/model/Line", "bytes", "[B", (.ref a1)), ("com/example/clauseline/clauseline/model/Line", "start", "I", (.int (0 : Int32))), ("com/example/clauseline/clauseline/model/Line", "end", "I", (.int (0 : Int32)))]] 9 #[.val (.ref a221), .val (.ref a1), .val (.int (p74 + (1 : Int32))), .val (.int (trim (p74 + (1 : Int32)) p71 p73))] []
  refine go_aloadN 10 rfl d19_9 rfl rfl ?_
  refine go_iloadN 11 rfl d19_10 rfl ?_
  refine go_put 1 1 14 rfl d19_11 rfl rfl rfl (wd hw 118 rfl) (Or.inr ⟨(wd hw 119 rfl), rfl, rfl⟩) (wd hw 104 rfl) (ty := .int) (by decide) rfl rfl ?_
  show Go B19_55 Z a0 h0 _ 0 0 [ar a1 .byte v94, ob a221 "com/example/clauseline/clauseline/model/Line" [("com/example/clauseline/clauseline/model/Line", "bytes", "[B", (.ref a1)), ("com/example/clauseline/clauseline/model/Line", "start", "I", (.int (p74 + (1 : Int32)))), ("com/example/clauseline/clauseline/model/Line", "end", "I", (.int (0 : Int32)))]] 14 #[.val (.ref a221), .val (.ref a1), .val (.int (p74 + (1 : Int32))), .val (.int (trim (p74 + (1 : Int32)) p71 p73))] []
  refine go_aloadN 15 rfl d19_14 rfl rfl ?_
  refine go_iloadN 16 rfl d19_15 rfl ?_
  refine go_put 1 2 19 rfl d19_16 rfl rfl rfl (wd hw 120 rfl) (Or.inr ⟨(wd hw 121 rfl), rfl, rfl⟩) (wd hw 104 rfl) (ty := .int) (by decide) rfl rfl ?_
  show Go B19_55 Z a0 h0 _ 0 0 [ar a1 .byte v94, ob a221 "com/example/clauseline/clauseline/model/Line" [("com/example/clauseline/clauseline/model/Line", "bytes", "[B", (.ref a1)), ("com/example/clauseline/clauseline/model/Line", "start", "I", (.int (p74 + (1 : Int32)))), ("com/example/clauseline/clauseline/model/Line", "end", "I", (.int (trim (p74 + (1 : Int32)) p71 p73)))]] 19 #[.val (.ref a221), .val (.ref a1), .val (.int (p74 + (1 : Int32))), .val (.int (trim (p74 + (1 : Int32)) p71 p73))] []
  exact go_return d19_19 rfl rfl (by decide) (by decide) ⟨rfl, rfl⟩
def B14_48 : Bdy := (⟨"com/example/clauseline/clauseline/model/Document$Lines", "get", "(I)Lcom/example/clauseline/clauseline/model/Line;"⟩, prog_17_method_2_code, 5, (some (.object "com/example/clauseline/clauseline/model/Line")), ({ frames := 2, cells := 1, slots := 4, locals := 32 } : Room))
set_option maxRecDepth 65536 in
set_option maxHeartbeats 4000000 in
theorem mt48 (Z : State) (a0 : Array Value) (hw : ∀ d ∈ tables_1, d.before a0 Z = true) (h0 : Heap) (v93 v94 : List Value) (p71 p73 p74 : Int32) (hl : (1 : Int) < v93.length.toInt32.toInt) (he : v93[1]? = some (.int p71)) (hs : v93[0]? = some (.int p74)) (hy : (p74 + (1 : Int32)).toInt < p71.toInt → ¬ (p71 - (1 : Int32)) < 0 ∧ v94[(p71 - (1 : Int32)).toNatClampNeg]? = some (.int p73)) (a5 : Addr) (a6 : Addr) (a7 : Addr) (a1 : Addr) (a4 : Addr) (r1 : Value) :
    Met B14_48 Z a0 h0 #[(.ref a7), (.int (1 : Int32))] (mem67 a5 a6 a7 a1 a4 r1 v94 v93) (fun v ds => ∃ a221 : Addr, Ret (some (.ref a221)) (mem72 a1 v94 a221 p74 p71 p73 a5 a6 a7 a4 r1 v93) v ds) := by
  refine Met.of pn14 (ls := #[.val (.ref a7), .val (.int (1 : Int32)), .unset, .unset, .unset]) (fun m => by first | (simp [entryFrame, mkF, argsToLocals, Value.category, B14_48]; done) | rfl) ?_
  show Go B14_48 Z a0 h0 _ 0 0 (mem67 a5 a6 a7 a1 a4 r1 v94 v93) 0 #[.val (.ref a7), .val (.int (1 : Int32)), .unset, .unset, .unset] []
  refine go_iloadN 1 rfl d14_0 rfl ?_
  refine go_aloadN 2 rfl d14_1 rfl rfl ?_
  refine go_get 2 0 5 rfl d14_2 rfl rfl rfl (wd hw 29 rfl) ?_
  refine go_getN 0 3 8 rfl d14_5 rfl rfl rfl (wd hw 70 rfl) ?_
  refine go_alen 4 9 rfl d14_8 rfl rfl ?_
  refine go_callS 12 rfl d14_9 (wd hw 90 rfl) (wd hw 91 rfl) (wd hw 92 rfl) (wd hw 93 rfl) (by decide) (Met.frame (mem67 a5 a6 a7 a1 a4 r1 v94 v93) (mt49 Z a0 hw h0 v93 v94 p71 p73 p74 hl he hs hy)) (argsL := [(.int (1 : Int32)), (.int (v93.length.toInt32))]) (rest := []) rfl (ps := [.int, .int]) (by decide +kernel) rfl rfl 0 rfl (by decide) (by decide) (by decide) (by decide) ?_
  rintro _ _ ⟨_, ⟨rfl, rfl⟩, rfl⟩
  show Go B14_48 Z a0 h0 _ 0 0 (mem67 a5 a6 a7 a1 a4 r1 v94 v93) 12 #[.val (.ref a7), .val (.int (1 : Int32)), .unset, .unset, .unset] [(.int (1 : Int32))]
  refine go_pop 13 rfl d14_12 rfl rfl ?_
  refine go_iloadN 14 rfl d14_13 rfl ?_
  refine go_bipush (15 : Int32) 16 rfl d14_14 rfl ?_
  refine go_iand 17 rfl d14_16 rfl ?_
  show Go B14_48 Z a0 h0 _ 0 0 (mem67 a5 a6 a7 a1 a4 r1 v94 v93) 17 #[.val (.ref a7), .val (.int (1 : Int32)), .unset, .unset, .unset] [(.int (1 : Int32))]
  refine go_istoreN #[.val (.ref a7), .val (.int (1 : Int32)), .val (.int (1 : Int32)), .unset, .unset] 18 rfl d14_17 rfl rfl ?_
  refine go_aloadN 19 rfl d14_18 rfl rfl ?_
  refine go_get 2 0 22 rfl d14_19 rfl rfl rfl (wd hw 29 rfl) ?_
  refine go_getN 0 0 25 rfl d14_22 rfl rfl rfl (wd hw 98 rfl) ?_
  refine go_iloadN 26 rfl d14_25 rfl ?_
  refine go_aaload 27 rfl d14_26 rfl rfl (Mo.el (i := 1) rfl (by decide) rfl) ?_
  refine go_astoreN #[.val (.ref a7), .val (.int (1 : Int32)), .val (.int (1 : Int32)), .val .null, .unset] 28 rfl d14_27 rfl rfl rfl ?_
  refine go_aloadN 29 rfl d14_28 rfl rfl ?_
  refine go_get 2 0 32 rfl d14_29 rfl rfl rfl (wd hw 29 rfl) ?_
  refine go_iloadN 33 rfl d14_32 rfl ?_
  refine go_callP 36 rfl d14_33 (Or.inr (wd hw 99 rfl)) (wd hw 100 rfl) (wd hw 101 rfl) (wd hw 12 rfl) (wd hw 9 rfl) (wd hw 102 rfl) (by decide) (Mo.exa (i := 0) rfl) (mt51 Z a0 hw h0 v93 v94 p71 p73 p74 hl he hs hy a5 a6 a7 a1 a4 r1) (argsL := [(.int (1 : Int32))]) (rest := []) rfl (ps := [.int]) (by decide +kernel) rfl rfl 0 rfl (by decide) (by decide) (by decide) (by decide) ?_
  rintro _ _ ⟨rfl, rfl⟩
  show Go B14_48 Z a0 h0 _ 0 0 (mem67 a5 a6 a7 a1 a4 r1 v94 v93) 36 #[.val (.ref a7), .val (.int (1 : Int32)), .val (.int (1 : Int32)), .val .null, .unset] [(.int (p74 + (1 : Int32)))]
  refine go_istore #[.val (.ref a7), .val (.int (1 : Int32)), .val (.int (1 : Int32)), .val .null, .val (.int (p74 + (1 : Int32)))] 38 rfl d14_36 rfl rfl ?_
  refine go_aloadN 39 rfl d14_38 rfl rfl ?_
  refine go_ifnullY 51 (by decide) rfl d14_39 rfl ?_
  refine go_new 54 rfl d14_51 (wd hw 103 rfl) (wd hw 104 rfl) (wd hw 105 rfl) (by decide) (by decide) [("com/example/clauseline/clauseline/model/Line", "bytes", "[B", .null), ("com/example/clauseline/clauseline/model/Line", "start", "I", (.int (0 : Int32))), ("com/example/clauseline/clauseline/model/Line", "end", "I", (.int (0 : Int32)))] ⟨⟨Or.inr (wd hw 117 rfl), _, rfl, rfl⟩, ⟨⟨Or.inr (wd hw 119 rfl), _, rfl, rfl⟩, ⟨⟨Or.inr (wd hw 121 rfl), _, rfl, rfl⟩, trivial⟩⟩⟩ (by decide) (fun a221 => ?_)
  show Go B14_48 Z a0 h0 _ 1 4 (mem68 a5 a6 a7 a1 a4 r1 v94 v93 a221) 54 #[.val (.ref a7), .val (.int (1 : Int32)), .val (.int (1 : Int32)), .val .null, .val (.int (p74 + (1 : Int32)))] [(.ref a221)]
  refine go_dup 55 rfl d14_54 rfl rfl ?_
  refine go_aloadN 56 rfl d14_55 rfl rfl ?_
  refine go_get 2 0 59 rfl d14_56 rfl rfl rfl (wd hw 29 rfl) ?_
  refine go_getN 0 2 62 rfl d14_59 rfl rfl rfl (wd hw 106 rfl) ?_
  refine go_iload 64 rfl d14_62 rfl ?_
  refine go_aloadN 65 rfl d14_64 rfl rfl ?_
  refine go_get 2 0 68 rfl d14_65 rfl rfl rfl (wd hw 29 rfl) ?_
  refine go_iloadN 69 rfl d14_68 rfl ?_
  refine go_callP 72 rfl d14_69 (Or.inr (wd hw 107 rfl)) (wd hw 108 rfl) (wd hw 109 rfl) (wd hw 12 rfl) (wd hw 9 rfl) (wd hw 110 rfl) (by decide) (Mo.exa (i := 0) rfl) (Met.frame [ob a221 "com/example/clauseline/clauseline/model/Line" [("com/example/clauseline/clauseline/model/Line", "bytes", "[B", .null), ("com/example/clauseline/clauseline/model/Line", "start", "I", (.int (0 : Int32))), ("com/example/clauseline/clauseline/model/Line", "end", "I", (.int (0 : Int32)))]] (mt52 Z a0 hw h0 v93 v94 p71 p73 p74 hl he hs hy a5 a6 a7 a1 a4 r1)) (argsL := [(.int (1 : Int32))]) (rest := [(.int (p74 + (1 : Int32))), (.ref a1), (.ref a221), (.ref a221)]) rfl (ps := [.int]) (by decide +kernel) rfl rfl 4 rfl (by decide) (by decide) (by decide) (by decide) ?_
  rintro _ _ ⟨_, ⟨rfl, rfl⟩, rfl⟩
  show Go B14_48 Z a0 h0 _ 1 4 (mem68 a5 a6 a7 a1 a4 r1 v94 v93 a221) 72 #[.val (.ref a7), .val (.int (1 : Int32)), .val (.int (1 : Int32)), .val .null, .val (.int (p74 + (1 : Int32)))] [(.int (trim (p74 + (1 : Int32)) p71 p73)), (.int (p74 + (1 : Int32))), (.ref a1), (.ref a221), (.ref a221)]
  refine Go.front 5 (Nat.le_of_ble_eq_true rfl) ?_
  refine Go.front 4 (Nat.le_of_ble_eq_true rfl) ?_
  show Go B14_48 Z a0 h0 _ 1 4 (mem69 a1 v94 a221 a5 a6 a7 a4 r1 v93) 72 #[.val (.ref a7), .val (.int (1 : Int32)), .val (.int (1 : Int32)), .val .null, .val (.int (p74 + (1 : Int32)))] [(.int (trim (p74 + (1 : Int32)) p71 p73)), (.int (p74 + (1 : Int32))), (.ref a1), (.ref a221), (.ref a221)]
  refine go_callI 75 rfl d14_72 rfl (wd hw 112 rfl) (wd hw 113 rfl) (wd hw 105 rfl) (wd hw 114 rfl) (by decide) (Met.frame (mem70 a5 a6 a7 a1 a4 r1 v93) (mt55 Z a0 hw h0 v93 v94 p71 p73 p74 hl he hs hy a1 a221)) (argsL := [(.ref a1), (.int (p74 + (1 : Int32))), (.int (trim (p74 + (1 : Int32)) p71 p73))]) (rest := [(.ref a221)]) rfl (ret := none) (ps := [(.array .byte), .int, .int]) (by decide +kernel) rfl rfl 1 rfl (by decide) (by decide) (by decide) (by decide) ?_
  rintro _ _ ⟨_, ⟨rfl, rfl⟩, rfl⟩
  show Go B14_48 Z a0 h0 _ 1 4 (mem71 a1 v94 a221 p74 p71 p73 a5 a6 a7 a4 r1 v93) 75 #[.val (.ref a7), .val (.int (1 : Int32)), .val (.int (1 : Int32)), .val .null, .val (.int (p74 + (1 : Int32)))] [(.ref a221)]
  refine go_astoreN #[.val (.ref a7), .val (.int (1 : Int32)), .val (.int (1 : Int32)), .val (.ref a221), .val (.int (p74 + (1 : Int32)))] 76 rfl d14_75 rfl rfl rfl ?_
  refine go_aloadN 77 rfl d14_76 rfl rfl ?_
  refine go_get 4 0 80 rfl d14_77 rfl rfl rfl (wd hw 29 rfl) ?_
  refine go_getN 2 0 83 rfl d14_80 rfl rfl rfl (wd hw 98 rfl) ?_
  refine go_iloadN 84 rfl d14_83 rfl ?_
  refine go_aloadN 85 rfl d14_84 rfl rfl ?_
  refine go_aastore 3 86 rfl d14_85 rfl rfl rfl (by decide) (Nat.le_of_ble_eq_true rfl) (Mo.sto (i := 3) rfl (fun h M => Ins.self (Mo.exa (i := 1) rfl h M))) ?_
  show Go B14_48 Z a0 h0 _ 1 4 (mem72 a1 v94 a221 p74 p71 p73 a5 a6 a7 a4 r1 v93) 86 #[.val (.ref a7), .val (.int (1 : Int32)), .val (.int (1 : Int32)), .val (.ref a221), .val (.int (p74 + (1 : Int32)))] []
  refine go_aloadN 87 rfl d14_86 rfl rfl ?_
  exact go_areturn d14_87 rfl rfl rfl rfl (by decide) (by decide) ⟨a221, rfl, rfl⟩
def B13_47 : Bdy := (⟨"com/example/clauseline/clauseline/model/Document$Lines", "get", "(I)Ljava/lang/Object;"⟩, prog_17_method_4_code, 2, (some (.object "java/lang/Object")), ({ frames := 3, cells := 1, slots := 4, locals := 48 } : Room))
set_option maxRecDepth 65536 in
set_option maxHeartbeats 4000000 in
theorem mt47 (Z : State) (a0 : Array Value) (hw : ∀ d ∈ tables_1, d.before a0 Z = true) (h0 : Heap) (v93 v94 : List Value) (p71 p73 p74 : Int32) (hl : (1 : Int) < v93.length.toInt32.toInt) (he : v93[1]? = some (.int p71)) (hs : v93[0]? = some (.int p74)) (hy : (p74 + (1 : Int32)).toInt < p71.toInt → ¬ (p71 - (1 : Int32)) < 0 ∧ v94[(p71 - (1 : Int32)).toNatClampNeg]? = some (.int p73)) (a5 : Addr) (a6 : Addr) (a7 : Addr) (a1 : Addr) (a4 : Addr) (r1 : Value) :
    Met B13_47 Z a0 h0 #[(.ref a7), (.int (1 : Int32))] (mem67 a5 a6 a7 a1 a4 r1 v94 v93) (fun v ds => ∃ a121 : Addr, Ret (some (.ref a121)) (mem72 a1 v94 a121 p74 p71 p73 a5 a6 a7 a4 r1 v93) v ds) := by
  refine Met.of pn13 (ls := #[.val (.ref a7), .val (.int (1 : Int32))]) (fun m => by first | (simp [entryFrame, mkF, argsToLocals, Value.category, B13_47]; done) | rfl) ?_
  show Go B13_47 Z a0 h0 _ 0 0 (mem67 a5 a6 a7 a1 a4 r1 v94 v93) 0 #[.val (.ref a7), .val (.int (1 : Int32))] []
  refine go_aloadN 1 rfl d13_0 rfl rfl ?_
  refine go_iloadN 2 rfl d13_1 rfl ?_
  refine go_callV 5 rfl d13_2 (wd hw 85 rfl) (wd hw 86 rfl) (wd hw 88 rfl) (wd hw 87 rfl) (wd hw 25 rfl) (wd hw 89 rfl) (by decide) (Mo.exa (i := 2) rfl) (mt48 Z a0 hw h0 v93 v94 p71 p73 p74 hl he hs hy a5 a6 a7 a1 a4 r1) (argsL := [(.int (1 : Int32))]) (rest := []) rfl (ps := [.int]) (by decide +kernel) rfl rfl 0 rfl (by decide) (by decide) (by decide) (by decide) ?_
  rintro _ _ ⟨a121, rfl, rfl⟩
  show Go B13_47 Z a0 h0 _ 1 4 (mem72 a1 v94 a121 p74 p71 p73 a5 a6 a7 a4 r1 v93) 5 #[.val (.ref a7), .val (.int (1 : Int32))] [(.ref a121)]
  exact go_areturn d13_5 rfl rfl rfl rfl (by decide) (by decide) ⟨a121, rfl, rfl⟩
def B20_56 : Bdy := (⟨"com/example/clauseline/clauseline/model/Line", "start", "()I"⟩, prog_28_method_2_code, 1, (some .int), ({ frames := 0, cells := 0, slots := 0, locals := 0 } : Room))
set_option maxRecDepth 65536 in
set_option maxHeartbeats 4000000 in
theorem mt56 (Z : State) (a0 : Array Value) (hw : ∀ d ∈ tables_1, d.before a0 Z = true) (h0 : Heap) (v93 v94 : List Value) (p71 p73 p74 : Int32) (hl : (1 : Int) < v93.length.toInt32.toInt) (he : v93[1]? = some (.int p71)) (hs : v93[0]? = some (.int p74)) (hy : (p74 + (1 : Int32)).toInt < p71.toInt → ¬ (p71 - (1 : Int32)) < 0 ∧ v94[(p71 - (1 : Int32)).toNatClampNeg]? = some (.int p73)) (a1 : Addr) (a21 : Addr) :
    Met B20_56 Z a0 h0 #[(.ref a21)] [ar a1 .byte v94, ob a21 "com/example/clauseline/clauseline/model/Line" [("com/example/clauseline/clauseline/model/Line", "bytes", "[B", (.ref a1)), ("com/example/clauseline/clauseline/model/Line", "start", "I", (.int (p74 + (1 : Int32)))), ("com/example/clauseline/clauseline/model/Line", "end", "I", (.int (trim (p74 + (1 : Int32)) p71 p73)))]] (Ret (some (.int (p74 + (1 : Int32)))) [ar a1 .byte v94, ob a21 "com/example/clauseline/clauseline/model/Line" [("com/example/clauseline/clauseline/model/Line", "bytes", "[B", (.ref a1)), ("com/example/clauseline/clauseline/model/Line", "start", "I", (.int (p74 + (1 : Int32)))), ("com/example/clauseline/clauseline/model/Line", "end", "I", (.int (trim (p74 + (1 : Int32)) p71 p73)))]]) := by
  refine Met.of pn20 (ls := #[.val (.ref a21)]) (fun m => by first | (simp [entryFrame, mkF, argsToLocals, Value.category, B20_56]; done) | rfl) ?_
  show Go B20_56 Z a0 h0 _ 0 0 [ar a1 .byte v94, ob a21 "com/example/clauseline/clauseline/model/Line" [("com/example/clauseline/clauseline/model/Line", "bytes", "[B", (.ref a1)), ("com/example/clauseline/clauseline/model/Line", "start", "I", (.int (p74 + (1 : Int32)))), ("com/example/clauseline/clauseline/model/Line", "end", "I", (.int (trim (p74 + (1 : Int32)) p71 p73)))]] 0 #[.val (.ref a21)] []
  refine go_aloadN 1 rfl d20_0 rfl rfl ?_
  refine go_get 1 1 4 rfl d20_1 rfl rfl rfl (wd hw 118 rfl) ?_
  exact go_ireturn d20_4 rfl (Or.inl rfl) rfl rfl (by decide) (by decide) ⟨rfl, rfl⟩
def B21_57 : Bdy := (⟨"com/example/clauseline/clauseline/model/Line", "end", "()I"⟩, prog_28_method_3_code, 1, (some .int), ({ frames := 0, cells := 0, slots := 0, locals := 0 } : Room))
set_option maxRecDepth 65536 in
set_option maxHeartbeats 4000000 in
theorem mt57 (Z : State) (a0 : Array Value) (hw : ∀ d ∈ tables_1, d.before a0 Z = true) (h0 : Heap) (v93 v94 : List Value) (p71 p73 p74 : Int32) (hl : (1 : Int) < v93.length.toInt32.toInt) (he : v93[1]? = some (.int p71)) (hs : v93[0]? = some (.int p74)) (hy : (p74 + (1 : Int32)).toInt < p71.toInt → ¬ (p71 - (1 : Int32)) < 0 ∧ v94[(p71 - (1 : Int32)).toNatClampNeg]? = some (.int p73)) (a1 : Addr) (a21 : Addr) :
    Met B21_57 Z a0 h0 #[(.ref a21)] [ar a1 .byte v94, ob a21 "com/example/clauseline/clauseline/model/Line" [("com/example/clauseline/clauseline/model/Line", "bytes", "[B", (.ref a1)), ("com/example/clauseline/clauseline/model/Line", "start", "I", (.int (p74 + (1 : Int32)))), ("com/example/clauseline/clauseline/model/Line", "end", "I", (.int (trim (p74 + (1 : Int32)) p71 p73)))]] (Ret (some (.int (trim (p74 + (1 : Int32)) p71 p73))) [ar a1 .byte v94, ob a21 "com/example/clauseline/clauseline/model/Line" [("com/example/clauseline/clauseline/model/Line", "bytes", "[B", (.ref a1)), ("com/example/clauseline/clauseline/model/Line", "start", "I", (.int (p74 + (1 : Int32)))), ("com/example/clauseline/clauseline/model/Line", "end", "I", (.int (trim (p74 + (1 : Int32)) p71 p73)))]]) := by
  refine Met.of pn21 (ls := #[.val (.ref a21)]) (fun m => by first | (simp [entryFrame, mkF, argsToLocals, Value.category, B21_57]; done) | rfl) ?_
  show Go B21_57 Z a0 h0 _ 0 0 [ar a1 .byte v94, ob a21 "com/example/clauseline/clauseline/model/Line" [("com/example/clauseline/clauseline/model/Line", "bytes", "[B", (.ref a1)), ("com/example/clauseline/clauseline/model/Line", "start", "I", (.int (p74 + (1 : Int32)))), ("com/example/clauseline/clauseline/model/Line", "end", "I", (.int (trim (p74 + (1 : Int32)) p71 p73)))]] 0 #[.val (.ref a21)] []
  refine go_aloadN 1 rfl d21_0 rfl rfl ?_
  refine go_get 1 2 4 rfl d21_1 rfl rfl rfl (wd hw 120 rfl) ?_
  exact go_ireturn d21_4 rfl (Or.inl rfl) rfl rfl (by decide) (by decide) ⟨rfl, rfl⟩
def B11_j1 : Bdy := (⟨"com/example/clauseline/clauseline/model/DocumentOfPinLaw", "check", "(Ljava/util/List;II[I[I)Z"⟩, method_4_code, 6, (some .boolean), ({ frames := 4, cells := 1, slots := 4, locals := 61 } : Room))
set_option maxRecDepth 65536 in
set_option maxHeartbeats 4000000 in
theorem m_check1 (Z : State) (a0 : Array Value) (hw : ∀ d ∈ tables_1, d.before a0 Z = true) (h0 : Heap) (a1 a2 a3 a4 a5 a6 a7 : Addr) (v91 v92 v93 v94 : List Value) (p7 : Int32) (r1 : Value) (hf : (1 : Int) < p7.toInt → Fact1 v91 v92 v93 v94) :
    Met B11_j1 Z a0 h0 #[(.ref a7), (.int (1 : Int32)), (.int p7), (.ref a2), (.ref a3)] (mem54 a5 a6 a7 a1 a4 r1 v94 v93 a2 v91 a3 v92) (fun v ds => ∃ r9 : Value, Ret (some (.int 1)) (mem66 a5 a6 a7 a1 a4 r1 r9 v94 v93 a2 v91 a3 v92) v ds) := by
  refine Met.of pn11 (ls := #[.val (.ref a7), .val (.int (1 : Int32)), .val (.int p7), .val (.ref a2), .val (.ref a3), .unset]) (fun m => by first | (simp [entryFrame, mkF, argsToLocals, Value.category, B11_j1]; done) | rfl) ?_
  show Go B11_j1 Z a0 h0 _ 0 0 (mem54 a5 a6 a7 a1 a4 r1 v94 v93 a2 v91 a3 v92) 0 #[.val (.ref a7), .val (.int (1 : Int32)), .val (.int p7), .val (.ref a2), .val (.ref a3), .unset] []
  refine go_iloadN 1 rfl d11_0 rfl ?_
  refine go_iloadN 2 rfl d11_1 rfl ?_
  refine go_icmp 7 5 rfl (by decide) rfl d11_2 rfl (fun (hc2 : (1 : Int) < p7.toInt) => ?_) (fun (hc2 : ¬ ((1 : Int) < p7.toInt)) => ?_)
  · obtain ⟨p71, p73, p74, hl, he, hs, hy, hE, hF⟩ := hf hc2
    refine go_aloadN 8 rfl d11_7 rfl rfl ?_
    refine go_iloadN 9 rfl d11_8 rfl ?_
    refine go_callF 14 rfl d11_9 (wd hw 77 rfl) (wd hw 78 rfl) (wd hw 79 rfl) (by decide) (wd hw 80 rfl) (wd hw 81 rfl) (wd hw 82 rfl) (wd hw 83 rfl) (wd hw 68 rfl) (wd hw 25 rfl) (wd hw 84 rfl) (by decide) (Mo.exa (i := 2) rfl) (Met.frame [ar a2 .int v91, ar a3 .int v92] (mt47 Z a0 hw h0 v93 v94 p71 p73 p74 hl he hs hy a5 a6 a7 a1 a4 r1)) (argsL := [(.int (1 : Int32))]) (rest := []) rfl (ps := [.int]) (by decide +kernel) rfl rfl 0 rfl (by decide) (by decide) (by decide) (by decide) ?_
    rintro _ _ ⟨_, ⟨a21, rfl, rfl⟩, rfl⟩
    show Go B11_j1 Z a0 h0 _ 1 4 (mem73 a1 v94 a21 p74 p71 p73 a5 a6 a7 a4 r1 v93 a2 v91 a3 v92) 14 #[.val (.ref a7), .val (.int (1 : Int32)), .val (.int p7), .val (.ref a2), .val (.ref a3), .unset] [(.ref a21)]
    refine go_cast 17 rfl d11_14 rfl (wd hw 123 rfl) (fun h M => Ins.self (Mo.exa (i := 1) rfl h M)) ?_
    refine go_astore #[.val (.ref a7), .val (.int (1 : Int32)), .val (.int p7), .val (.ref a2), .val (.ref a3), .val (.ref a21)] 19 rfl d11_17 rfl rfl rfl ?_
    refine go_aload 21 rfl d11_19 rfl rfl ?_
    refine go_callV 24 rfl d11_21 (wd hw 124 rfl) (wd hw 125 rfl) (wd hw 127 rfl) (wd hw 126 rfl) (wd hw 105 rfl) (wd hw 128 rfl) (by decide) (Mo.exa (i := 1) rfl) (Met.frame (mem74 a5 a6 a7 a1 a4 r1 a21 v93 a2 v91 a3 v92) (mt56 Z a0 hw h0 v93 v94 p71 p73 p74 hl he hs hy a1 a21)) (argsL := []) (rest := []) rfl (ps := []) (by decide +kernel) rfl rfl 0 rfl (by decide) (by decide) (by decide) (by decide) ?_
    rintro _ _ ⟨_, ⟨rfl, rfl⟩, rfl⟩
    show Go B11_j1 Z a0 h0 _ 1 4 (mem73 a1 v94 a21 p74 p71 p73 a5 a6 a7 a4 r1 v93 a2 v91 a3 v92) 24 #[.val (.ref a7), .val (.int (1 : Int32)), .val (.int p7), .val (.ref a2), .val (.ref a3), .val (.ref a21)] [(.int (p74 + (1 : Int32)))]
    refine go_aloadN 25 rfl d11_24 rfl rfl ?_
    refine go_iloadN 26 rfl d11_25 rfl ?_
    refine go_iaload 27 rfl d11_26 rfl (v := (.int (p74 + (1 : Int32)))) (Mo.el (i := 6) rfl (by decide) hE) ?_
    refine go_icmp 46 30 rfl (by decide) rfl d11_27 rfl (fun (hc27 : (p74 + (1 : Int32)).toInt ≠ (p74 + (1 : Int32)).toInt) => absurd hc27 (by simp)) (fun (hc27 : ¬ ((p74 + (1 : Int32)).toInt ≠ (p74 + (1 : Int32)).toInt)) => ?_)
    refine go_aload 32 rfl d11_30 rfl rfl ?_
    refine go_callV 35 rfl d11_32 (wd hw 129 rfl) (wd hw 130 rfl) (wd hw 132 rfl) (wd hw 131 rfl) (wd hw 105 rfl) (wd hw 133 rfl) (by decide) (Mo.exa (i := 1) rfl) (Met.frame (mem74 a5 a6 a7 a1 a4 r1 a21 v93 a2 v91 a3 v92) (mt57 Z a0 hw h0 v93 v94 p71 p73 p74 hl he hs hy a1 a21)) (argsL := []) (rest := []) rfl (ps := []) (by decide +kernel) rfl rfl 0 rfl (by decide) (by decide) (by decide) (by decide) ?_
    rintro _ _ ⟨_, ⟨rfl, rfl⟩, rfl⟩
    show Go B11_j1 Z a0 h0 _ 1 4 (mem73 a1 v94 a21 p74 p71 p73 a5 a6 a7 a4 r1 v93 a2 v91 a3 v92) 35 #[.val (.ref a7), .val (.int (1 : Int32)), .val (.int p7), .val (.ref a2), .val (.ref a3), .val (.ref a21)] [(.int (trim (p74 + (1 : Int32)) p71 p73))]
    refine go_aload 37 rfl d11_35 rfl rfl ?_
    refine go_iloadN 38 rfl d11_37 rfl ?_
    refine go_iaload 39 rfl d11_38 rfl (v := (.int (trim (p74 + (1 : Int32)) p71 p73))) (Mo.el (i := 7) rfl (by decide) hF) ?_
    refine go_icmp 46 42 rfl (by decide) rfl d11_39 rfl (fun (hc39 : (trim (p74 + (1 : Int32)) p71 p73).toInt ≠ (trim (p74 + (1 : Int32)) p71 p73).toInt) => absurd hc39 (by simp)) (fun (hc39 : ¬ ((trim (p74 + (1 : Int32)) p71 p73).toInt ≠ (trim (p74 + (1 : Int32)) p71 p73).toInt)) => ?_)
    refine go_iconst (1 : Int32) 43 rfl d11_42 rfl ?_
    refine go_goto 47 (by decide) rfl d11_43 ?_
    refine Go.sub (ds' := (mem75 a1 v94 a5 a6 a7 a4 r1 a21 v93 a2 v91 a3 v92)) (.cons₂ _ (.cons _ (.cons₂ _ (.cons₂ _ (.cons₂ _ (.cons₂ _ (.cons₂ _ (.cons₂ _ .slnil)))))))) ?_
    refine Go.front 6 (Nat.le_of_ble_eq_true rfl) ?_
    refine Go.front 6 (Nat.le_of_ble_eq_true rfl) ?_
    refine Go.front 6 (Nat.le_of_ble_eq_true rfl) ?_
    refine Go.front 3 (Nat.le_of_ble_eq_true rfl) ?_
    refine Go.front 6 (Nat.le_of_ble_eq_true rfl) ?_
    refine Go.front 6 (Nat.le_of_ble_eq_true rfl) ?_
    refine Go.front 6 (Nat.le_of_ble_eq_true rfl) ?_
    show Go B11_j1 Z a0 h0 _ 1 4 (mem76 a5 a6 a7 a1 a4 r1 a21 v94 v93 a2 v91 a3 v92) 47 #[.val (.ref a7), .val (.int (1 : Int32)), .val (.int p7), .val (.ref a2), .val (.ref a3), .val (.ref a21)] [(.int (1 : Int32))]
    exact go_ireturn d11_47 rfl (Or.inr (Or.inl rfl)) rfl rfl (by decide) (by decide) ⟨_, rfl, rfl⟩
  · refine go_iconst (1 : Int32) 6 rfl d11_5 rfl ?_
    exact go_ireturn d11_6 rfl (Or.inr (Or.inl rfl)) rfl rfl (by decide) (by decide) ⟨.null, rfl, rfl⟩
def B16_61 : Bdy := (⟨"jdk/internal/util/Preconditions", "checkIndex", "(IILjava/util/function/BiFunction;)I"⟩, jdk_41_method_11_code, 3, (some .int), ({ frames := 0, cells := 0, slots := 0, locals := 0 } : Room))
set_option maxRecDepth 65536 in
set_option maxHeartbeats 4000000 in
theorem mt61 (Z : State) (a0 : Array Value) (hw : ∀ d ∈ tables_1, d.before a0 Z = true) (h0 : Heap) (v93 v94 : List Value) (p71 p73 p74 : Int32) (hl : (2 : Int) < v93.length.toInt32.toInt) (he : v93[2]? = some (.int p71)) (hs : v93[1]? = some (.int p74)) (hy : (p74 + (1 : Int32)).toInt < p71.toInt → ¬ (p71 - (1 : Int32)) < 0 ∧ v94[(p71 - (1 : Int32)).toNatClampNeg]? = some (.int p73)) :
    Met B16_61 Z a0 h0 #[(.int (2 : Int32)), (.int (v93.length.toInt32)), .null] [] (Ret (some (.int (2 : Int32))) []) := by
  refine Met.of pn16 (ls := #[.val (.int (2 : Int32)), .val (.int (v93.length.toInt32)), .val .null]) (fun m => by first | (simp [entryFrame, mkF, argsToLocals, Value.category, B16_61]; done) | rfl) ?_
  show Go B16_61 Z a0 h0 _ 0 0 [] 0 #[.val (.int (2 : Int32)), .val (.int (v93.length.toInt32)), .val .null] []
  refine go_iloadN 1 rfl d16_0 rfl ?_
  refine go_if 9 4 rfl (by decide) rfl d16_1 rfl (fun (hc1 : (2 : Int) < 0) => absurd hc1 (by decide)) (fun (hc1 : ¬ ((2 : Int) < 0)) => ?_)
  refine go_iloadN 5 rfl d16_4 rfl ?_
  refine go_iloadN 6 rfl d16_5 rfl ?_
  refine go_icmp 16 9 rfl (by decide) rfl d16_6 rfl (fun (hc6 : (2 : Int) < (v93.length.toInt32).toInt) => ?_) (fun (hc6 : ¬ ((2 : Int) < (v93.length.toInt32).toInt)) => absurd hc6 (by omega))
  refine go_iloadN 17 rfl d16_16 rfl ?_
  exact go_ireturn d16_17 rfl (Or.inl rfl) rfl rfl (by decide) (by decide) ⟨rfl, rfl⟩
def B15_60 : Bdy := (⟨"java/util/Objects", "checkIndex", "(II)I"⟩, jdk_31_method_17_code, 2, (some .int), ({ frames := 1, cells := 0, slots := 0, locals := 14 } : Room))
set_option maxRecDepth 65536 in
set_option maxHeartbeats 4000000 in
theorem mt60 (Z : State) (a0 : Array Value) (hw : ∀ d ∈ tables_1, d.before a0 Z = true) (h0 : Heap) (v93 v94 : List Value) (p71 p73 p74 : Int32) (hl : (2 : Int) < v93.length.toInt32.toInt) (he : v93[2]? = some (.int p71)) (hs : v93[1]? = some (.int p74)) (hy : (p74 + (1 : Int32)).toInt < p71.toInt → ¬ (p71 - (1 : Int32)) < 0 ∧ v94[(p71 - (1 : Int32)).toNatClampNeg]? = some (.int p73)) :
    Met B15_60 Z a0 h0 #[(.int (2 : Int32)), (.int (v93.length.toInt32))] [] (Ret (some (.int (2 : Int32))) []) := by
  refine Met.of pn15 (ls := #[.val (.int (2 : Int32)), .val (.int (v93.length.toInt32))]) (fun m => by first | (simp [entryFrame, mkF, argsToLocals, Value.category, B15_60]; done) | rfl) ?_
  show Go B15_60 Z a0 h0 _ 0 0 [] 0 #[.val (.int (2 : Int32)), .val (.int (v93.length.toInt32))] []
  refine go_iloadN 1 rfl d15_0 rfl ?_
  refine go_iloadN 2 rfl d15_1 rfl ?_
  refine go_aconstNull 3 rfl d15_2 ?_
  refine go_callS 6 rfl d15_3 (wd hw 94 rfl) (wd hw 95 rfl) (wd hw 96 rfl) (wd hw 97 rfl) (by decide) (mt61 Z a0 hw h0 v93 v94 p71 p73 p74 hl he hs hy) (argsL := [(.int (2 : Int32)), (.int (v93.length.toInt32)), .null]) (rest := []) rfl (ps := [.int, .int, (.object "java/util/function/BiFunction")]) (by decide +kernel) rfl rfl 0 rfl (by decide) (by decide) (by decide) (by decide) ?_
  rintro _ _ ⟨rfl, rfl⟩
  show Go B15_60 Z a0 h0 _ 0 0 [] 6 #[.val (.int (2 : Int32)), .val (.int (v93.length.toInt32))] [(.int (2 : Int32))]
  exact go_ireturn d15_6 rfl (Or.inl rfl) rfl rfl (by decide) (by decide) ⟨rfl, rfl⟩
def B17_62 : Bdy := (⟨"com/example/clauseline/clauseline/model/Document", "start", "(I)I"⟩, prog_16_method_7_code, 2, (some .int), ({ frames := 0, cells := 0, slots := 0, locals := 0 } : Room))
set_option maxRecDepth 65536 in
set_option maxHeartbeats 4000000 in
theorem mt62 (Z : State) (a0 : Array Value) (hw : ∀ d ∈ tables_1, d.before a0 Z = true) (h0 : Heap) (v93 v94 : List Value) (p71 p73 p74 : Int32) (hl : (2 : Int) < v93.length.toInt32.toInt) (he : v93[2]? = some (.int p71)) (hs : v93[1]? = some (.int p74)) (hy : (p74 + (1 : Int32)).toInt < p71.toInt → ¬ (p71 - (1 : Int32)) < 0 ∧ v94[(p71 - (1 : Int32)).toNatClampNeg]? = some (.int p73)) (a5 : Addr) (a6 : Addr) (a7 : Addr) (a1 : Addr) (a4 : Addr) (r1 : Value) (r2 : Value) :
    Met B17_62 Z a0 h0 #[(.ref a5), (.int (2 : Int32))] (mem78 a5 a6 a7 a1 a4 r1 r2 v94 v93) (Ret (some (.int (p74 + (1 : Int32)))) (mem78 a5 a6 a7 a1 a4 r1 r2 v94 v93)) := by
  refine Met.of pn17 (ls := #[.val (.ref a5), .val (.int (2 : Int32))]) (fun m => by first | (simp [entryFrame, mkF, argsToLocals, Value.category, B17_62]; done) | rfl) ?_
  show Go B17_62 Z a0 h0 _ 0 0 (mem78 a5 a6 a7 a1 a4 r1 r2 v94 v93) 0 #[.val (.ref a5), .val (.int (2 : Int32))] []
  refine go_iloadN 1 rfl d17_0 rfl ?_
  refine go_if 8 4 rfl (by decide) rfl d17_1 rfl (fun (hc1 : (2 : Int) ≠ 0) => ?_) (fun (hc1 : ¬ ((2 : Int) ≠ 0)) => absurd hc1 (by decide))
  refine go_aloadN 9 rfl d17_8 rfl rfl ?_
  refine go_get 0 3 12 rfl d17_9 rfl rfl rfl (wd hw 49 rfl) ?_
  refine go_iloadN 13 rfl d17_12 rfl ?_
  refine go_iconst (1 : Int32) 14 rfl d17_13 rfl ?_
  refine go_isub 15 rfl d17_14 rfl ?_
  show Go B17_62 Z a0 h0 _ 0 0 (mem78 a5 a6 a7 a1 a4 r1 r2 v94 v93) 15 #[.val (.ref a5), .val (.int (2 : Int32))] [(.int (1 : Int32)), (.ref a4)]
  refine go_iaload 16 rfl d17_15 rfl (v := (.int p74)) (Mo.el (i := 4) rfl (by decide) hs) ?_
  refine go_iconst (1 : Int32) 17 rfl d17_16 rfl ?_
  refine go_iadd 18 rfl d17_17 rfl ?_
  exact go_ireturn d17_18 rfl (Or.inl rfl) rfl rfl (by decide) (by decide) ⟨rfl, rfl⟩
def B18_63 : Bdy := (⟨"com/example/clauseline/clauseline/model/Document", "textEnd", "(I)I"⟩, prog_16_method_8_code, 3, (some .int), ({ frames := 1, cells := 0, slots := 0, locals := 14 } : Room))
set_option maxRecDepth 65536 in
set_option maxHeartbeats 4000000 in
theorem mt63 (Z : State) (a0 : Array Value) (hw : ∀ d ∈ tables_1, d.before a0 Z = true) (h0 : Heap) (v93 v94 : List Value) (p71 p73 p74 : Int32) (hl : (2 : Int) < v93.length.toInt32.toInt) (he : v93[2]? = some (.int p71)) (hs : v93[1]? = some (.int p74)) (hy : (p74 + (1 : Int32)).toInt < p71.toInt → ¬ (p71 - (1 : Int32)) < 0 ∧ v94[(p71 - (1 : Int32)).toNatClampNeg]? = some (.int p73)) (a5 : Addr) (a6 : Addr) (a7 : Addr) (a1 : Addr) (a4 : Addr) (r1 : Value) (r2 : Value) :
    Met B18_63 Z a0 h0 #[(.ref a5), (.int (2 : Int32))] (mem78 a5 a6 a7 a1 a4 r1 r2 v94 v93) (Ret (some (.int (trim (p74 + (1 : Int32)) p71 p73))) (mem78 a5 a6 a7 a1 a4 r1 r2 v94 v93)) := by
  refine Met.of pn18 (ls := #[.val (.ref a5), .val (.int (2 : Int32)), .unset]) (fun m => by first | (simp [entryFrame, mkF, argsToLocals, Value.category, B18_63]; done) | rfl) ?_
  show Go B18_63 Z a0 h0 _ 0 0 (mem78 a5 a6 a7 a1 a4 r1 r2 v94 v93) 0 #[.val (.ref a5), .val (.int (2 : Int32)), .unset] []
  refine go_aloadN 1 rfl d18_0 rfl rfl ?_
  refine go_get 0 3 4 rfl d18_1 rfl rfl rfl (wd hw 49 rfl) ?_
  refine go_iloadN 5 rfl d18_4 rfl ?_
  refine go_iaload 6 rfl d18_5 rfl (v := (.int p71)) (Mo.el (i := 4) rfl (by decide) he) ?_
  refine go_istoreN #[.val (.ref a5), .val (.int (2 : Int32)), .val (.int p71)] 7 rfl d18_6 rfl rfl ?_
  refine go_iloadN 8 rfl d18_7 rfl ?_
  refine go_aloadN 9 rfl d18_8 rfl rfl ?_
  refine go_iloadN 10 rfl d18_9 rfl ?_
  refine go_callP (host := "") 13 rfl d18_10 (Or.inl (wd hw 111 rfl)) (wd hw 100 rfl) (wd hw 101 rfl) (wd hw 12 rfl) (wd hw 9 rfl) (wd hw 102 rfl) (by decide) (Mo.exa (i := 0) rfl) (mt62 Z a0 hw h0 v93 v94 p71 p73 p74 hl he hs hy a5 a6 a7 a1 a4 r1 r2) (argsL := [(.int (2 : Int32))]) (rest := [(.int p71)]) rfl (ps := [.int]) (by decide +kernel) rfl rfl 1 rfl (by decide) (by decide) (by decide) (by decide) ?_
  rintro _ _ ⟨rfl, rfl⟩
  show Go B18_63 Z a0 h0 _ 0 0 (mem78 a5 a6 a7 a1 a4 r1 r2 v94 v93) 13 #[.val (.ref a5), .val (.int (2 : Int32)), .val (.int p71)] [(.int (p74 + (1 : Int32))), (.int p71)]
  refine go_icmp 35 16 rfl (by decide) rfl d18_13 rfl (fun (hc13_63 : p71.toInt ≤ (p74 + (1 : Int32)).toInt) => ?_) (fun (hc13_63 : ¬ (p71.toInt ≤ (p74 + (1 : Int32)).toInt)) => ?_)
  · refine go_iloadN 36 rfl d18_35 rfl ?_
    exact go_ireturn d18_36 rfl (Or.inl rfl) rfl rfl (by decide) (by decide) (by rw [trim_a (by omega)]; exact ⟨rfl, rfl⟩)
  · refine go_aloadN 17 rfl d18_16 rfl rfl ?_
    refine go_get 0 2 20 rfl d18_17 rfl rfl rfl (wd hw 47 rfl) ?_
    refine go_iloadN 21 rfl d18_20 rfl ?_
    refine go_iconst (1 : Int32) 22 rfl d18_21 rfl ?_
    refine go_isub 23 rfl d18_22 rfl ?_
    have hy2 := hy (by omega)
    refine go_baload 24 rfl d18_23 rfl (v := (.int p73)) (Mo.el (i := 3) rfl hy2.1 hy2.2) ?_
    refine go_bipush (13 : Int32) 26 rfl d18_24 rfl ?_
    refine go_icmp 35 29 rfl (by decide) rfl d18_26 rfl (fun (hc26_64 : p73.toInt ≠ (13 : Int)) => ?_) (fun (hc26_64 : ¬ (p73.toInt ≠ (13 : Int))) => ?_)
    · refine go_iloadN 36 rfl d18_35 rfl ?_
      exact go_ireturn d18_36 rfl (Or.inl rfl) rfl rfl (by decide) (by decide) (by rw [trim_b (by omega)]; exact ⟨rfl, rfl⟩)
    · refine go_iloadN 30 rfl d18_29 rfl ?_
      refine go_iconst (1 : Int32) 31 rfl d18_30 rfl ?_
      refine go_isub 32 rfl d18_31 rfl ?_
      refine go_goto 36 (by decide) rfl d18_32 ?_
      exact go_ireturn d18_36 rfl (Or.inl rfl) rfl rfl (by decide) (by decide) (by rw [trim_c (by omega) (by omega)]; exact ⟨rfl, rfl⟩)
def B19_66 : Bdy := (⟨"com/example/clauseline/clauseline/model/Line", "<init>", "([BII)V"⟩, prog_28_method_1_code, 4, none, ({ frames := 1, cells := 0, slots := 0, locals := 12 } : Room))
set_option maxRecDepth 65536 in
set_option maxHeartbeats 4000000 in
theorem mt66 (Z : State) (a0 : Array Value) (hw : ∀ d ∈ tables_1, d.before a0 Z = true) (h0 : Heap) (v93 v94 : List Value) (p71 p73 p74 : Int32) (hl : (2 : Int) < v93.length.toInt32.toInt) (he : v93[2]? = some (.int p71)) (hs : v93[1]? = some (.int p74)) (hy : (p74 + (1 : Int32)).toInt < p71.toInt → ¬ (p71 - (1 : Int32)) < 0 ∧ v94[(p71 - (1 : Int32)).toNatClampNeg]? = some (.int p73)) (a1 : Addr) (a221 : Addr) :
    Met B19_66 Z a0 h0 #[(.ref a221), (.ref a1), (.int (p74 + (1 : Int32))), (.int (trim (p74 + (1 : Int32)) p71 p73))] [ar a1 .byte v94, ob a221 "com/example/clauseline/clauseline/model/Line" [("com/example/clauseline/clauseline/model/Line", "bytes", "[B", .null), ("com/example/clauseline/clauseline/model/Line", "start", "I", (.int (0 : Int32))), ("com/example/clauseline/clauseline/model/Line", "end", "I", (.int (0 : Int32)))]] (Ret none [ar a1 .byte v94, ob a221 "com/example/clauseline/clauseline/model/Line" [("com/example/clauseline/clauseline/model/Line", "bytes", "[B", (.ref a1)), ("com/example/clauseline/clauseline/model/Line", "start", "I", (.int (p74 + (1 : Int32)))), ("com/example/clauseline/clauseline/model/Line", "end", "I", (.int (trim (p74 + (1 : Int32)) p71 p73)))]]) := by
  refine Met.of pn19 (ls := #[.val (.ref a221), .val (.ref a1), .val (.int (p74 + (1 : Int32))), .val (.int (trim (p74 + (1 : Int32)) p71 p73))]) (fun m => by first | (simp [entryFrame, mkF, argsToLocals, Value.category, B19_66]; done) | rfl) ?_
  show Go B19_66 Z a0 h0 _ 0 0 [ar a1 .byte v94, ob a221 "com/example/clauseline/clauseline/model/Line" [("com/example/clauseline/clauseline/model/Line", "bytes", "[B", .null), ("com/example/clauseline/clauseline/model/Line", "start", "I", (.int (0 : Int32))), ("com/example/clauseline/clauseline/model/Line", "end", "I", (.int (0 : Int32)))]] 0 #[.val (.ref a221), .val (.ref a1), .val (.int (p74 + (1 : Int32))), .val (.int (trim (p74 + (1 : Int32)) p71 p73))] []
  refine go_aloadN 1 rfl d19_0 rfl rfl ?_
  refine go_initObj 4 rfl d19_1 rfl (wd hw 115 rfl) (wd hw 17 rfl) (wd hw 18 rfl) rfl (by decide) (by decide) ?_
  refine go_aloadN 5 rfl d19_4 rfl rfl ?_
  refine go_aloadN 6 rfl d19_5 rfl rfl ?_
  refine go_put 1 0 9 rfl d19_6 rfl rfl rfl (wd hw 116 rfl) (Or.inr ⟨(wd hw 117 rfl), rfl, rfl⟩) (wd hw 104 rfl) (ty := (.array .byte)) (by decide) rfl rfl ?_
  show Go B19_66 Z a0 h0 _ 0 0 [ar a1 .byte v94, ob a221 "com/example/clauseline/clauseline/model/Line" [("com/example/clauseline/clauseline/model/Line", "bytes", "[B", (.ref a1)), ("com/example/clauseline/clauseline/model/Line", "start", "I", (.int (0 : Int32))), ("com/example/clauseline/clauseline/model/Line", "end", "I", (.int (0 : Int32)))]] 9 #[.val (.ref a221), .val (.ref a1), .val (.int (p74 + (1 : Int32))), .val (.int (trim (p74 + (1 : Int32)) p71 p73))] []
  refine go_aloadN 10 rfl d19_9 rfl rfl ?_
  refine go_iloadN 11 rfl d19_10 rfl ?_
  refine go_put 1 1 14 rfl d19_11 rfl rfl rfl (wd hw 118 rfl) (Or.inr ⟨(wd hw 119 rfl), rfl, rfl⟩) (wd hw 104 rfl) (ty := .int) (by decide) rfl rfl ?_
  show Go B19_66 Z a0 h0 _ 0 0 [ar a1 .byte v94, ob a221 "com/example/clauseline/clauseline/model/Line" [("com/example/clauseline/clauseline/model/Line", "bytes", "[B", (.ref a1)), ("com/example/clauseline/clauseline/model/Line", "start", "I", (.int (p74 + (1 : Int32)))), ("com/example/clauseline/clauseline/model/Line", "end", "I", (.int (0 : Int32)))]] 14 #[.val (.ref a221), .val (.ref a1), .val (.int (p74 + (1 : Int32))), .val (.int (trim (p74 + (1 : Int32)) p71 p73))] []
  refine go_aloadN 15 rfl d19_14 rfl rfl ?_
  refine go_iloadN 16 rfl d19_15 rfl ?_
  refine go_put 1 2 19 rfl d19_16 rfl rfl rfl (wd hw 120 rfl) (Or.inr ⟨(wd hw 121 rfl), rfl, rfl⟩) (wd hw 104 rfl) (ty := .int) (by decide) rfl rfl ?_
  show Go B19_66 Z a0 h0 _ 0 0 [ar a1 .byte v94, ob a221 "com/example/clauseline/clauseline/model/Line" [("com/example/clauseline/clauseline/model/Line", "bytes", "[B", (.ref a1)), ("com/example/clauseline/clauseline/model/Line", "start", "I", (.int (p74 + (1 : Int32)))), ("com/example/clauseline/clauseline/model/Line", "end", "I", (.int (trim (p74 + (1 : Int32)) p71 p73)))]] 19 #[.val (.ref a221), .val (.ref a1), .val (.int (p74 + (1 : Int32))), .val (.int (trim (p74 + (1 : Int32)) p71 p73))] []
  exact go_return d19_19 rfl rfl (by decide) (by decide) ⟨rfl, rfl⟩
def B14_59 : Bdy := (⟨"com/example/clauseline/clauseline/model/Document$Lines", "get", "(I)Lcom/example/clauseline/clauseline/model/Line;"⟩, prog_17_method_2_code, 5, (some (.object "com/example/clauseline/clauseline/model/Line")), ({ frames := 2, cells := 1, slots := 4, locals := 32 } : Room))
set_option maxRecDepth 65536 in
set_option maxHeartbeats 4000000 in
theorem mt59 (Z : State) (a0 : Array Value) (hw : ∀ d ∈ tables_1, d.before a0 Z = true) (h0 : Heap) (v93 v94 : List Value) (p71 p73 p74 : Int32) (hl : (2 : Int) < v93.length.toInt32.toInt) (he : v93[2]? = some (.int p71)) (hs : v93[1]? = some (.int p74)) (hy : (p74 + (1 : Int32)).toInt < p71.toInt → ¬ (p71 - (1 : Int32)) < 0 ∧ v94[(p71 - (1 : Int32)).toNatClampNeg]? = some (.int p73)) (a5 : Addr) (a6 : Addr) (a7 : Addr) (a1 : Addr) (a4 : Addr) (r1 : Value) (r2 : Value) :
    Met B14_59 Z a0 h0 #[(.ref a7), (.int (2 : Int32))] (mem78 a5 a6 a7 a1 a4 r1 r2 v94 v93) (fun v ds => ∃ a221 : Addr, Ret (some (.ref a221)) (mem83 a1 v94 a221 p74 p71 p73 a5 a6 a7 a4 r1 r2 v93) v ds) := by
  refine Met.of pn14 (ls := #[.val (.ref a7), .val (.int (2 : Int32)), .unset, .unset, .unset]) (fun m => by first | (simp [entryFrame, mkF, argsToLocals, Value.category, B14_59]; done) | rfl) ?_
  show Go B14_59 Z a0 h0 _ 0 0 (mem78 a5 a6 a7 a1 a4 r1 r2 v94 v93) 0 #[.val (.ref a7), .val (.int (2 : Int32)), .unset, .unset, .unset] []
  refine go_iloadN 1 rfl d14_0 rfl ?_
  refine go_aloadN 2 rfl d14_1 rfl rfl ?_
  refine go_get 2 0 5 rfl d14_2 rfl rfl rfl (wd hw 29 rfl) ?_
  refine go_getN 0 3 8 rfl d14_5 rfl rfl rfl (wd hw 70 rfl) ?_
  refine go_alen 4 9 rfl d14_8 rfl rfl ?_
  refine go_callS 12 rfl d14_9 (wd hw 90 rfl) (wd hw 91 rfl) (wd hw 92 rfl) (wd hw 93 rfl) (by decide) (Met.frame (mem78 a5 a6 a7 a1 a4 r1 r2 v94 v93) (mt60 Z a0 hw h0 v93 v94 p71 p73 p74 hl he hs hy)) (argsL := [(.int (2 : Int32)), (.int (v93.length.toInt32))]) (rest := []) rfl (ps := [.int, .int]) (by decide +kernel) rfl rfl 0 rfl (by decide) (by decide) (by decide) (by decide) ?_
  rintro _ _ ⟨_, ⟨rfl, rfl⟩, rfl⟩
  show Go B14_59 Z a0 h0 _ 0 0 (mem78 a5 a6 a7 a1 a4 r1 r2 v94 v93) 12 #[.val (.ref a7), .val (.int (2 : Int32)), .unset, .unset, .unset] [(.int (2 : Int32))]
  refine go_pop 13 rfl d14_12 rfl rfl ?_
  refine go_iloadN 14 rfl d14_13 rfl ?_
  refine go_bipush (15 : Int32) 16 rfl d14_14 rfl ?_
  refine go_iand 17 rfl d14_16 rfl ?_
  show Go B14_59 Z a0 h0 _ 0 0 (mem78 a5 a6 a7 a1 a4 r1 r2 v94 v93) 17 #[.val (.ref a7), .val (.int (2 : Int32)), .unset, .unset, .unset] [(.int (2 : Int32))]
  refine go_istoreN #[.val (.ref a7), .val (.int (2 : Int32)), .val (.int (2 : Int32)), .unset, .unset] 18 rfl d14_17 rfl rfl ?_
  refine go_aloadN 19 rfl d14_18 rfl rfl ?_
  refine go_get 2 0 22 rfl d14_19 rfl rfl rfl (wd hw 29 rfl) ?_
  refine go_getN 0 0 25 rfl d14_22 rfl rfl rfl (wd hw 98 rfl) ?_
  refine go_iloadN 26 rfl d14_25 rfl ?_
  refine go_aaload 27 rfl d14_26 rfl rfl (Mo.el (i := 1) rfl (by decide) rfl) ?_
  refine go_astoreN #[.val (.ref a7), .val (.int (2 : Int32)), .val (.int (2 : Int32)), .val .null, .unset] 28 rfl d14_27 rfl rfl rfl ?_
  refine go_aloadN 29 rfl d14_28 rfl rfl ?_
  refine go_get 2 0 32 rfl d14_29 rfl rfl rfl (wd hw 29 rfl) ?_
  refine go_iloadN 33 rfl d14_32 rfl ?_
  refine go_callP 36 rfl d14_33 (Or.inr (wd hw 99 rfl)) (wd hw 100 rfl) (wd hw 101 rfl) (wd hw 12 rfl) (wd hw 9 rfl) (wd hw 102 rfl) (by decide) (Mo.exa (i := 0) rfl) (mt62 Z a0 hw h0 v93 v94 p71 p73 p74 hl he hs hy a5 a6 a7 a1 a4 r1 r2) (argsL := [(.int (2 : Int32))]) (rest := []) rfl (ps := [.int]) (by decide +kernel) rfl rfl 0 rfl (by decide) (by decide) (by decide) (by decide) ?_
  rintro _ _ ⟨rfl, rfl⟩
  show Go B14_59 Z a0 h0 _ 0 0 (mem78 a5 a6 a7 a1 a4 r1 r2 v94 v93) 36 #[.val (.ref a7), .val (.int (2 : Int32)), .val (.int (2 : Int32)), .val .null, .unset] [(.int (p74 + (1 : Int32)))]
  refine go_istore #[.val (.ref a7), .val (.int (2 : Int32)), .val (.int (2 : Int32)), .val .null, .val (.int (p74 + (1 : Int32)))] 38 rfl d14_36 rfl rfl ?_
  refine go_aloadN 39 rfl d14_38 rfl rfl ?_
  refine go_ifnullY 51 (by decide) rfl d14_39 rfl ?_
  refine go_new 54 rfl d14_51 (wd hw 103 rfl) (wd hw 104 rfl) (wd hw 105 rfl) (by decide) (by decide) [("com/example/clauseline/clauseline/model/Line", "bytes", "[B", .null), ("com/example/clauseline/clauseline/model/Line", "start", "I", (.int (0 : Int32))), ("com/example/clauseline/clauseline/model/Line", "end", "I", (.int (0 : Int32)))] ⟨⟨Or.inr (wd hw 117 rfl), _, rfl, rfl⟩, ⟨⟨Or.inr (wd hw 119 rfl), _, rfl, rfl⟩, ⟨⟨Or.inr (wd hw 121 rfl), _, rfl, rfl⟩, trivial⟩⟩⟩ (by decide) (fun a221 => ?_)
  show Go B14_59 Z a0 h0 _ 1 4 (mem79 a5 a6 a7 a1 a4 r1 r2 v94 v93 a221) 54 #[.val (.ref a7), .val (.int (2 : Int32)), .val (.int (2 : Int32)), .val .null, .val (.int (p74 + (1 : Int32)))] [(.ref a221)]
  refine go_dup 55 rfl d14_54 rfl rfl ?_
  refine go_aloadN 56 rfl d14_55 rfl rfl ?_
  refine go_get 2 0 59 rfl d14_56 rfl rfl rfl (wd hw 29 rfl) ?_
  refine go_getN 0 2 62 rfl d14_59 rfl rfl rfl (wd hw 106 rfl) ?_
  refine go_iload 64 rfl d14_62 rfl ?_
  refine go_aloadN 65 rfl d14_64 rfl rfl ?_
  refine go_get 2 0 68 rfl d14_65 rfl rfl rfl (wd hw 29 rfl) ?_
  refine go_iloadN 69 rfl d14_68 rfl ?_
  refine go_callP 72 rfl d14_69 (Or.inr (wd hw 107 rfl)) (wd hw 108 rfl) (wd hw 109 rfl) (wd hw 12 rfl) (wd hw 9 rfl) (wd hw 110 rfl) (by decide) (Mo.exa (i := 0) rfl) (Met.frame [ob a221 "com/example/clauseline/clauseline/model/Line" [("com/example/clauseline/clauseline/model/Line", "bytes", "[B", .null), ("com/example/clauseline/clauseline/model/Line", "start", "I", (.int (0 : Int32))), ("com/example/clauseline/clauseline/model/Line", "end", "I", (.int (0 : Int32)))]] (mt63 Z a0 hw h0 v93 v94 p71 p73 p74 hl he hs hy a5 a6 a7 a1 a4 r1 r2)) (argsL := [(.int (2 : Int32))]) (rest := [(.int (p74 + (1 : Int32))), (.ref a1), (.ref a221), (.ref a221)]) rfl (ps := [.int]) (by decide +kernel) rfl rfl 4 rfl (by decide) (by decide) (by decide) (by decide) ?_
  rintro _ _ ⟨_, ⟨rfl, rfl⟩, rfl⟩
  show Go B14_59 Z a0 h0 _ 1 4 (mem79 a5 a6 a7 a1 a4 r1 r2 v94 v93 a221) 72 #[.val (.ref a7), .val (.int (2 : Int32)), .val (.int (2 : Int32)), .val .null, .val (.int (p74 + (1 : Int32)))] [(.int (trim (p74 + (1 : Int32)) p71 p73)), (.int (p74 + (1 : Int32))), (.ref a1), (.ref a221), (.ref a221)]
  refine Go.front 5 (Nat.le_of_ble_eq_true rfl) ?_
  refine Go.front 4 (Nat.le_of_ble_eq_true rfl) ?_
  show Go B14_59 Z a0 h0 _ 1 4 (mem80 a1 v94 a221 a5 a6 a7 a4 r1 r2 v93) 72 #[.val (.ref a7), .val (.int (2 : Int32)), .val (.int (2 : Int32)), .val .null, .val (.int (p74 + (1 : Int32)))] [(.int (trim (p74 + (1 : Int32)) p71 p73)), (.int (p74 + (1 : Int32))), (.ref a1), (.ref a221), (.ref a221)]
  refine go_callI 75 rfl d14_72 rfl (wd hw 112 rfl) (wd hw 113 rfl) (wd hw 105 rfl) (wd hw 114 rfl) (by decide) (Met.frame (mem81 a5 a6 a7 a1 a4 r1 r2 v93) (mt66 Z a0 hw h0 v93 v94 p71 p73 p74 hl he hs hy a1 a221)) (argsL := [(.ref a1), (.int (p74 + (1 : Int32))), (.int (trim (p74 + (1 : Int32)) p71 p73))]) (rest := [(.ref a221)]) rfl (ret := none) (ps := [(.array .byte), .int, .int]) (by decide +kernel) rfl rfl 1 rfl (by decide) (by decide) (by decide) (by decide) ?_
  rintro _ _ ⟨_, ⟨rfl, rfl⟩, rfl⟩
  show Go B14_59 Z a0 h0 _ 1 4 (mem82 a1 v94 a221 p74 p71 p73 a5 a6 a7 a4 r1 r2 v93) 75 #[.val (.ref a7), .val (.int (2 : Int32)), .val (.int (2 : Int32)), .val .null, .val (.int (p74 + (1 : Int32)))] [(.ref a221)]
  refine go_astoreN #[.val (.ref a7), .val (.int (2 : Int32)), .val (.int (2 : Int32)), .val (.ref a221), .val (.int (p74 + (1 : Int32)))] 76 rfl d14_75 rfl rfl rfl ?_
  refine go_aloadN 77 rfl d14_76 rfl rfl ?_
  refine go_get 4 0 80 rfl d14_77 rfl rfl rfl (wd hw 29 rfl) ?_
  refine go_getN 2 0 83 rfl d14_80 rfl rfl rfl (wd hw 98 rfl) ?_
  refine go_iloadN 84 rfl d14_83 rfl ?_
  refine go_aloadN 85 rfl d14_84 rfl rfl ?_
  refine go_aastore 3 86 rfl d14_85 rfl rfl rfl (by decide) (Nat.le_of_ble_eq_true rfl) (Mo.sto (i := 3) rfl (fun h M => Ins.self (Mo.exa (i := 1) rfl h M))) ?_
  show Go B14_59 Z a0 h0 _ 1 4 (mem83 a1 v94 a221 p74 p71 p73 a5 a6 a7 a4 r1 r2 v93) 86 #[.val (.ref a7), .val (.int (2 : Int32)), .val (.int (2 : Int32)), .val (.ref a221), .val (.int (p74 + (1 : Int32)))] []
  refine go_aloadN 87 rfl d14_86 rfl rfl ?_
  exact go_areturn d14_87 rfl rfl rfl rfl (by decide) (by decide) ⟨a221, rfl, rfl⟩
def B13_58 : Bdy := (⟨"com/example/clauseline/clauseline/model/Document$Lines", "get", "(I)Ljava/lang/Object;"⟩, prog_17_method_4_code, 2, (some (.object "java/lang/Object")), ({ frames := 3, cells := 1, slots := 4, locals := 48 } : Room))
set_option maxRecDepth 65536 in
set_option maxHeartbeats 4000000 in
theorem mt58 (Z : State) (a0 : Array Value) (hw : ∀ d ∈ tables_1, d.before a0 Z = true) (h0 : Heap) (v93 v94 : List Value) (p71 p73 p74 : Int32) (hl : (2 : Int) < v93.length.toInt32.toInt) (he : v93[2]? = some (.int p71)) (hs : v93[1]? = some (.int p74)) (hy : (p74 + (1 : Int32)).toInt < p71.toInt → ¬ (p71 - (1 : Int32)) < 0 ∧ v94[(p71 - (1 : Int32)).toNatClampNeg]? = some (.int p73)) (a5 : Addr) (a6 : Addr) (a7 : Addr) (a1 : Addr) (a4 : Addr) (r1 : Value) (r2 : Value) :
    Met B13_58 Z a0 h0 #[(.ref a7), (.int (2 : Int32))] (mem78 a5 a6 a7 a1 a4 r1 r2 v94 v93) (fun v ds => ∃ a121 : Addr, Ret (some (.ref a121)) (mem83 a1 v94 a121 p74 p71 p73 a5 a6 a7 a4 r1 r2 v93) v ds) := by
  refine Met.of pn13 (ls := #[.val (.ref a7), .val (.int (2 : Int32))]) (fun m => by first | (simp [entryFrame, mkF, argsToLocals, Value.category, B13_58]; done) | rfl) ?_
  show Go B13_58 Z a0 h0 _ 0 0 (mem78 a5 a6 a7 a1 a4 r1 r2 v94 v93) 0 #[.val (.ref a7), .val (.int (2 : Int32))] []
  refine go_aloadN 1 rfl d13_0 rfl rfl ?_
  refine go_iloadN 2 rfl d13_1 rfl ?_
  refine go_callV 5 rfl d13_2 (wd hw 85 rfl) (wd hw 86 rfl) (wd hw 88 rfl) (wd hw 87 rfl) (wd hw 25 rfl) (wd hw 89 rfl) (by decide) (Mo.exa (i := 2) rfl) (mt59 Z a0 hw h0 v93 v94 p71 p73 p74 hl he hs hy a5 a6 a7 a1 a4 r1 r2) (argsL := [(.int (2 : Int32))]) (rest := []) rfl (ps := [.int]) (by decide +kernel) rfl rfl 0 rfl (by decide) (by decide) (by decide) (by decide) ?_
  rintro _ _ ⟨a121, rfl, rfl⟩
  show Go B13_58 Z a0 h0 _ 1 4 (mem83 a1 v94 a121 p74 p71 p73 a5 a6 a7 a4 r1 r2 v93) 5 #[.val (.ref a7), .val (.int (2 : Int32))] [(.ref a121)]
  exact go_areturn d13_5 rfl rfl rfl rfl (by decide) (by decide) ⟨a121, rfl, rfl⟩
def B20_67 : Bdy := (⟨"com/example/clauseline/clauseline/model/Line", "start", "()I"⟩, prog_28_method_2_code, 1, (some .int), ({ frames := 0, cells := 0, slots := 0, locals := 0 } : Room))
set_option maxRecDepth 65536 in
set_option maxHeartbeats 4000000 in
theorem mt67 (Z : State) (a0 : Array Value) (hw : ∀ d ∈ tables_1, d.before a0 Z = true) (h0 : Heap) (v93 v94 : List Value) (p71 p73 p74 : Int32) (hl : (2 : Int) < v93.length.toInt32.toInt) (he : v93[2]? = some (.int p71)) (hs : v93[1]? = some (.int p74)) (hy : (p74 + (1 : Int32)).toInt < p71.toInt → ¬ (p71 - (1 : Int32)) < 0 ∧ v94[(p71 - (1 : Int32)).toNatClampNeg]? = some (.int p73)) (a1 : Addr) (a21 : Addr) :
    Met B20_67 Z a0 h0 #[(.ref a21)] [ar a1 .byte v94, ob a21 "com/example/clauseline/clauseline/model/Line" [("com/example/clauseline/clauseline/model/Line", "bytes", "[B", (.ref a1)), ("com/example/clauseline/clauseline/model/Line", "start", "I", (.int (p74 + (1 : Int32)))), ("com/example/clauseline/clauseline/model/Line", "end", "I", (.int (trim (p74 + (1 : Int32)) p71 p73)))]] (Ret (some (.int (p74 + (1 : Int32)))) [ar a1 .byte v94, ob a21 "com/example/clauseline/clauseline/model/Line" [("com/example/clauseline/clauseline/model/Line", "bytes", "[B", (.ref a1)), ("com/example/clauseline/clauseline/model/Line", "start", "I", (.int (p74 + (1 : Int32)))), ("com/example/clauseline/clauseline/model/Line", "end", "I", (.int (trim (p74 + (1 : Int32)) p71 p73)))]]) := by
  refine Met.of pn20 (ls := #[.val (.ref a21)]) (fun m => by first | (simp [entryFrame, mkF, argsToLocals, Value.category, B20_67]; done) | rfl) ?_
  show Go B20_67 Z a0 h0 _ 0 0 [ar a1 .byte v94, ob a21 "com/example/clauseline/clauseline/model/Line" [("com/example/clauseline/clauseline/model/Line", "bytes", "[B", (.ref a1)), ("com/example/clauseline/clauseline/model/Line", "start", "I", (.int (p74 + (1 : Int32)))), ("com/example/clauseline/clauseline/model/Line", "end", "I", (.int (trim (p74 + (1 : Int32)) p71 p73)))]] 0 #[.val (.ref a21)] []
  refine go_aloadN 1 rfl d20_0 rfl rfl ?_
  refine go_get 1 1 4 rfl d20_1 rfl rfl rfl (wd hw 118 rfl) ?_
  exact go_ireturn d20_4 rfl (Or.inl rfl) rfl rfl (by decide) (by decide) ⟨rfl, rfl⟩
def B21_68 : Bdy := (⟨"com/example/clauseline/clauseline/model/Line", "end", "()I"⟩, prog_28_method_3_code, 1, (some .int), ({ frames := 0, cells := 0, slots := 0, locals := 0 } : Room))
set_option maxRecDepth 65536 in
set_option maxHeartbeats 4000000 in
theorem mt68 (Z : State) (a0 : Array Value) (hw : ∀ d ∈ tables_1, d.before a0 Z = true) (h0 : Heap) (v93 v94 : List Value) (p71 p73 p74 : Int32) (hl : (2 : Int) < v93.length.toInt32.toInt) (he : v93[2]? = some (.int p71)) (hs : v93[1]? = some (.int p74)) (hy : (p74 + (1 : Int32)).toInt < p71.toInt → ¬ (p71 - (1 : Int32)) < 0 ∧ v94[(p71 - (1 : Int32)).toNatClampNeg]? = some (.int p73)) (a1 : Addr) (a21 : Addr) :
    Met B21_68 Z a0 h0 #[(.ref a21)] [ar a1 .byte v94, ob a21 "com/example/clauseline/clauseline/model/Line" [("com/example/clauseline/clauseline/model/Line", "bytes", "[B", (.ref a1)), ("com/example/clauseline/clauseline/model/Line", "start", "I", (.int (p74 + (1 : Int32)))), ("com/example/clauseline/clauseline/model/Line", "end", "I", (.int (trim (p74 + (1 : Int32)) p71 p73)))]] (Ret (some (.int (trim (p74 + (1 : Int32)) p71 p73))) [ar a1 .byte v94, ob a21 "com/example/clauseline/clauseline/model/Line" [("com/example/clauseline/clauseline/model/Line", "bytes", "[B", (.ref a1)), ("com/example/clauseline/clauseline/model/Line", "start", "I", (.int (p74 + (1 : Int32)))), ("com/example/clauseline/clauseline/model/Line", "end", "I", (.int (trim (p74 + (1 : Int32)) p71 p73)))]]) := by
  refine Met.of pn21 (ls := #[.val (.ref a21)]) (fun m => by first | (simp [entryFrame, mkF, argsToLocals, Value.category, B21_68]; done) | rfl) ?_
  show Go B21_68 Z a0 h0 _ 0 0 [ar a1 .byte v94, ob a21 "com/example/clauseline/clauseline/model/Line" [("com/example/clauseline/clauseline/model/Line", "bytes", "[B", (.ref a1)), ("com/example/clauseline/clauseline/model/Line", "start", "I", (.int (p74 + (1 : Int32)))), ("com/example/clauseline/clauseline/model/Line", "end", "I", (.int (trim (p74 + (1 : Int32)) p71 p73)))]] 0 #[.val (.ref a21)] []
  refine go_aloadN 1 rfl d21_0 rfl rfl ?_
  refine go_get 1 2 4 rfl d21_1 rfl rfl rfl (wd hw 120 rfl) ?_
  exact go_ireturn d21_4 rfl (Or.inl rfl) rfl rfl (by decide) (by decide) ⟨rfl, rfl⟩
def B11_j2 : Bdy := (⟨"com/example/clauseline/clauseline/model/DocumentOfPinLaw", "check", "(Ljava/util/List;II[I[I)Z"⟩, method_4_code, 6, (some .boolean), ({ frames := 4, cells := 1, slots := 4, locals := 61 } : Room))
set_option maxRecDepth 65536 in
set_option maxHeartbeats 4000000 in
theorem m_check2 (Z : State) (a0 : Array Value) (hw : ∀ d ∈ tables_1, d.before a0 Z = true) (h0 : Heap) (a1 a2 a3 a4 a5 a6 a7 : Addr) (v91 v92 v93 v94 : List Value) (p7 : Int32) (r1 r2 : Value) (hf : (2 : Int) < p7.toInt → Fact2 v91 v92 v93 v94) :
    Met B11_j2 Z a0 h0 #[(.ref a7), (.int (2 : Int32)), (.int p7), (.ref a2), (.ref a3)] (mem66 a5 a6 a7 a1 a4 r1 r2 v94 v93 a2 v91 a3 v92) (fun v ds => ∃ r9 : Value, Ret (some (.int 1)) (mem77 a5 a6 a7 a1 a4 r1 r2 r9 v94 v93 a2 v91 a3 v92) v ds) := by
  refine Met.of pn11 (ls := #[.val (.ref a7), .val (.int (2 : Int32)), .val (.int p7), .val (.ref a2), .val (.ref a3), .unset]) (fun m => by first | (simp [entryFrame, mkF, argsToLocals, Value.category, B11_j2]; done) | rfl) ?_
  show Go B11_j2 Z a0 h0 _ 0 0 (mem66 a5 a6 a7 a1 a4 r1 r2 v94 v93 a2 v91 a3 v92) 0 #[.val (.ref a7), .val (.int (2 : Int32)), .val (.int p7), .val (.ref a2), .val (.ref a3), .unset] []
  refine go_iloadN 1 rfl d11_0 rfl ?_
  refine go_iloadN 2 rfl d11_1 rfl ?_
  refine go_icmp 7 5 rfl (by decide) rfl d11_2 rfl (fun (hc2 : (2 : Int) < p7.toInt) => ?_) (fun (hc2 : ¬ ((2 : Int) < p7.toInt)) => ?_)
  · obtain ⟨p71, p73, p74, hl, he, hs, hy, hE, hF⟩ := hf hc2
    refine go_aloadN 8 rfl d11_7 rfl rfl ?_
    refine go_iloadN 9 rfl d11_8 rfl ?_
    refine go_callF 14 rfl d11_9 (wd hw 77 rfl) (wd hw 78 rfl) (wd hw 79 rfl) (by decide) (wd hw 80 rfl) (wd hw 81 rfl) (wd hw 82 rfl) (wd hw 83 rfl) (wd hw 68 rfl) (wd hw 25 rfl) (wd hw 84 rfl) (by decide) (Mo.exa (i := 2) rfl) (Met.frame [ar a2 .int v91, ar a3 .int v92] (mt58 Z a0 hw h0 v93 v94 p71 p73 p74 hl he hs hy a5 a6 a7 a1 a4 r1 r2)) (argsL := [(.int (2 : Int32))]) (rest := []) rfl (ps := [.int]) (by decide +kernel) rfl rfl 0 rfl (by decide) (by decide) (by decide) (by decide) ?_
    rintro _ _ ⟨_, ⟨a21, rfl, rfl⟩, rfl⟩
    show Go B11_j2 Z a0 h0 _ 1 4 (mem84 a1 v94 a21 p74 p71 p73 a5 a6 a7 a4 r1 r2 v93 a2 v91 a3 v92) 14 #[.val (.ref a7), .val (.int (2 : Int32)), .val (.int p7), .val (.ref a2), .val (.ref a3), .unset] [(.ref a21)]
    refine go_cast 17 rfl d11_14 rfl (wd hw 123 rfl) (fun h M => Ins.self (Mo.exa (i := 1) rfl h M)) ?_
    refine go_astore #[.val (.ref a7), .val (.int (2 : Int32)), .val (.int p7), .val (.ref a2), .val (.ref a3), .val (.ref a21)] 19 rfl d11_17 rfl rfl rfl ?_
    refine go_aload 21 rfl d11_19 rfl rfl ?_
    refine go_callV 24 rfl d11_21 (wd hw 124 rfl) (wd hw 125 rfl) (wd hw 127 rfl) (wd hw 126 rfl) (wd hw 105 rfl) (wd hw 128 rfl) (by decide) (Mo.exa (i := 1) rfl) (Met.frame (mem85 a5 a6 a7 a1 a4 r1 r2 a21 v93 a2 v91 a3 v92) (mt67 Z a0 hw h0 v93 v94 p71 p73 p74 hl he hs hy a1 a21)) (argsL := []) (rest := []) rfl (ps := []) (by decide +kernel) rfl rfl 0 rfl (by decide) (by decide) (by decide) (by decide) ?_
    rintro _ _ ⟨_, ⟨rfl, rfl⟩, rfl⟩
    show Go B11_j2 Z a0 h0 _ 1 4 (mem84 a1 v94 a21 p74 p71 p73 a5 a6 a7 a4 r1 r2 v93 a2 v91 a3 v92) 24 #[.val (.ref a7), .val (.int (2 : Int32)), .val (.int p7), .val (.ref a2), .val (.ref a3), .val (.ref a21)] [(.int (p74 + (1 : Int32)))]
    refine go_aloadN 25 rfl d11_24 rfl rfl ?_
    refine go_iloadN 26 rfl d11_25 rfl ?_
    refine go_iaload 27 rfl d11_26 rfl (v := (.int (p74 + (1 : Int32)))) (Mo.el (i := 6) rfl (by decide) hE) ?_
    refine go_icmp 46 30 rfl (by decide) rfl d11_27 rfl (fun (hc27 : (p74 + (1 : Int32)).toInt ≠ (p74 + (1 : Int32)).toInt) => absurd hc27 (by simp)) (fun (hc27 : ¬ ((p74 + (1 : Int32)).toInt ≠ (p74 + (1 : Int32)).toInt)) => ?_)
    refine go_aload 32 rfl d11_30 rfl rfl ?_
    refine go_callV 35 rfl d11_32 (wd hw 129 rfl) (wd hw 130 rfl) (wd hw 132 rfl) (wd hw 131 rfl) (wd hw 105 rfl) (wd hw 133 rfl) (by decide) (Mo.exa (i := 1) rfl) (Met.frame (mem85 a5 a6 a7 a1 a4 r1 r2 a21 v93 a2 v91 a3 v92) (mt68 Z a0 hw h0 v93 v94 p71 p73 p74 hl he hs hy a1 a21)) (argsL := []) (rest := []) rfl (ps := []) (by decide +kernel) rfl rfl 0 rfl (by decide) (by decide) (by decide) (by decide) ?_
    rintro _ _ ⟨_, ⟨rfl, rfl⟩, rfl⟩
    show Go B11_j2 Z a0 h0 _ 1 4 (mem84 a1 v94 a21 p74 p71 p73 a5 a6 a7 a4 r1 r2 v93 a2 v91 a3 v92) 35 #[.val (.ref a7), .val (.int (2 : Int32)), .val (.int p7), .val (.ref a2), .val (.ref a3), .val (.ref a21)] [(.int (trim (p74 + (1 : Int32)) p71 p73))]
    refine go_aload 37 rfl d11_35 rfl rfl ?_
    refine go_iloadN 38 rfl d11_37 rfl ?_
    refine go_iaload 39 rfl d11_38 rfl (v := (.int (trim (p74 + (1 : Int32)) p71 p73))) (Mo.el (i := 7) rfl (by decide) hF) ?_
    refine go_icmp 46 42 rfl (by decide) rfl d11_39 rfl (fun (hc39 : (trim (p74 + (1 : Int32)) p71 p73).toInt ≠ (trim (p74 + (1 : Int32)) p71 p73).toInt) => absurd hc39 (by simp)) (fun (hc39 : ¬ ((trim (p74 + (1 : Int32)) p71 p73).toInt ≠ (trim (p74 + (1 : Int32)) p71 p73).toInt)) => ?_)
    refine go_iconst (1 : Int32) 43 rfl d11_42 rfl ?_
    refine go_goto 47 (by decide) rfl d11_43 ?_
    refine Go.sub (ds' := (mem86 a1 v94 a5 a6 a7 a4 r1 r2 a21 v93 a2 v91 a3 v92)) (.cons₂ _ (.cons _ (.cons₂ _ (.cons₂ _ (.cons₂ _ (.cons₂ _ (.cons₂ _ (.cons₂ _ .slnil)))))))) ?_
    refine Go.front 6 (Nat.le_of_ble_eq_true rfl) ?_
    refine Go.front 6 (Nat.le_of_ble_eq_true rfl) ?_
    refine Go.front 6 (Nat.le_of_ble_eq_true rfl) ?_
    refine Go.front 3 (Nat.le_of_ble_eq_true rfl) ?_
    refine Go.front 6 (Nat.le_of_ble_eq_true rfl) ?_
    refine Go.front 6 (Nat.le_of_ble_eq_true rfl) ?_
    refine Go.front 6 (Nat.le_of_ble_eq_true rfl) ?_
    show Go B11_j2 Z a0 h0 _ 1 4 (mem87 a5 a6 a7 a1 a4 r1 r2 a21 v94 v93 a2 v91 a3 v92) 47 #[.val (.ref a7), .val (.int (2 : Int32)), .val (.int p7), .val (.ref a2), .val (.ref a3), .val (.ref a21)] [(.int (1 : Int32))]
    exact go_ireturn d11_47 rfl (Or.inr (Or.inl rfl)) rfl rfl (by decide) (by decide) ⟨_, rfl, rfl⟩
  · refine go_iconst (1 : Int32) 6 rfl d11_5 rfl ?_
    exact go_ireturn d11_6 rfl (Or.inr (Or.inl rfl)) rfl rfl (by decide) (by decide) ⟨.null, rfl, rfl⟩
def B16_72 : Bdy := (⟨"jdk/internal/util/Preconditions", "checkIndex", "(IILjava/util/function/BiFunction;)I"⟩, jdk_41_method_11_code, 3, (some .int), ({ frames := 0, cells := 0, slots := 0, locals := 0 } : Room))
set_option maxRecDepth 65536 in
set_option maxHeartbeats 4000000 in
theorem mt72 (Z : State) (a0 : Array Value) (hw : ∀ d ∈ tables_1, d.before a0 Z = true) (h0 : Heap) (v93 v94 : List Value) (p71 p73 p74 : Int32) (hl : (3 : Int) < v93.length.toInt32.toInt) (he : v93[3]? = some (.int p71)) (hs : v93[2]? = some (.int p74)) (hy : (p74 + (1 : Int32)).toInt < p71.toInt → ¬ (p71 - (1 : Int32)) < 0 ∧ v94[(p71 - (1 : Int32)).toNatClampNeg]? = some (.int p73)) :
    Met B16_72 Z a0 h0 #[(.int (3 : Int32)), (.int (v93.length.toInt32)), .null] [] (Ret (some (.int (3 : Int32))) []) := by
  refine Met.of pn16 (ls := #[.val (.int (3 : Int32)), .val (.int (v93.length.toInt32)), .val .null]) (fun m => by first | (simp [entryFrame, mkF, argsToLocals, Value.category, B16_72]; done) | rfl) ?_
  show Go B16_72 Z a0 h0 _ 0 0 [] 0 #[.val (.int (3 : Int32)), .val (.int (v93.length.toInt32)), .val .null] []
  refine go_iloadN 1 rfl d16_0 rfl ?_
  refine go_if 9 4 rfl (by decide) rfl d16_1 rfl (fun (hc1 : (3 : Int) < 0) => absurd hc1 (by decide)) (fun (hc1 : ¬ ((3 : Int) < 0)) => ?_)
  refine go_iloadN 5 rfl d16_4 rfl ?_
  refine go_iloadN 6 rfl d16_5 rfl ?_
  refine go_icmp 16 9 rfl (by decide) rfl d16_6 rfl (fun (hc6 : (3 : Int) < (v93.length.toInt32).toInt) => ?_) (fun (hc6 : ¬ ((3 : Int) < (v93.length.toInt32).toInt)) => absurd hc6 (by omega))
  refine go_iloadN 17 rfl d16_16 rfl ?_
  exact go_ireturn d16_17 rfl (Or.inl rfl) rfl rfl (by decide) (by decide) ⟨rfl, rfl⟩
def B15_71 : Bdy := (⟨"java/util/Objects", "checkIndex", "(II)I"⟩, jdk_31_method_17_code, 2, (some .int), ({ frames := 1, cells := 0, slots := 0, locals := 14 } : Room))
set_option maxRecDepth 65536 in
set_option maxHeartbeats 4000000 in
theorem mt71 (Z : State) (a0 : Array Value) (hw : ∀ d ∈ tables_1, d.before a0 Z = true) (h0 : Heap) (v93 v94 : List Value) (p71 p73 p74 : Int32) (hl : (3 : Int) < v93.length.toInt32.toInt) (he : v93[3]? = some (.int p71)) (hs : v93[2]? = some (.int p74)) (hy : (p74 + (1 : Int32)).toInt < p71.toInt → ¬ (p71 - (1 : Int32)) < 0 ∧ v94[(p71 - (1 : Int32)).toNatClampNeg]? = some (.int p73)) :
    Met B15_71 Z a0 h0 #[(.int (3 : Int32)), (.int (v93.length.toInt32))] [] (Ret (some (.int (3 : Int32))) []) := by
  refine Met.of pn15 (ls := #[.val (.int (3 : Int32)), .val (.int (v93.length.toInt32))]) (fun m => by first | (simp [entryFrame, mkF, argsToLocals, Value.category, B15_71]; done) | rfl) ?_
  show Go B15_71 Z a0 h0 _ 0 0 [] 0 #[.val (.int (3 : Int32)), .val (.int (v93.length.toInt32))] []
  refine go_iloadN 1 rfl d15_0 rfl ?_
  refine go_iloadN 2 rfl d15_1 rfl ?_
  refine go_aconstNull 3 rfl d15_2 ?_
  refine go_callS 6 rfl d15_3 (wd hw 94 rfl) (wd hw 95 rfl) (wd hw 96 rfl) (wd hw 97 rfl) (by decide) (mt72 Z a0 hw h0 v93 v94 p71 p73 p74 hl he hs hy) (argsL := [(.int (3 : Int32)), (.int (v93.length.toInt32)), .null]) (rest := []) rfl (ps := [.int, .int, (.object "java/util/function/BiFunction")]) (by decide +kernel) rfl rfl 0 rfl (by decide) (by decide) (by decide) (by decide) ?_
  rintro _ _ ⟨rfl, rfl⟩
  show Go B15_71 Z a0 h0 _ 0 0 [] 6 #[.val (.int (3 : Int32)), .val (.int (v93.length.toInt32))] [(.int (3 : Int32))]
  exact go_ireturn d15_6 rfl (Or.inl rfl) rfl rfl (by decide) (by decide) ⟨rfl, rfl⟩
def B17_73 : Bdy := (⟨"com/example/clauseline/clauseline/model/Document", "start", "(I)I"⟩, prog_16_method_7_code, 2, (some .int), ({ frames := 0, cells := 0, slots := 0, locals := 0 } : Room))
set_option maxRecDepth 65536 in
set_option maxHeartbeats 4000000 in
theorem mt73 (Z : State) (a0 : Array Value) (hw : ∀ d ∈ tables_1, d.before a0 Z = true) (h0 : Heap) (v93 v94 : List Value) (p71 p73 p74 : Int32) (hl : (3 : Int) < v93.length.toInt32.toInt) (he : v93[3]? = some (.int p71)) (hs : v93[2]? = some (.int p74)) (hy : (p74 + (1 : Int32)).toInt < p71.toInt → ¬ (p71 - (1 : Int32)) < 0 ∧ v94[(p71 - (1 : Int32)).toNatClampNeg]? = some (.int p73)) (a5 : Addr) (a6 : Addr) (a7 : Addr) (a1 : Addr) (a4 : Addr) (r1 : Value) (r2 : Value) (r3 : Value) :
    Met B17_73 Z a0 h0 #[(.ref a5), (.int (3 : Int32))] (mem89 a5 a6 a7 a1 a4 r1 r2 r3 v94 v93) (Ret (some (.int (p74 + (1 : Int32)))) (mem89 a5 a6 a7 a1 a4 r1 r2 r3 v94 v93)) := by
  refine Met.of pn17 (ls := #[.val (.ref a5), .val (.int (3 : Int32))]) (fun m => by first | (simp [entryFrame, mkF, argsToLocals, Value.category, B17_73]; done) | rfl) ?_
  show Go B17_73 Z a0 h0 _ 0 0 (mem89 a5 a6 a7 a1 a4 r1 r2 r3 v94 v93) 0 #[.val (.ref a5), .val (.int (3 : Int32))] []
  refine go_iloadN 1 rfl d17_0 rfl ?_
  refine go_if 8 4 rfl (by decide) rfl d17_1 rfl (fun (hc1 : (3 : Int) ≠ 0) => ?_) (fun (hc1 : ¬ ((3 : Int) ≠ 0)) => absurd hc1 (by decide))
  refine go_aloadN 9 rfl d17_8 rfl rfl ?_
  refine go_get 0 3 12 rfl d17_9 rfl rfl rfl (wd hw 49 rfl) ?_
  refine go_iloadN 13 rfl d17_12 rfl ?_
  refine go_iconst (1 : Int32) 14 rfl d17_13 rfl ?_
  refine go_isub 15 rfl d17_14 rfl ?_
  show Go B17_73 Z a0 h0 _ 0 0 (mem89 a5 a6 a7 a1 a4 r1 r2 r3 v94 v93) 15 #[.val (.ref a5), .val (.int (3 : Int32))] [(.int (2 : Int32)), (.ref a4)]
  refine go_iaload 16 rfl d17_15 rfl (v := (.int p74)) (Mo.el (i := 4) rfl (by decide) hs) ?_
  refine go_iconst (1 : Int32) 17 rfl d17_16 rfl ?_
  refine go_iadd 18 rfl d17_17 rfl ?_
  exact go_ireturn d17_18 rfl (Or.inl rfl) rfl rfl (by decide) (by decide) ⟨rfl, rfl⟩
def B18_74 : Bdy := (⟨"com/example/clauseline/clauseline/model/Document", "textEnd", "(I)I"⟩, prog_16_method_8_code, 3, (some .int), ({ frames := 1, cells := 0, slots := 0, locals := 14 } : Room))
set_option maxRecDepth 65536 in
set_option maxHeartbeats 4000000 in
theorem mt74 (Z : State) (a0 : Array Value) (hw : ∀ d ∈ tables_1, d.before a0 Z = true) (h0 : Heap) (v93 v94 : List Value) (p71 p73 p74 : Int32) (hl : (3 : Int) < v93.length.toInt32.toInt) (he : v93[3]? = some (.int p71)) (hs : v93[2]? = some (.int p74)) (hy : (p74 + (1 : Int32)).toInt < p71.toInt → ¬ (p71 - (1 : Int32)) < 0 ∧ v94[(p71 - (1 : Int32)).toNatClampNeg]? = some (.int p73)) (a5 : Addr) (a6 : Addr) (a7 : Addr) (a1 : Addr) (a4 : Addr) (r1 : Value) (r2 : Value) (r3 : Value) :
    Met B18_74 Z a0 h0 #[(.ref a5), (.int (3 : Int32))] (mem89 a5 a6 a7 a1 a4 r1 r2 r3 v94 v93) (Ret (some (.int (trim (p74 + (1 : Int32)) p71 p73))) (mem89 a5 a6 a7 a1 a4 r1 r2 r3 v94 v93)) := by
  refine Met.of pn18 (ls := #[.val (.ref a5), .val (.int (3 : Int32)), .unset]) (fun m => by first | (simp [entryFrame, mkF, argsToLocals, Value.category, B18_74]; done) | rfl) ?_
  show Go B18_74 Z a0 h0 _ 0 0 (mem89 a5 a6 a7 a1 a4 r1 r2 r3 v94 v93) 0 #[.val (.ref a5), .val (.int (3 : Int32)), .unset] []
  refine go_aloadN 1 rfl d18_0 rfl rfl ?_
  refine go_get 0 3 4 rfl d18_1 rfl rfl rfl (wd hw 49 rfl) ?_
  refine go_iloadN 5 rfl d18_4 rfl ?_
  refine go_iaload 6 rfl d18_5 rfl (v := (.int p71)) (Mo.el (i := 4) rfl (by decide) he) ?_
  refine go_istoreN #[.val (.ref a5), .val (.int (3 : Int32)), .val (.int p71)] 7 rfl d18_6 rfl rfl ?_
  refine go_iloadN 8 rfl d18_7 rfl ?_
  refine go_aloadN 9 rfl d18_8 rfl rfl ?_
  refine go_iloadN 10 rfl d18_9 rfl ?_
  refine go_callP (host := "") 13 rfl d18_10 (Or.inl (wd hw 111 rfl)) (wd hw 100 rfl) (wd hw 101 rfl) (wd hw 12 rfl) (wd hw 9 rfl) (wd hw 102 rfl) (by decide) (Mo.exa (i := 0) rfl) (mt73 Z a0 hw h0 v93 v94 p71 p73 p74 hl he hs hy a5 a6 a7 a1 a4 r1 r2 r3) (argsL := [(.int (3 : Int32))]) (rest := [(.int p71)]) rfl (ps := [.int]) (by decide +kernel) rfl rfl 1 rfl (by decide) (by decide) (by decide) (by decide) ?_
  rintro _ _ ⟨rfl, rfl⟩
  show Go B18_74 Z a0 h0 _ 0 0 (mem89 a5 a6 a7 a1 a4 r1 r2 r3 v94 v93) 13 #[.val (.ref a5), .val (.int (3 : Int32)), .val (.int p71)] [(.int (p74 + (1 : Int32))), (.int p71)]
  refine go_icmp 35 16 rfl (by decide) rfl d18_13 rfl (fun (hc13_74 : p71.toInt ≤ (p74 + (1 : Int32)).toInt) => ?_) (fun (hc13_74 : ¬ (p71.toInt ≤ (p74 + (1 : Int32)).toInt)) => ?_)
  · refine go_iloadN 36 rfl d18_35 rfl ?_
    exact go_ireturn d18_36 rfl (Or.inl rfl) rfl rfl (by decide) (by decide) (by rw [trim_a (by omega)]; exact ⟨rfl, rfl⟩)
  · refine go_aloadN 17 rfl d18_16 rfl rfl ?_
    refine go_get 0 2 20 rfl d18_17 rfl rfl rfl (wd hw 47 rfl) ?_
    refine go_iloadN 21 rfl d18_20 rfl ?_
    refine go_iconst (1 : Int32) 22 rfl d18_21 rfl ?_
    refine go_isub 23 rfl d18_22 rfl ?_
    have hy2 := hy (by omega)
    refine go_baload 24 rfl d18_23 rfl (v := (.int p73)) (Mo.el (i := 3) rfl hy2.1 hy2.2) ?_
    refine go_bipush (13 : Int32) 26 rfl d18_24 rfl ?_
    refine go_icmp 35 29 rfl (by decide) rfl d18_26 rfl (fun (hc26_75 : p73.toInt ≠ (13 : Int)) => ?_) (fun (hc26_75 : ¬ (p73.toInt ≠ (13 : Int))) => ?_)
    · refine go_iloadN 36 rfl d18_35 rfl ?_
      exact go_ireturn d18_36 rfl (Or.inl rfl) rfl rfl (by decide) (by decide) (by rw [trim_b (by omega)]; exact ⟨rfl, rfl⟩)
    · refine go_iloadN 30 rfl d18_29 rfl ?_
      refine go_iconst (1 : Int32) 31 rfl d18_30 rfl ?_
      refine go_isub 32 rfl d18_31 rfl ?_
      refine go_goto 36 (by decide) rfl d18_32 ?_
      exact go_ireturn d18_36 rfl (Or.inl rfl) rfl rfl (by decide) (by decide) (by rw [trim_c (by omega) (by omega)]; exact ⟨rfl, rfl⟩)
def B19_77 : Bdy := (⟨"com/example/clauseline/clauseline/model/Line", "<init>", "([BII)V"⟩, prog_28_method_1_code, 4, none, ({ frames := 1, cells := 0, slots := 0, locals := 12 } : Room))
set_option maxRecDepth 65536 in
set_option maxHeartbeats 4000000 in
theorem mt77 (Z : State) (a0 : Array Value) (hw : ∀ d ∈ tables_1, d.before a0 Z = true) (h0 : Heap) (v93 v94 : List Value) (p71 p73 p74 : Int32) (hl : (3 : Int) < v93.length.toInt32.toInt) (he : v93[3]? = some (.int p71)) (hs : v93[2]? = some (.int p74)) (hy : (p74 + (1 : Int32)).toInt < p71.toInt → ¬ (p71 - (1 : Int32)) < 0 ∧ v94[(p71 - (1 : Int32)).toNatClampNeg]? = some (.int p73)) (a1 : Addr) (a221 : Addr) :
    Met B19_77 Z a0 h0 #[(.ref a221), (.ref a1), (.int (p74 + (1 : Int32))), (.int (trim (p74 + (1 : Int32)) p71 p73))] [ar a1 .byte v94, ob a221 "com/example/clauseline/clauseline/model/Line" [("com/example/clauseline/clauseline/model/Line", "bytes", "[B", .null), ("com/example/clauseline/clauseline/model/Line", "start", "I", (.int (0 : Int32))), ("com/example/clauseline/clauseline/model/Line", "end", "I", (.int (0 : Int32)))]] (Ret none [ar a1 .byte v94, ob a221 "com/example/clauseline/clauseline/model/Line" [("com/example/clauseline/clauseline/model/Line", "bytes", "[B", (.ref a1)), ("com/example/clauseline/clauseline/model/Line", "start", "I", (.int (p74 + (1 : Int32)))), ("com/example/clauseline/clauseline/model/Line", "end", "I", (.int (trim (p74 + (1 : Int32)) p71 p73)))]]) := by
  refine Met.of pn19 (ls := #[.val (.ref a221), .val (.ref a1), .val (.int (p74 + (1 : Int32))), .val (.int (trim (p74 + (1 : Int32)) p71 p73))]) (fun m => by first | (simp [entryFrame, mkF, argsToLocals, Value.category, B19_77]; done) | rfl) ?_
  show Go B19_77 Z a0 h0 _ 0 0 [ar a1 .byte v94, ob a221 "com/example/clauseline/clauseline/model/Line" [("com/example/clauseline/clauseline/model/Line", "bytes", "[B", .null), ("com/example/clauseline/clauseline/model/Line", "start", "I", (.int (0 : Int32))), ("com/example/clauseline/clauseline/model/Line", "end", "I", (.int (0 : Int32)))]] 0 #[.val (.ref a221), .val (.ref a1), .val (.int (p74 + (1 : Int32))), .val (.int (trim (p74 + (1 : Int32)) p71 p73))] []
  refine go_aloadN 1 rfl d19_0 rfl rfl ?_
  refine go_initObj 4 rfl d19_1 rfl (wd hw 115 rfl) (wd hw 17 rfl) (wd hw 18 rfl) rfl (by decide) (by decide) ?_
  refine go_aloadN 5 rfl d19_4 rfl rfl ?_
  refine go_aloadN 6 rfl d19_5 rfl rfl ?_
  refine go_put 1 0 9 rfl d19_6 rfl rfl rfl (wd hw 116 rfl) (Or.inr ⟨(wd hw 117 rfl), rfl, rfl⟩) (wd hw 104 rfl) (ty := (.array .byte)) (by decide) rfl rfl ?_
  show Go B19_77 Z a0 h0 _ 0 0 [ar a1 .byte v94, ob a221 "com/example/clauseline/clauseline/model/Line" [("com/example/clauseline/clauseline/model/Line", "bytes", "[B", (.ref a1)), ("com/example/clauseline/clauseline/model/Line", "start", "I", (.int (0 : Int32))), ("com/example/clauseline/clauseline/model/Line", "end", "I", (.int (0 : Int32)))]] 9 #[.val (.ref a221), .val (.ref a1), .val (.int (p74 + (1 : Int32))), .val (.int (trim (p74 + (1 : Int32)) p71 p73))] []
  refine go_aloadN 10 rfl d19_9 rfl rfl ?_
  refine go_iloadN 11 rfl d19_10 rfl ?_
  refine go_put 1 1 14 rfl d19_11 rfl rfl rfl (wd hw 118 rfl) (Or.inr ⟨(wd hw 119 rfl), rfl, rfl⟩) (wd hw 104 rfl) (ty := .int) (by decide) rfl rfl ?_
  show Go B19_77 Z a0 h0 _ 0 0 [ar a1 .byte v94, ob a221 "com/example/clauseline/clauseline/model/Line" [("com/example/clauseline/clauseline/model/Line", "bytes", "[B", (.ref a1)), ("com/example/clauseline/clauseline/model/Line", "start", "I", (.int (p74 + (1 : Int32)))), ("com/example/clauseline/clauseline/model/Line", "end", "I", (.int (0 : Int32)))]] 14 #[.val (.ref a221), .val (.ref a1), .val (.int (p74 + (1 : Int32))), .val (.int (trim (p74 + (1 : Int32)) p71 p73))] []
  refine go_aloadN 15 rfl d19_14 rfl rfl ?_
  refine go_iloadN 16 rfl d19_15 rfl ?_
  refine go_put 1 2 19 rfl d19_16 rfl rfl rfl (wd hw 120 rfl) (Or.inr ⟨(wd hw 121 rfl), rfl, rfl⟩) (wd hw 104 rfl) (ty := .int) (by decide) rfl rfl ?_
  show Go B19_77 Z a0 h0 _ 0 0 [ar a1 .byte v94, ob a221 "com/example/clauseline/clauseline/model/Line" [("com/example/clauseline/clauseline/model/Line", "bytes", "[B", (.ref a1)), ("com/example/clauseline/clauseline/model/Line", "start", "I", (.int (p74 + (1 : Int32)))), ("com/example/clauseline/clauseline/model/Line", "end", "I", (.int (trim (p74 + (1 : Int32)) p71 p73)))]] 19 #[.val (.ref a221), .val (.ref a1), .val (.int (p74 + (1 : Int32))), .val (.int (trim (p74 + (1 : Int32)) p71 p73))] []
  exact go_return d19_19 rfl rfl (by decide) (by decide) ⟨rfl, rfl⟩
def B14_70 : Bdy := (⟨"com/example/clauseline/clauseline/model/Document$Lines", "get", "(I)Lcom/example/clauseline/clauseline/model/Line;"⟩, prog_17_method_2_code, 5, (some (.object "com/example/clauseline/clauseline/model/Line")), ({ frames := 2, cells := 1, slots := 4, locals := 32 } : Room))
set_option maxRecDepth 65536 in
set_option maxHeartbeats 4000000 in
theorem mt70 (Z : State) (a0 : Array Value) (hw : ∀ d ∈ tables_1, d.before a0 Z = true) (h0 : Heap) (v93 v94 : List Value) (p71 p73 p74 : Int32) (hl : (3 : Int) < v93.length.toInt32.toInt) (he : v93[3]? = some (.int p71)) (hs : v93[2]? = some (.int p74)) (hy : (p74 + (1 : Int32)).toInt < p71.toInt → ¬ (p71 - (1 : Int32)) < 0 ∧ v94[(p71 - (1 : Int32)).toNatClampNeg]? = some (.int p73)) (a5 : Addr) (a6 : Addr) (a7 : Addr) (a1 : Addr) (a4 : Addr) (r1 : Value) (r2 : Value) (r3 : Value) :
    Met B14_70 Z a0 h0 #[(.ref a7), (.int (3 : Int32))] (mem89 a5 a6 a7 a1 a4 r1 r2 r3 v94 v93) (fun v ds => ∃ a221 : Addr, Ret (some (.ref a221)) (mem94 a1 v94 a221 p74 p71 p73 a5 a6 a7 a4 r1 r2 r3 v93) v ds) := by
  refine Met.of pn14 (ls := #[.val (.ref a7), .val (.int (3 : Int32)), .unset, .unset, .unset]) (fun m => by first | (simp [entryFrame, mkF, argsToLocals, Value.category, B14_70]; done) | rfl) ?_
  show Go B14_70 Z a0 h0 _ 0 0 (mem89 a5 a6 a7 a1 a4 r1 r2 r3 v94 v93) 0 #[.val (.ref a7), .val (.int (3 : Int32)), .unset, .unset, .unset] []
  refine go_iloadN 1 rfl d14_0 rfl ?_
  refine go_aloadN 2 rfl d14_1 rfl rfl ?_
  refine go_get 2 0 5 rfl d14_2 rfl rfl rfl (wd hw 29 rfl) ?_
  refine go_getN 0 3 8 rfl d14_5 rfl rfl rfl (wd hw 70 rfl) ?_
  refine go_alen 4 9 rfl d14_8 rfl rfl ?_
  refine go_callS 12 rfl d14_9 (wd hw 90 rfl) (wd hw 91 rfl) (wd hw 92 rfl) (wd hw 93 rfl) (by decide) (Met.frame (mem89 a5 a6 a7 a1 a4 r1 r2 r3 v94 v93) (mt71 Z a0 hw h0 v93 v94 p71 p73 p74 hl he hs hy)) (argsL := [(.int (3 : Int32)), (.int (v93.length.toInt32))]) (rest := []) rfl (ps := [.int, .int]) (by decide +kernel) rfl rfl 0 rfl (by decide) (by decide) (by decide) (by decide) ?_
  rintro _ _ ⟨_, ⟨rfl, rfl⟩, rfl⟩
  show Go B14_70 Z a0 h0 _ 0 0 (mem89 a5 a6 a7 a1 a4 r1 r2 r3 v94 v93) 12 #[.val (.ref a7), .val (.int (3 : Int32)), .unset, .unset, .unset] [(.int (3 : Int32))]
  refine go_pop 13 rfl d14_12 rfl rfl ?_
  refine go_iloadN 14 rfl d14_13 rfl ?_
  refine go_bipush (15 : Int32) 16 rfl d14_14 rfl ?_
  refine go_iand 17 rfl d14_16 rfl ?_
  show Go B14_70 Z a0 h0 _ 0 0 (mem89 a5 a6 a7 a1 a4 r1 r2 r3 v94 v93) 17 #[.val (.ref a7), .val (.int (3 : Int32)), .unset, .unset, .unset] [(.int (3 : Int32))]
  refine go_istoreN #[.val (.ref a7), .val (.int (3 : Int32)), .val (.int (3 : Int32)), .unset, .unset] 18 rfl d14_17 rfl rfl ?_
  refine go_aloadN 19 rfl d14_18 rfl rfl ?_
  refine go_get 2 0 22 rfl d14_19 rfl rfl rfl (wd hw 29 rfl) ?_
  refine go_getN 0 0 25 rfl d14_22 rfl rfl rfl (wd hw 98 rfl) ?_
  refine go_iloadN 26 rfl d14_25 rfl ?_
  refine go_aaload 27 rfl d14_26 rfl rfl (Mo.el (i := 1) rfl (by decide) rfl) ?_
  refine go_astoreN #[.val (.ref a7), .val (.int (3 : Int32)), .val (.int (3 : Int32)), .val .null, .unset] 28 rfl d14_27 rfl rfl rfl ?_
  refine go_aloadN 29 rfl d14_28 rfl rfl ?_
  refine go_get 2 0 32 rfl d14_29 rfl rfl rfl (wd hw 29 rfl) ?_
  refine go_iloadN 33 rfl d14_32 rfl ?_
  refine go_callP 36 rfl d14_33 (Or.inr (wd hw 99 rfl)) (wd hw 100 rfl) (wd hw 101 rfl) (wd hw 12 rfl) (wd hw 9 rfl) (wd hw 102 rfl) (by decide) (Mo.exa (i := 0) rfl) (mt73 Z a0 hw h0 v93 v94 p71 p73 p74 hl he hs hy a5 a6 a7 a1 a4 r1 r2 r3) (argsL := [(.int (3 : Int32))]) (rest := []) rfl (ps := [.int]) (by decide +kernel) rfl rfl 0 rfl (by decide) (by decide) (by decide) (by decide) ?_
  rintro _ _ ⟨rfl, rfl⟩
  show Go B14_70 Z a0 h0 _ 0 0 (mem89 a5 a6 a7 a1 a4 r1 r2 r3 v94 v93) 36 #[.val (.ref a7), .val (.int (3 : Int32)), .val (.int (3 : Int32)), .val .null, .unset] [(.int (p74 + (1 : Int32)))]
  refine go_istore #[.val (.ref a7), .val (.int (3 : Int32)), .val (.int (3 : Int32)), .val .null, .val (.int (p74 + (1 : Int32)))] 38 rfl d14_36 rfl rfl ?_
  refine go_aloadN 39 rfl d14_38 rfl rfl ?_
  refine go_ifnullY 51 (by decide) rfl d14_39 rfl ?_
  refine go_new 54 rfl d14_51 (wd hw 103 rfl) (wd hw 104 rfl) (wd hw 105 rfl) (by decide) (by decide) [("com/example/clauseline/clauseline/model/Line", "bytes", "[B", .null), ("com/example/clauseline/clauseline/model/Line", "start", "I", (.int (0 : Int32))), ("com/example/clauseline/clauseline/model/Line", "end", "I", (.int (0 : Int32)))] ⟨⟨Or.inr (wd hw 117 rfl), _, rfl, rfl⟩, ⟨⟨Or.inr (wd hw 119 rfl), _, rfl, rfl⟩, ⟨⟨Or.inr (wd hw 121 rfl), _, rfl, rfl⟩, trivial⟩⟩⟩ (by decide) (fun a221 => ?_)
  show Go B14_70 Z a0 h0 _ 1 4 (mem90 a5 a6 a7 a1 a4 r1 r2 r3 v94 v93 a221) 54 #[.val (.ref a7), .val (.int (3 : Int32)), .val (.int (3 : Int32)), .val .null, .val (.int (p74 + (1 : Int32)))] [(.ref a221)]
  refine go_dup 55 rfl d14_54 rfl rfl ?_
  refine go_aloadN 56 rfl d14_55 rfl rfl ?_
  refine go_get 2 0 59 rfl d14_56 rfl rfl rfl (wd hw 29 rfl) ?_
  refine go_getN 0 2 62 rfl d14_59 rfl rfl rfl (wd hw 106 rfl) ?_
  refine go_iload 64 rfl d14_62 rfl ?_
  refine go_aloadN 65 rfl d14_64 rfl rfl ?_
  refine go_get 2 0 68 rfl d14_65 rfl rfl rfl (wd hw 29 rfl) ?_
  refine go_iloadN 69 rfl d14_68 rfl ?_
  refine go_callP 72 rfl d14_69 (Or.inr (wd hw 107 rfl)) (wd hw 108 rfl) (wd hw 109 rfl) (wd hw 12 rfl) (wd hw 9 rfl) (wd hw 110 rfl) (by decide) (Mo.exa (i := 0) rfl) (Met.frame [ob a221 "com/example/clauseline/clauseline/model/Line" [("com/example/clauseline/clauseline/model/Line", "bytes", "[B", .null), ("com/example/clauseline/clauseline/model/Line", "start", "I", (.int (0 : Int32))), ("com/example/clauseline/clauseline/model/Line", "end", "I", (.int (0 : Int32)))]] (mt74 Z a0 hw h0 v93 v94 p71 p73 p74 hl he hs hy a5 a6 a7 a1 a4 r1 r2 r3)) (argsL := [(.int (3 : Int32))]) (rest := [(.int (p74 + (1 : Int32))), (.ref a1), (.ref a221), (.ref a221)]) rfl (ps := [.int]) (by decide +kernel) rfl rfl 4 rfl (by decide) (by decide) (by decide) (by decide) ?_
  rintro _ _ ⟨_, ⟨rfl, rfl⟩, rfl⟩
  show Go B14_70 Z a0 h0 _ 1 4 (mem90 a5 a6 a7 a1 a4 r1 r2 r3 v94 v93 a221) 72 #[.val (.ref a7), .val (.int (3 : Int32)), .val (.int (3 : Int32)), .val .null, .val (.int (p74 + (1 : Int32)))] [(.int (trim (p74 + (1 : Int32)) p71 p73)), (.int (p74 + (1 : Int32))), (.ref a1), (.ref a221), (.ref a221)]
  refine Go.front 5 (Nat.le_of_ble_eq_true rfl) ?_
  refine Go.front 4 (Nat.le_of_ble_eq_true rfl) ?_
  show Go B14_70 Z a0 h0 _ 1 4 (mem91 a1 v94 a221 a5 a6 a7 a4 r1 r2 r3 v93) 72 #[.val (.ref a7), .val (.int (3 : Int32)), .val (.int (3 : Int32)), .val .null, .val (.int (p74 + (1 : Int32)))] [(.int (trim (p74 + (1 : Int32)) p71 p73)), (.int (p74 + (1 : Int32))), (.ref a1), (.ref a221), (.ref a221)]
  refine go_callI 75 rfl d14_72 rfl (wd hw 112 rfl) (wd hw 113 rfl) (wd hw 105 rfl) (wd hw 114 rfl) (by decide) (Met.frame (mem92 a5 a6 a7 a1 a4 r1 r2 r3 v93) (mt77 Z a0 hw h0 v93 v94 p71 p73 p74 hl he hs hy a1 a221)) (argsL := [(.ref a1), (.int (p74 + (1 : Int32))), (.int (trim (p74 + (1 : Int32)) p71 p73))]) (rest := [(.ref a221)]) rfl (ret := none) (ps := [(.array .byte), .int, .int]) (by decide +kernel) rfl rfl 1 rfl (by decide) (by decide) (by decide) (by decide) ?_
  rintro _ _ ⟨_, ⟨rfl, rfl⟩, rfl⟩
  show Go B14_70 Z a0 h0 _ 1 4 (mem93 a1 v94 a221 p74 p71 p73 a5 a6 a7 a4 r1 r2 r3 v93) 75 #[.val (.ref a7), .val (.int (3 : Int32)), .val (.int (3 : Int32)), .val .null, .val (.int (p74 + (1 : Int32)))] [(.ref a221)]
  refine go_astoreN #[.val (.ref a7), .val (.int (3 : Int32)), .val (.int (3 : Int32)), .val (.ref a221), .val (.int (p74 + (1 : Int32)))] 76 rfl d14_75 rfl rfl rfl ?_
  refine go_aloadN 77 rfl d14_76 rfl rfl ?_
  refine go_get 4 0 80 rfl d14_77 rfl rfl rfl (wd hw 29 rfl) ?_
  refine go_getN 2 0 83 rfl d14_80 rfl rfl rfl (wd hw 98 rfl) ?_
  refine go_iloadN 84 rfl d14_83 rfl ?_
  refine go_aloadN 85 rfl d14_84 rfl rfl ?_
  refine go_aastore 3 86 rfl d14_85 rfl rfl rfl (by decide) (Nat.le_of_ble_eq_true rfl) (Mo.sto (i := 3) rfl (fun h M => Ins.self (Mo.exa (i := 1) rfl h M))) ?_
  show Go B14_70 Z a0 h0 _ 1 4 (mem94 a1 v94 a221 p74 p71 p73 a5 a6 a7 a4 r1 r2 r3 v93) 86 #[.val (.ref a7), .val (.int (3 : Int32)), .val (.int (3 : Int32)), .val (.ref a221), .val (.int (p74 + (1 : Int32)))] []
  refine go_aloadN 87 rfl d14_86 rfl rfl ?_
  exact go_areturn d14_87 rfl rfl rfl rfl (by decide) (by decide) ⟨a221, rfl, rfl⟩
def B13_69 : Bdy := (⟨"com/example/clauseline/clauseline/model/Document$Lines", "get", "(I)Ljava/lang/Object;"⟩, prog_17_method_4_code, 2, (some (.object "java/lang/Object")), ({ frames := 3, cells := 1, slots := 4, locals := 48 } : Room))
set_option maxRecDepth 65536 in
set_option maxHeartbeats 4000000 in
theorem mt69 (Z : State) (a0 : Array Value) (hw : ∀ d ∈ tables_1, d.before a0 Z = true) (h0 : Heap) (v93 v94 : List Value) (p71 p73 p74 : Int32) (hl : (3 : Int) < v93.length.toInt32.toInt) (he : v93[3]? = some (.int p71)) (hs : v93[2]? = some (.int p74)) (hy : (p74 + (1 : Int32)).toInt < p71.toInt → ¬ (p71 - (1 : Int32)) < 0 ∧ v94[(p71 - (1 : Int32)).toNatClampNeg]? = some (.int p73)) (a5 : Addr) (a6 : Addr) (a7 : Addr) (a1 : Addr) (a4 : Addr) (r1 : Value) (r2 : Value) (r3 : Value) :
    Met B13_69 Z a0 h0 #[(.ref a7), (.int (3 : Int32))] (mem89 a5 a6 a7 a1 a4 r1 r2 r3 v94 v93) (fun v ds => ∃ a121 : Addr, Ret (some (.ref a121)) (mem94 a1 v94 a121 p74 p71 p73 a5 a6 a7 a4 r1 r2 r3 v93) v ds) := by
  refine Met.of pn13 (ls := #[.val (.ref a7), .val (.int (3 : Int32))]) (fun m => by first | (simp [entryFrame, mkF, argsToLocals, Value.category, B13_69]; done) | rfl) ?_
  show Go B13_69 Z a0 h0 _ 0 0 (mem89 a5 a6 a7 a1 a4 r1 r2 r3 v94 v93) 0 #[.val (.ref a7), .val (.int (3 : Int32))] []
  refine go_aloadN 1 rfl d13_0 rfl rfl ?_
  refine go_iloadN 2 rfl d13_1 rfl ?_
  refine go_callV 5 rfl d13_2 (wd hw 85 rfl) (wd hw 86 rfl) (wd hw 88 rfl) (wd hw 87 rfl) (wd hw 25 rfl) (wd hw 89 rfl) (by decide) (Mo.exa (i := 2) rfl) (mt70 Z a0 hw h0 v93 v94 p71 p73 p74 hl he hs hy a5 a6 a7 a1 a4 r1 r2 r3) (argsL := [(.int (3 : Int32))]) (rest := []) rfl (ps := [.int]) (by decide +kernel) rfl rfl 0 rfl (by decide) (by decide) (by decide) (by decide) ?_
  rintro _ _ ⟨a121, rfl, rfl⟩
  show Go B13_69 Z a0 h0 _ 1 4 (mem94 a1 v94 a121 p74 p71 p73 a5 a6 a7 a4 r1 r2 r3 v93) 5 #[.val (.ref a7), .val (.int (3 : Int32))] [(.ref a121)]
  exact go_areturn d13_5 rfl rfl rfl rfl (by decide) (by decide) ⟨a121, rfl, rfl⟩
def B20_78 : Bdy := (⟨"com/example/clauseline/clauseline/model/Line", "start", "()I"⟩, prog_28_method_2_code, 1, (some .int), ({ frames := 0, cells := 0, slots := 0, locals := 0 } : Room))
set_option maxRecDepth 65536 in
set_option maxHeartbeats 4000000 in
theorem mt78 (Z : State) (a0 : Array Value) (hw : ∀ d ∈ tables_1, d.before a0 Z = true) (h0 : Heap) (v93 v94 : List Value) (p71 p73 p74 : Int32) (hl : (3 : Int) < v93.length.toInt32.toInt) (he : v93[3]? = some (.int p71)) (hs : v93[2]? = some (.int p74)) (hy : (p74 + (1 : Int32)).toInt < p71.toInt → ¬ (p71 - (1 : Int32)) < 0 ∧ v94[(p71 - (1 : Int32)).toNatClampNeg]? = some (.int p73)) (a1 : Addr) (a21 : Addr) :
    Met B20_78 Z a0 h0 #[(.ref a21)] [ar a1 .byte v94, ob a21 "com/example/clauseline/clauseline/model/Line" [("com/example/clauseline/clauseline/model/Line", "bytes", "[B", (.ref a1)), ("com/example/clauseline/clauseline/model/Line", "start", "I", (.int (p74 + (1 : Int32)))), ("com/example/clauseline/clauseline/model/Line", "end", "I", (.int (trim (p74 + (1 : Int32)) p71 p73)))]] (Ret (some (.int (p74 + (1 : Int32)))) [ar a1 .byte v94, ob a21 "com/example/clauseline/clauseline/model/Line" [("com/example/clauseline/clauseline/model/Line", "bytes", "[B", (.ref a1)), ("com/example/clauseline/clauseline/model/Line", "start", "I", (.int (p74 + (1 : Int32)))), ("com/example/clauseline/clauseline/model/Line", "end", "I", (.int (trim (p74 + (1 : Int32)) p71 p73)))]]) := by
  refine Met.of pn20 (ls := #[.val (.ref a21)]) (fun m => by first | (simp [entryFrame, mkF, argsToLocals, Value.category, B20_78]; done) | rfl) ?_
  show Go B20_78 Z a0 h0 _ 0 0 [ar a1 .byte v94, ob a21 "com/example/clauseline/clauseline/model/Line" [("com/example/clauseline/clauseline/model/Line", "bytes", "[B", (.ref a1)), ("com/example/clauseline/clauseline/model/Line", "start", "I", (.int (p74 + (1 : Int32)))), ("com/example/clauseline/clauseline/model/Line", "end", "I", (.int (trim (p74 + (1 : Int32)) p71 p73)))]] 0 #[.val (.ref a21)] []
  refine go_aloadN 1 rfl d20_0 rfl rfl ?_
  refine go_get 1 1 4 rfl d20_1 rfl rfl rfl (wd hw 118 rfl) ?_
  exact go_ireturn d20_4 rfl (Or.inl rfl) rfl rfl (by decide) (by decide) ⟨rfl, rfl⟩
def B21_79 : Bdy := (⟨"com/example/clauseline/clauseline/model/Line", "end", "()I"⟩, prog_28_method_3_code, 1, (some .int), ({ frames := 0, cells := 0, slots := 0, locals := 0 } : Room))
set_option maxRecDepth 65536 in
set_option maxHeartbeats 4000000 in
theorem mt79 (Z : State) (a0 : Array Value) (hw : ∀ d ∈ tables_1, d.before a0 Z = true) (h0 : Heap) (v93 v94 : List Value) (p71 p73 p74 : Int32) (hl : (3 : Int) < v93.length.toInt32.toInt) (he : v93[3]? = some (.int p71)) (hs : v93[2]? = some (.int p74)) (hy : (p74 + (1 : Int32)).toInt < p71.toInt → ¬ (p71 - (1 : Int32)) < 0 ∧ v94[(p71 - (1 : Int32)).toNatClampNeg]? = some (.int p73)) (a1 : Addr) (a21 : Addr) :
    Met B21_79 Z a0 h0 #[(.ref a21)] [ar a1 .byte v94, ob a21 "com/example/clauseline/clauseline/model/Line" [("com/example/clauseline/clauseline/model/Line", "bytes", "[B", (.ref a1)), ("com/example/clauseline/clauseline/model/Line", "start", "I", (.int (p74 + (1 : Int32)))), ("com/example/clauseline/clauseline/model/Line", "end", "I", (.int (trim (p74 + (1 : Int32)) p71 p73)))]] (Ret (some (.int (trim (p74 + (1 : Int32)) p71 p73))) [ar a1 .byte v94, ob a21 "com/example/clauseline/clauseline/model/Line" [("com/example/clauseline/clauseline/model/Line", "bytes", "[B", (.ref a1)), ("com/example/clauseline/clauseline/model/Line", "start", "I", (.int (p74 + (1 : Int32)))), ("com/example/clauseline/clauseline/model/Line", "end", "I", (.int (trim (p74 + (1 : Int32)) p71 p73)))]]) := by
  refine Met.of pn21 (ls := #[.val (.ref a21)]) (fun m => by first | (simp [entryFrame, mkF, argsToLocals, Value.category, B21_79]; done) | rfl) ?_
  show Go B21_79 Z a0 h0 _ 0 0 [ar a1 .byte v94, ob a21 "com/example/clauseline/clauseline/model/Line" [("com/example/clauseline/clauseline/model/Line", "bytes", "[B", (.ref a1)), ("com/example/clauseline/clauseline/model/Line", "start", "I", (.int (p74 + (1 : Int32)))), ("com/example/clauseline/clauseline/model/Line", "end", "I", (.int (trim (p74 + (1 : Int32)) p71 p73)))]] 0 #[.val (.ref a21)] []
  refine go_aloadN 1 rfl d21_0 rfl rfl ?_
  refine go_get 1 2 4 rfl d21_1 rfl rfl rfl (wd hw 120 rfl) ?_
  exact go_ireturn d21_4 rfl (Or.inl rfl) rfl rfl (by decide) (by decide) ⟨rfl, rfl⟩
def B11_j3 : Bdy := (⟨"com/example/clauseline/clauseline/model/DocumentOfPinLaw", "check", "(Ljava/util/List;II[I[I)Z"⟩, method_4_code, 6, (some .boolean), ({ frames := 4, cells := 1, slots := 4, locals := 61 } : Room))
set_option maxRecDepth 65536 in
set_option maxHeartbeats 4000000 in
theorem m_check3 (Z : State) (a0 : Array Value) (hw : ∀ d ∈ tables_1, d.before a0 Z = true) (h0 : Heap) (a1 a2 a3 a4 a5 a6 a7 : Addr) (v91 v92 v93 v94 : List Value) (p7 : Int32) (r1 r2 r3 : Value) (hf : (3 : Int) < p7.toInt → Fact3 v91 v92 v93 v94) :
    Met B11_j3 Z a0 h0 #[(.ref a7), (.int (3 : Int32)), (.int p7), (.ref a2), (.ref a3)] (mem77 a5 a6 a7 a1 a4 r1 r2 r3 v94 v93 a2 v91 a3 v92) (fun v ds => ∃ r9 : Value, Ret (some (.int 1)) (mem88 a5 a6 a7 a1 a4 r1 r2 r3 r9 v94 v93 a2 v91 a3 v92) v ds) := by
  refine Met.of pn11 (ls := #[.val (.ref a7), .val (.int (3 : Int32)), .val (.int p7), .val (.ref a2), .val (.ref a3), .unset]) (fun m => by first | (simp [entryFrame, mkF, argsToLocals, Value.category, B11_j3]; done) | rfl) ?_
  show Go B11_j3 Z a0 h0 _ 0 0 (mem77 a5 a6 a7 a1 a4 r1 r2 r3 v94 v93 a2 v91 a3 v92) 0 #[.val (.ref a7), .val (.int (3 : Int32)), .val (.int p7), .val (.ref a2), .val (.ref a3), .unset] []
  refine go_iloadN 1 rfl d11_0 rfl ?_
  refine go_iloadN 2 rfl d11_1 rfl ?_
  refine go_icmp 7 5 rfl (by decide) rfl d11_2 rfl (fun (hc2 : (3 : Int) < p7.toInt) => ?_) (fun (hc2 : ¬ ((3 : Int) < p7.toInt)) => ?_)
  · obtain ⟨p71, p73, p74, hl, he, hs, hy, hE, hF⟩ := hf hc2
    refine go_aloadN 8 rfl d11_7 rfl rfl ?_
    refine go_iloadN 9 rfl d11_8 rfl ?_
    refine go_callF 14 rfl d11_9 (wd hw 77 rfl) (wd hw 78 rfl) (wd hw 79 rfl) (by decide) (wd hw 80 rfl) (wd hw 81 rfl) (wd hw 82 rfl) (wd hw 83 rfl) (wd hw 68 rfl) (wd hw 25 rfl) (wd hw 84 rfl) (by decide) (Mo.exa (i := 2) rfl) (Met.frame [ar a2 .int v91, ar a3 .int v92] (mt69 Z a0 hw h0 v93 v94 p71 p73 p74 hl he hs hy a5 a6 a7 a1 a4 r1 r2 r3)) (argsL := [(.int (3 : Int32))]) (rest := []) rfl (ps := [.int]) (by decide +kernel) rfl rfl 0 rfl (by decide) (by decide) (by decide) (by decide) ?_
    rintro _ _ ⟨_, ⟨a21, rfl, rfl⟩, rfl⟩
    show Go B11_j3 Z a0 h0 _ 1 4 (mem95 a1 v94 a21 p74 p71 p73 a5 a6 a7 a4 r1 r2 r3 v93 a2 v91 a3 v92) 14 #[.val (.ref a7), .val (.int (3 : Int32)), .val (.int p7), .val (.ref a2), .val (.ref a3), .unset] [(.ref a21)]
    refine go_cast 17 rfl d11_14 rfl (wd hw 123 rfl) (fun h M => Ins.self (Mo.exa (i := 1) rfl h M)) ?_
    refine go_astore #[.val (.ref a7), .val (.int (3 : Int32)), .val (.int p7), .val (.ref a2), .val (.ref a3), .val (.ref a21)] 19 rfl d11_17 rfl rfl rfl ?_
    refine go_aload 21 rfl d11_19 rfl rfl ?_
    refine go_callV 24 rfl d11_21 (wd hw 124 rfl) (wd hw 125 rfl) (wd hw 127 rfl) (wd hw 126 rfl) (wd hw 105 rfl) (wd hw 128 rfl) (by decide) (Mo.exa (i := 1) rfl) (Met.frame (mem96 a5 a6 a7 a1 a4 r1 r2 r3 a21 v93 a2 v91 a3 v92) (mt78 Z a0 hw h0 v93 v94 p71 p73 p74 hl he hs hy a1 a21)) (argsL := []) (rest := []) rfl (ps := []) (by decide +kernel) rfl rfl 0 rfl (by decide) (by decide) (by decide) (by decide) ?_
    rintro _ _ ⟨_, ⟨rfl, rfl⟩, rfl⟩
    show Go B11_j3 Z a0 h0 _ 1 4 (mem95 a1 v94 a21 p74 p71 p73 a5 a6 a7 a4 r1 r2 r3 v93 a2 v91 a3 v92) 24 #[.val (.ref a7), .val (.int (3 : Int32)), .val (.int p7), .val (.ref a2), .val (.ref a3), .val (.ref a21)] [(.int (p74 + (1 : Int32)))]
    refine go_aloadN 25 rfl d11_24 rfl rfl ?_
    refine go_iloadN 26 rfl d11_25 rfl ?_
    refine go_iaload 27 rfl d11_26 rfl (v := (.int (p74 + (1 : Int32)))) (Mo.el (i := 6) rfl (by decide) hE) ?_
    refine go_icmp 46 30 rfl (by decide) rfl d11_27 rfl (fun (hc27 : (p74 + (1 : Int32)).toInt ≠ (p74 + (1 : Int32)).toInt) => absurd hc27 (by simp)) (fun (hc27 : ¬ ((p74 + (1 : Int32)).toInt ≠ (p74 + (1 : Int32)).toInt)) => ?_)
    refine go_aload 32 rfl d11_30 rfl rfl ?_
    refine go_callV 35 rfl d11_32 (wd hw 129 rfl) (wd hw 130 rfl) (wd hw 132 rfl) (wd hw 131 rfl) (wd hw 105 rfl) (wd hw 133 rfl) (by decide) (Mo.exa (i := 1) rfl) (Met.frame (mem96 a5 a6 a7 a1 a4 r1 r2 r3 a21 v93 a2 v91 a3 v92) (mt79 Z a0 hw h0 v93 v94 p71 p73 p74 hl he hs hy a1 a21)) (argsL := []) (rest := []) rfl (ps := []) (by decide +kernel) rfl rfl 0 rfl (by decide) (by decide) (by decide) (by decide) ?_
    rintro _ _ ⟨_, ⟨rfl, rfl⟩, rfl⟩
    show Go B11_j3 Z a0 h0 _ 1 4 (mem95 a1 v94 a21 p74 p71 p73 a5 a6 a7 a4 r1 r2 r3 v93 a2 v91 a3 v92) 35 #[.val (.ref a7), .val (.int (3 : Int32)), .val (.int p7), .val (.ref a2), .val (.ref a3), .val (.ref a21)] [(.int (trim (p74 + (1 : Int32)) p71 p73))]
    refine go_aload 37 rfl d11_35 rfl rfl ?_
    refine go_iloadN 38 rfl d11_37 rfl ?_
    refine go_iaload 39 rfl d11_38 rfl (v := (.int (trim (p74 + (1 : Int32)) p71 p73))) (Mo.el (i := 7) rfl (by decide) hF) ?_
    refine go_icmp 46 42 rfl (by decide) rfl d11_39 rfl (fun (hc39 : (trim (p74 + (1 : Int32)) p71 p73).toInt ≠ (trim (p74 + (1 : Int32)) p71 p73).toInt) => absurd hc39 (by simp)) (fun (hc39 : ¬ ((trim (p74 + (1 : Int32)) p71 p73).toInt ≠ (trim (p74 + (1 : Int32)) p71 p73).toInt)) => ?_)
    refine go_iconst (1 : Int32) 43 rfl d11_42 rfl ?_
    refine go_goto 47 (by decide) rfl d11_43 ?_
    refine Go.sub (ds' := (mem97 a1 v94 a5 a6 a7 a4 r1 r2 r3 a21 v93 a2 v91 a3 v92)) (.cons₂ _ (.cons _ (.cons₂ _ (.cons₂ _ (.cons₂ _ (.cons₂ _ (.cons₂ _ (.cons₂ _ .slnil)))))))) ?_
    refine Go.front 6 (Nat.le_of_ble_eq_true rfl) ?_
    refine Go.front 6 (Nat.le_of_ble_eq_true rfl) ?_
    refine Go.front 6 (Nat.le_of_ble_eq_true rfl) ?_
    refine Go.front 3 (Nat.le_of_ble_eq_true rfl) ?_
    refine Go.front 6 (Nat.le_of_ble_eq_true rfl) ?_
    refine Go.front 6 (Nat.le_of_ble_eq_true rfl) ?_
    refine Go.front 6 (Nat.le_of_ble_eq_true rfl) ?_
    show Go B11_j3 Z a0 h0 _ 1 4 (mem98 a5 a6 a7 a1 a4 r1 r2 r3 a21 v94 v93 a2 v91 a3 v92) 47 #[.val (.ref a7), .val (.int (3 : Int32)), .val (.int p7), .val (.ref a2), .val (.ref a3), .val (.ref a21)] [(.int (1 : Int32))]
    exact go_ireturn d11_47 rfl (Or.inr (Or.inl rfl)) rfl rfl (by decide) (by decide) ⟨_, rfl, rfl⟩
  · refine go_iconst (1 : Int32) 6 rfl d11_5 rfl ?_
    exact go_ireturn d11_6 rfl (Or.inr (Or.inl rfl)) rfl rfl (by decide) (by decide) ⟨.null, rfl, rfl⟩
theorem d8_0 : decode prog_16_method_4_code 0 = .ok (.aload_n 0, 1) := by decide +kernel
theorem d8_1 : decode prog_16_method_4_code 1 = .ok (.getfield 24, 3) := by decide +kernel
theorem d8_4 : decode prog_16_method_4_code 4 = .ok (.arraylength, 1) := by decide +kernel
theorem d8_5 : decode prog_16_method_4_code 5 = .ok (.ireturn, 1) := by decide +kernel
theorem pn8 : plainFor (⟨"com/example/clauseline/clauseline/model/Document", "size", "()I"⟩ : MethodName) = true := by first | (apply plainFor_of_name; simp [plainName, overriddenIn]; done) | decide +kernel
def B8_80 : Bdy := (⟨"com/example/clauseline/clauseline/model/Document", "size", "()I"⟩, prog_16_method_4_code, 1, (some .int), ({ frames := 0, cells := 0, slots := 0, locals := 0 } : Room))
set_option maxRecDepth 65536 in
set_option maxHeartbeats 4000000 in
theorem mt80 (Z : State) (a0 : Array Value) (hw : ∀ d ∈ tables_1, d.before a0 Z = true) (h0 : Heap) (a5 : Addr) (a6 : Addr) (a7 : Addr) (a1 : Addr) (a4 : Addr) (v94 : List Value) (v93 : List Value) :
    Met B8_80 Z a0 h0 #[(.ref a5)] (mem56 a5 a6 a7 a1 a4 v94 v93) (Ret (some (.int (v94.length.toInt32))) (mem56 a5 a6 a7 a1 a4 v94 v93)) := by
  refine Met.of pn8 (ls := #[.val (.ref a5)]) (fun m => by first | (simp [entryFrame, mkF, argsToLocals, Value.category, B8_80]; done) | rfl) ?_
  show Go B8_80 Z a0 h0 _ 0 0 (mem56 a5 a6 a7 a1 a4 v94 v93) 0 #[.val (.ref a5)] []
  refine go_aloadN 1 rfl d8_0 rfl rfl ?_
  refine go_get 0 2 4 rfl d8_1 rfl rfl rfl (wd hw 47 rfl) ?_
  refine go_alen 3 5 rfl d8_4 rfl rfl ?_
  exact go_ireturn d8_5 rfl (Or.inl rfl) rfl rfl (by decide) (by decide) ⟨rfl, rfl⟩
theorem d9_0 : decode prog_16_method_3_code 0 = .ok (.aload_n 0, 1) := by decide +kernel
theorem d9_1 : decode prog_16_method_3_code 1 = .ok (.getfield 20, 3) := by decide +kernel
theorem d9_4 : decode prog_16_method_3_code 4 = .ok (.areturn, 1) := by decide +kernel
theorem pn9 : plainFor (⟨"com/example/clauseline/clauseline/model/Document", "lines", "()Ljava/util/List;"⟩ : MethodName) = true := by first | (apply plainFor_of_name; simp [plainName, overriddenIn]; done) | decide +kernel
def B9_81 : Bdy := (⟨"com/example/clauseline/clauseline/model/Document", "lines", "()Ljava/util/List;"⟩, prog_16_method_3_code, 1, (some (.object "java/util/List")), ({ frames := 0, cells := 0, slots := 0, locals := 0 } : Room))
set_option maxRecDepth 65536 in
set_option maxHeartbeats 4000000 in
theorem mt81 (Z : State) (a0 : Array Value) (hw : ∀ d ∈ tables_1, d.before a0 Z = true) (h0 : Heap) (a5 : Addr) (a6 : Addr) (a7 : Addr) (a1 : Addr) (a4 : Addr) (v94 : List Value) (v93 : List Value) :
    Met B9_81 Z a0 h0 #[(.ref a5)] (mem56 a5 a6 a7 a1 a4 v94 v93) (Ret (some (.ref a7)) (mem56 a5 a6 a7 a1 a4 v94 v93)) := by
  refine Met.of pn9 (ls := #[.val (.ref a5)]) (fun m => by first | (simp [entryFrame, mkF, argsToLocals, Value.category, B9_81]; done) | rfl) ?_
  show Go B9_81 Z a0 h0 _ 0 0 (mem56 a5 a6 a7 a1 a4 v94 v93) 0 #[.val (.ref a5)] []
  refine go_aloadN 1 rfl d9_0 rfl rfl ?_
  refine go_get 0 1 4 rfl d9_1 rfl rfl rfl (wd hw 45 rfl) ?_
  exact go_areturn d9_4 rfl rfl rfl rfl (by decide) (by decide) ⟨rfl, rfl⟩
theorem d10_0 : decode prog_17_method_3_code 0 = .ok (.aload_n 0, 1) := by decide +kernel
theorem d10_1 : decode prog_17_method_3_code 1 = .ok (.getfield 3, 3) := by decide +kernel
theorem d10_4 : decode prog_17_method_3_code 4 = .ok (.getfield 15, 3) := by decide +kernel
theorem d10_7 : decode prog_17_method_3_code 7 = .ok (.arraylength, 1) := by decide +kernel
theorem d10_8 : decode prog_17_method_3_code 8 = .ok (.ireturn, 1) := by decide +kernel
theorem pn10 : plainFor (⟨"com/example/clauseline/clauseline/model/Document$Lines", "size", "()I"⟩ : MethodName) = true := by first | (apply plainFor_of_name; simp [plainName, overriddenIn]; done) | decide +kernel
def B10_82 : Bdy := (⟨"com/example/clauseline/clauseline/model/Document$Lines", "size", "()I"⟩, prog_17_method_3_code, 1, (some .int), ({ frames := 0, cells := 0, slots := 0, locals := 0 } : Room))
set_option maxRecDepth 65536 in
set_option maxHeartbeats 4000000 in
theorem mt82 (Z : State) (a0 : Array Value) (hw : ∀ d ∈ tables_1, d.before a0 Z = true) (h0 : Heap) (a5 : Addr) (a6 : Addr) (a7 : Addr) (a1 : Addr) (a4 : Addr) (v94 : List Value) (v93 : List Value) :
    Met B10_82 Z a0 h0 #[(.ref a7)] (mem56 a5 a6 a7 a1 a4 v94 v93) (Ret (some (.int (v93.length.toInt32))) (mem56 a5 a6 a7 a1 a4 v94 v93)) := by
  refine Met.of pn10 (ls := #[.val (.ref a7)]) (fun m => by first | (simp [entryFrame, mkF, argsToLocals, Value.category, B10_82]; done) | rfl) ?_
  show Go B10_82 Z a0 h0 _ 0 0 (mem56 a5 a6 a7 a1 a4 v94 v93) 0 #[.val (.ref a7)] []
  refine go_aloadN 1 rfl d10_0 rfl rfl ?_
  refine go_get 2 0 4 rfl d10_1 rfl rfl rfl (wd hw 29 rfl) ?_
  refine go_getN 0 3 7 rfl d10_4 rfl rfl rfl (wd hw 70 rfl) ?_
  refine go_alen 4 8 rfl d10_7 rfl rfl ?_
  exact go_ireturn d10_8 rfl (Or.inl rfl) rfl rfl (by decide) (by decide) ⟨rfl, rfl⟩
set_option maxRecDepth 65536 in
set_option maxHeartbeats 4000000 in
theorem law_tail (Z : State) (a0 : Array Value) (hw : ∀ d ∈ tables_1, d.before a0 Z = true) (h0 : Heap) (p1 p2 p3 p4 p5 p6 z0 z1 z2 z3 : Int32) (a1 a2 a3 a4 a5 a6 a7 : Addr) (v91 v92 v93 v94 : List Value) (p7 p8 : Int32) (hn : v94.length.toInt32 = p6) (hb : v93.length.toInt32 = p7) (f0 : (0 : Int) < p7.toInt → Fact0 v91 v92 v93 v94) (f1 : (1 : Int) < p7.toInt → Fact1 v91 v92 v93 v94) (f2 : (2 : Int) < p7.toInt → Fact2 v91 v92 v93 v94) (f3 : (3 : Int) < p7.toInt → Fact3 v91 v92 v93 v94) :
    Go B0 Z a0 h0 (fun v _ => v = some (.int 1)) 7 41 (mem55 a5 a6 a7 a1 a4 v94 v93 a2 v91 a3 v92) 393 #[.val (.int p1), .val (.int p2), .val (.int p3), .val (.int p4), .val (.int p5), .val (.int p6), .val (.int z0), .val (.int z1), .val (.int z2), .val (.int z3), .val (.ref a1), .val (.ref a2), .val (.ref a3), .val (.int p7), .val (.int p8), .val (.ref a5), .unset] [] := by
  show Go B0 Z a0 h0 _ 7 41 (mem55 a5 a6 a7 a1 a4 v94 v93 a2 v91 a3 v92) 393 #[.val (.int p1), .val (.int p2), .val (.int p3), .val (.int p4), .val (.int p5), .val (.int p6), .val (.int z0), .val (.int z1), .val (.int z2), .val (.int z3), .val (.ref a1), .val (.ref a2), .val (.ref a3), .val (.int p7), .val (.int p8), .val (.ref a5), .unset] []
  refine go_aload 395 rfl at_393 rfl rfl ?_
  refine go_callV 398 rfl at_395 (wd hw 51 rfl) (wd hw 52 rfl) (wd hw 54 rfl) (wd hw 53 rfl) (wd hw 9 rfl) (wd hw 55 rfl) (by decide) (Mo.exa (i := 0) rfl) (Met.frame [ar a2 .int v91, ar a3 .int v92] (mt80 Z a0 hw h0 a5 a6 a7 a1 a4 v94 v93)) (argsL := []) (rest := []) rfl (ps := []) (by decide +kernel) rfl rfl 0 rfl (by decide) (by decide) (by decide) (by decide) ?_
  rintro _ _ ⟨_, ⟨rfl, rfl⟩, rfl⟩
  show Go B0 Z a0 h0 _ 7 41 (mem55 a5 a6 a7 a1 a4 v94 v93 a2 v91 a3 v92) 398 #[.val (.int p1), .val (.int p2), .val (.int p3), .val (.int p4), .val (.int p5), .val (.int p6), .val (.int z0), .val (.int z1), .val (.int z2), .val (.int z3), .val (.ref a1), .val (.ref a2), .val (.ref a3), .val (.int p7), .val (.int p8), .val (.ref a5), .unset] [(.int (v94.length.toInt32))]
  refine go_iload 400 rfl at_398 rfl ?_
  refine go_icmp 405 403 rfl (by decide) rfl at_400 rfl (fun (hc400 : (v94.length.toInt32).toInt = p6.toInt) => ?_) (fun (hc400 : ¬ ((v94.length.toInt32).toInt = p6.toInt)) => absurd hc400 (by exact fun q => q (congrArg Int32.toInt hn)))
  refine go_aload 407 rfl at_405 rfl rfl ?_
  refine go_callV 410 rfl at_407 (wd hw 56 rfl) (wd hw 57 rfl) (wd hw 59 rfl) (wd hw 58 rfl) (wd hw 9 rfl) (wd hw 60 rfl) (by decide) (Mo.exa (i := 0) rfl) (Met.frame [ar a2 .int v91, ar a3 .int v92] (mt81 Z a0 hw h0 a5 a6 a7 a1 a4 v94 v93)) (argsL := []) (rest := []) rfl (ps := []) (by decide +kernel) rfl rfl 0 rfl (by decide) (by decide) (by decide) (by decide) ?_
  rintro _ _ ⟨_, ⟨rfl, rfl⟩, rfl⟩
  show Go B0 Z a0 h0 _ 7 41 (mem55 a5 a6 a7 a1 a4 v94 v93 a2 v91 a3 v92) 410 #[.val (.int p1), .val (.int p2), .val (.int p3), .val (.int p4), .val (.int p5), .val (.int p6), .val (.int z0), .val (.int z1), .val (.int z2), .val (.int z3), .val (.ref a1), .val (.ref a2), .val (.ref a3), .val (.int p7), .val (.int p8), .val (.ref a5), .unset] [(.ref a7)]
  refine go_astore #[.val (.int p1), .val (.int p2), .val (.int p3), .val (.int p4), .val (.int p5), .val (.int p6), .val (.int z0), .val (.int z1), .val (.int z2), .val (.int z3), .val (.ref a1), .val (.ref a2), .val (.ref a3), .val (.int p7), .val (.int p8), .val (.ref a5), .val (.ref a7)] 412 rfl at_410 rfl rfl rfl ?_
  refine go_aload 414 rfl at_412 rfl rfl ?_
  refine go_callF 419 rfl at_414 (wd hw 61 rfl) (wd hw 62 rfl) (wd hw 63 rfl) (by decide) (wd hw 64 rfl) (wd hw 65 rfl) (wd hw 66 rfl) (wd hw 67 rfl) (wd hw 68 rfl) (wd hw 25 rfl) (wd hw 69 rfl) (by decide) (Mo.exa (i := 2) rfl) (Met.frame [ar a2 .int v91, ar a3 .int v92] (mt82 Z a0 hw h0 a5 a6 a7 a1 a4 v94 v93)) (argsL := []) (rest := []) rfl (ps := []) (by decide +kernel) rfl rfl 0 rfl (by decide) (by decide) (by decide) (by decide) ?_
  rintro _ _ ⟨_, ⟨rfl, rfl⟩, rfl⟩
  show Go B0 Z a0 h0 _ 7 41 (mem55 a5 a6 a7 a1 a4 v94 v93 a2 v91 a3 v92) 419 #[.val (.int p1), .val (.int p2), .val (.int p3), .val (.int p4), .val (.int p5), .val (.int p6), .val (.int z0), .val (.int z1), .val (.int z2), .val (.int z3), .val (.ref a1), .val (.ref a2), .val (.ref a3), .val (.int p7), .val (.int p8), .val (.ref a5), .val (.ref a7)] [(.int (v93.length.toInt32))]
  refine go_iload 421 rfl at_419 rfl ?_
  refine go_icmp 426 424 rfl (by decide) rfl at_421 rfl (fun (hc421 : (v93.length.toInt32).toInt = p7.toInt) => ?_) (fun (hc421 : ¬ ((v93.length.toInt32).toInt = p7.toInt)) => absurd hc421 (by exact fun q => q (congrArg Int32.toInt hb)))
  refine go_aload 428 rfl at_426 rfl rfl ?_
  refine go_iconst (0 : Int32) 429 rfl at_428 rfl ?_
  refine go_iload 431 rfl at_429 rfl ?_
  refine go_aload 433 rfl at_431 rfl rfl ?_
  refine go_aload 435 rfl at_433 rfl rfl ?_
  refine go_callS 438 rfl at_435 (wd hw 71 rfl) (wd hw 72 rfl) (wd hw 3 rfl) (wd hw 73 rfl) (by decide) (m_check0 Z a0 hw h0 a1 a2 a3 a4 a5 a6 a7 v91 v92 v93 v94 p7 f0) (argsL := [(.ref a7), (.int (0 : Int32)), (.int p7), (.ref a2), (.ref a3)]) (rest := []) rfl (ps := [(.object "java/util/List"), .int, .int, (.array .int), (.array .int)]) (by decide +kernel) rfl rfl 0 rfl (by decide) (by decide) (by decide) (by decide) ?_
  rintro _ _ ⟨r1, rfl, rfl⟩
  show Go B0 Z a0 h0 _ 8 45 (mem54 a5 a6 a7 a1 a4 r1 v94 v93 a2 v91 a3 v92) 438 #[.val (.int p1), .val (.int p2), .val (.int p3), .val (.int p4), .val (.int p5), .val (.int p6), .val (.int z0), .val (.int z1), .val (.int z2), .val (.int z3), .val (.ref a1), .val (.ref a2), .val (.ref a3), .val (.int p7), .val (.int p8), .val (.ref a5), .val (.ref a7)] [(.int (1 : Int32))]
  refine go_if 490 441 rfl (by decide) rfl at_438 rfl (fun (hc438 : (1 : Int) = 0) => absurd hc438 (by decide)) (fun (hc438 : ¬ ((1 : Int) = 0)) => ?_)
  refine go_aload 443 rfl at_441 rfl rfl ?_
  refine go_iconst (1 : Int32) 444 rfl at_443 rfl ?_
  refine go_iload 446 rfl at_444 rfl ?_
  refine go_aload 448 rfl at_446 rfl rfl ?_
  refine go_aload 450 rfl at_448 rfl rfl ?_
  refine go_callS 453 rfl at_450 (wd hw 71 rfl) (wd hw 72 rfl) (wd hw 3 rfl) (wd hw 73 rfl) (by decide) (m_check1 Z a0 hw h0 a1 a2 a3 a4 a5 a6 a7 v91 v92 v93 v94 p7 r1 f1) (argsL := [(.ref a7), (.int (1 : Int32)), (.int p7), (.ref a2), (.ref a3)]) (rest := []) rfl (ps := [(.object "java/util/List"), .int, .int, (.array .int), (.array .int)]) (by decide +kernel) rfl rfl 0 rfl (by decide) (by decide) (by decide) (by decide) ?_
  rintro _ _ ⟨r2, rfl, rfl⟩
  show Go B0 Z a0 h0 _ 9 49 (mem66 a5 a6 a7 a1 a4 r1 r2 v94 v93 a2 v91 a3 v92) 453 #[.val (.int p1), .val (.int p2), .val (.int p3), .val (.int p4), .val (.int p5), .val (.int p6), .val (.int z0), .val (.int z1), .val (.int z2), .val (.int z3), .val (.ref a1), .val (.ref a2), .val (.ref a3), .val (.int p7), .val (.int p8), .val (.ref a5), .val (.ref a7)] [(.int (1 : Int32))]
  refine go_if 490 456 rfl (by decide) rfl at_453 rfl (fun (hc453 : (1 : Int) = 0) => absurd hc453 (by decide)) (fun (hc453 : ¬ ((1 : Int) = 0)) => ?_)
  refine go_aload 458 rfl at_456 rfl rfl ?_
  refine go_iconst (2 : Int32) 459 rfl at_458 rfl ?_
  refine go_iload 461 rfl at_459 rfl ?_
  refine go_aload 463 rfl at_461 rfl rfl ?_
  refine go_aload 465 rfl at_463 rfl rfl ?_
  refine go_callS 468 rfl at_465 (wd hw 71 rfl) (wd hw 72 rfl) (wd hw 3 rfl) (wd hw 73 rfl) (by decide) (m_check2 Z a0 hw h0 a1 a2 a3 a4 a5 a6 a7 v91 v92 v93 v94 p7 r1 r2 f2) (argsL := [(.ref a7), (.int (2 : Int32)), (.int p7), (.ref a2), (.ref a3)]) (rest := []) rfl (ps := [(.object "java/util/List"), .int, .int, (.array .int), (.array .int)]) (by decide +kernel) rfl rfl 0 rfl (by decide) (by decide) (by decide) (by decide) ?_
  rintro _ _ ⟨r3, rfl, rfl⟩
  show Go B0 Z a0 h0 _ 10 53 (mem77 a5 a6 a7 a1 a4 r1 r2 r3 v94 v93 a2 v91 a3 v92) 468 #[.val (.int p1), .val (.int p2), .val (.int p3), .val (.int p4), .val (.int p5), .val (.int p6), .val (.int z0), .val (.int z1), .val (.int z2), .val (.int z3), .val (.ref a1), .val (.ref a2), .val (.ref a3), .val (.int p7), .val (.int p8), .val (.ref a5), .val (.ref a7)] [(.int (1 : Int32))]
  refine go_if 490 471 rfl (by decide) rfl at_468 rfl (fun (hc468 : (1 : Int) = 0) => absurd hc468 (by decide)) (fun (hc468 : ¬ ((1 : Int) = 0)) => ?_)
  refine go_aload 473 rfl at_471 rfl rfl ?_
  refine go_iconst (3 : Int32) 474 rfl at_473 rfl ?_
  refine go_iload 476 rfl at_474 rfl ?_
  refine go_aload 478 rfl at_476 rfl rfl ?_
  refine go_aload 480 rfl at_478 rfl rfl ?_
  refine go_callS 483 rfl at_480 (wd hw 71 rfl) (wd hw 72 rfl) (wd hw 3 rfl) (wd hw 73 rfl) (by decide) (m_check3 Z a0 hw h0 a1 a2 a3 a4 a5 a6 a7 v91 v92 v93 v94 p7 r1 r2 r3 f3) (argsL := [(.ref a7), (.int (3 : Int32)), (.int p7), (.ref a2), (.ref a3)]) (rest := []) rfl (ps := [(.object "java/util/List"), .int, .int, (.array .int), (.array .int)]) (by decide +kernel) rfl rfl 0 rfl (by decide) (by decide) (by decide) (by decide) ?_
  rintro _ _ ⟨r4, rfl, rfl⟩
  show Go B0 Z a0 h0 _ 11 57 (mem88 a5 a6 a7 a1 a4 r1 r2 r3 r4 v94 v93 a2 v91 a3 v92) 483 #[.val (.int p1), .val (.int p2), .val (.int p3), .val (.int p4), .val (.int p5), .val (.int p6), .val (.int z0), .val (.int z1), .val (.int z2), .val (.int z3), .val (.ref a1), .val (.ref a2), .val (.ref a3), .val (.int p7), .val (.int p8), .val (.ref a5), .val (.ref a7)] [(.int (1 : Int32))]
  refine go_if 490 486 rfl (by decide) rfl at_483 rfl (fun (hc483 : (1 : Int) = 0) => absurd hc483 (by decide)) (fun (hc483 : ¬ ((1 : Int) = 0)) => ?_)
  refine go_iconst (1 : Int32) 487 rfl at_486 rfl ?_
  refine go_goto 491 (by decide) rfl at_487 ?_
  exact go_ireturn at_491 rfl (Or.inr (Or.inl rfl)) rfl rfl (by decide) (by decide) rfl
set_option maxRecDepth 65536 in
set_option maxHeartbeats 4000000 in
theorem law386_0 (Z : State) (a0 : Array Value) (hw : ∀ d ∈ tables_1, d.before a0 Z = true) (h0 : Heap) (p1 p2 p3 p4 p5 z0 z1 z2 z3 : Int32) (a1 a2 a3 : Addr) (v91 v92 : List Value) (p7 p8 : Int32) (hb : (bk0).length.toInt32 = p7) (f0 : (0 : Int) < p7.toInt → Fact0 v91 v92 (bk0) []) (f1 : (1 : Int) < p7.toInt → Fact1 v91 v92 (bk0) []) (f2 : (2 : Int) < p7.toInt → Fact2 v91 v92 (bk0) []) (f3 : (3 : Int) < p7.toInt → Fact3 v91 v92 (bk0) []) (s15 : Slot) (h15 : s15 = .unset ∨ ∃ x : Int32, s15 = .val (.int x)) :
    Go B0 Z a0 h0 (fun v _ => v = some (.int 1)) 3 14 [ar a1 .byte [], ar a2 .int v91, ar a3 .int v92] 386 #[.val (.int p1), .val (.int p2), .val (.int p3), .val (.int p4), .val (.int p5), .val (.int (0 : Int32)), .val (.int z0), .val (.int z1), .val (.int z2), .val (.int z3), .val (.ref a1), .val (.ref a2), .val (.ref a3), .val (.int p7), .val (.int p8), s15, .unset] [] := by
  show Go B0 Z a0 h0 _ 3 14 [ar a1 .byte [], ar a2 .int v91, ar a3 .int v92] 386 #[.val (.int p1), .val (.int p2), .val (.int p3), .val (.int p4), .val (.int p5), .val (.int (0 : Int32)), .val (.int z0), .val (.int z1), .val (.int z2), .val (.int z3), .val (.ref a1), .val (.ref a2), .val (.ref a3), .val (.int p7), .val (.int p8), s15, .unset] []
  refine go_aload 388 rfl at_386 rfl rfl ?_
  refine go_callS 391 rfl at_388 (wd hw 7 rfl) (wd hw 8 rfl) (wd hw 9 rfl) (wd hw 10 rfl) (by decide) (Met.frame [ar a2 .int v91, ar a3 .int v92] (m_of0 Z a0 hw h0 a1)) (argsL := [(.ref a1)]) (rest := []) rfl (ps := [(.array .byte)]) (by decide +kernel) rfl rfl 0 rfl (by decide) (by decide) (by decide) (by decide) ?_
  rintro _ _ ⟨_, ⟨a5, a6, a7, a4, rfl, rfl⟩, rfl⟩
  show Go B0 Z a0 h0 _ 7 36 (mem99 a5 a6 a7 a1 a4 a2 v91 a3 v92) 391 #[.val (.int p1), .val (.int p2), .val (.int p3), .val (.int p4), .val (.int p5), .val (.int (0 : Int32)), .val (.int z0), .val (.int z1), .val (.int z2), .val (.int z3), .val (.ref a1), .val (.ref a2), .val (.ref a3), .val (.int p7), .val (.int p8), s15, .unset] [(.ref a5)]
  rcases h15 with rfl | ⟨x15, rfl⟩
  · refine go_astore #[.val (.int p1), .val (.int p2), .val (.int p3), .val (.int p4), .val (.int p5), .val (.int (0 : Int32)), .val (.int z0), .val (.int z1), .val (.int z2), .val (.int z3), .val (.ref a1), .val (.ref a2), .val (.ref a3), .val (.int p7), .val (.int p8), .val (.ref a5), .unset] 393 rfl at_391 rfl rfl rfl ?_
    exact Go.more (law_tail Z a0 hw h0 p1 p2 p3 p4 p5 (0 : Int32) z0 z1 z2 z3 a1 a2 a3 a4 a5 a6 a7 v91 v92 (bk0) [] p7 p8 rfl hb f0 f1 f2 f3) (by decide) (by decide)
  · refine go_astore #[.val (.int p1), .val (.int p2), .val (.int p3), .val (.int p4), .val (.int p5), .val (.int (0 : Int32)), .val (.int z0), .val (.int z1), .val (.int z2), .val (.int z3), .val (.ref a1), .val (.ref a2), .val (.ref a3), .val (.int p7), .val (.int p8), .val (.ref a5), .unset] 393 rfl at_391 rfl rfl rfl ?_
    exact Go.more (law_tail Z a0 hw h0 p1 p2 p3 p4 p5 (0 : Int32) z0 z1 z2 z3 a1 a2 a3 a4 a5 a6 a7 v91 v92 (bk0) [] p7 p8 rfl hb f0 f1 f2 f3) (by decide) (by decide)
set_option maxRecDepth 65536 in
set_option maxHeartbeats 4000000 in
theorem law159_0 (Z : State) (a0 : Array Value) (hw : ∀ d ∈ tables_1, d.before a0 Z = true) (h0 : Heap) (p1 p2 p3 p4 p5 z0 z1 z2 z3 : Int32) (a1 a2 a3 : Addr) :
    Go B0 Z a0 h0 (fun v _ => v = some (.int 1)) 3 14 [ar a1 .byte [], ar a2 .int [(.int (0 : Int32)), (.int (0 : Int32)), (.int (0 : Int32)), (.int (0 : Int32)), (.int (0 : Int32))], ar a3 .int [(.int (0 : Int32)), (.int (0 : Int32)), (.int (0 : Int32)), (.int (0 : Int32)), (.int (0 : Int32))]] 159 #[.val (.int p1), .val (.int p2), .val (.int p3), .val (.int p4), .val (.int p5), .val (.int (0 : Int32)), .val (.int z0), .val (.int z1), .val (.int z2), .val (.int z3), .val (.ref a1), .val (.ref a2), .val (.ref a3), .val (.int (0 : Int32)), .val (.int (0 : Int32)), .unset, .unset] [] := by
  refine seg0 Z a0 hw h0 _ _ _ _ _ _ _ _ _ _ _ _ _ _ _ _ _ _ (by decide) rfl rfl rfl ?_
  refine seg1 Z a0 hw h0 _ _ _ _ _ _ _ _ _ _ _ _ _ _ _ _ _ _ (ite_r 0 (by decide) (by decide)) (ite_len rfl) (ite_len rfl) ?_
  refine seg2 Z a0 hw h0 _ _ _ _ _ _ _ _ _ _ _ _ _ _ _ _ _ _ (ite_r 1 (ite_r 0 (by decide) (by decide)) (by decide)) (ite_len (ite_len rfl)) (ite_len (ite_len rfl)) ?_
  refine seg3 Z a0 hw h0 _ _ _ _ _ _ _ _ _ _ _ _ _ _ _ _ _ _ (ite_r 2 (ite_r 1 (ite_r 0 (by decide) (by decide)) (by decide)) (by decide)) (ite_len (ite_len (ite_len rfl))) (ite_len (ite_len (ite_len rfl))) ?_
  refine seg4 Z a0 hw h0 _ _ _ _ _ _ _ _ _ _ _ _ _ _ _ _ _ _ (ite_r 3 (ite_r 2 (ite_r 1 (ite_r 0 (by decide) (by decide)) (by decide)) (by decide)) (by decide)) (ite_len (ite_len (ite_len (ite_len rfl)))) (ite_len (ite_len (ite_len (ite_len rfl)))) (fun s15 h15 => ?_)
  refine law386_0 Z a0 hw h0 p1 p2 p3 p4 p5 z0 z1 z2 z3 a1 a2 a3 _ _ _ _ ?_ ?_ ?_ ?_ ?_ s15 h15
  · (try simp only [bk0, bump, bumq, wri, eq_false (by decide : ¬ (0 : Int) < (0 : Int32).toInt), eq_false (by decide : ¬ (1 : Int) < (0 : Int32).toInt), eq_false (by decide : ¬ (2 : Int) < (0 : Int32).toInt), eq_false (by decide : ¬ (3 : Int) < (0 : Int32).toInt), eq_false (by decide : ¬ (0 : Int32).toInt < (0 : Int32).toInt), eq_false (by decide : ¬ (1 : Int32).toInt < (0 : Int32).toInt), eq_false (by decide : ¬ (2 : Int32).toInt < (0 : Int32).toInt), eq_false (by decide : ¬ (3 : Int32).toInt < (0 : Int32).toInt), eq_false (by decide : ¬ (4 : Int32).toInt < (0 : Int32).toInt), true_and, false_and, and_true, and_false, and_self, if_true, if_false, eq_self]); decide
  · ((try simp only [bk0, bump, bumq, wri, eq_false (by decide : ¬ (0 : Int) < (0 : Int32).toInt), eq_false (by decide : ¬ (1 : Int) < (0 : Int32).toInt), eq_false (by decide : ¬ (2 : Int) < (0 : Int32).toInt), eq_false (by decide : ¬ (3 : Int) < (0 : Int32).toInt), eq_false (by decide : ¬ (0 : Int32).toInt < (0 : Int32).toInt), eq_false (by decide : ¬ (1 : Int32).toInt < (0 : Int32).toInt), eq_false (by decide : ¬ (2 : Int32).toInt < (0 : Int32).toInt), eq_false (by decide : ¬ (3 : Int32).toInt < (0 : Int32).toInt), eq_false (by decide : ¬ (4 : Int32).toInt < (0 : Int32).toInt), true_and, false_and, and_true, and_false, and_self, if_true, if_false, eq_self]); first | exact fun h => absurd h (by decide) | exact fun _ => ⟨_, _, by decide, rfl, fun _ => ⟨by decide, rfl⟩, rfl, rfl⟩ | exact fun _ => ⟨_, _, by decide, rfl, fun h => absurd h (by decide), rfl, rfl⟩)
  · ((try simp only [bk0, bump, bumq, wri, eq_false (by decide : ¬ (0 : Int) < (0 : Int32).toInt), eq_false (by decide : ¬ (1 : Int) < (0 : Int32).toInt), eq_false (by decide : ¬ (2 : Int) < (0 : Int32).toInt), eq_false (by decide : ¬ (3 : Int) < (0 : Int32).toInt), eq_false (by decide : ¬ (0 : Int32).toInt < (0 : Int32).toInt), eq_false (by decide : ¬ (1 : Int32).toInt < (0 : Int32).toInt), eq_false (by decide : ¬ (2 : Int32).toInt < (0 : Int32).toInt), eq_false (by decide : ¬ (3 : Int32).toInt < (0 : Int32).toInt), eq_false (by decide : ¬ (4 : Int32).toInt < (0 : Int32).toInt), true_and, false_and, and_true, and_false, and_self, if_true, if_false, eq_self]); first | exact fun h => absurd h (by decide) | exact fun _ => ⟨_, _, _, by decide, rfl, rfl, fun _ => ⟨by decide, rfl⟩, rfl, rfl⟩ | exact fun _ => ⟨_, _, _, by decide, rfl, rfl, fun h => absurd h (by decide), rfl, rfl⟩)
  · ((try simp only [bk0, bump, bumq, wri, eq_false (by decide : ¬ (0 : Int) < (0 : Int32).toInt), eq_false (by decide : ¬ (1 : Int) < (0 : Int32).toInt), eq_false (by decide : ¬ (2 : Int) < (0 : Int32).toInt), eq_false (by decide : ¬ (3 : Int) < (0 : Int32).toInt), eq_false (by decide : ¬ (0 : Int32).toInt < (0 : Int32).toInt), eq_false (by decide : ¬ (1 : Int32).toInt < (0 : Int32).toInt), eq_false (by decide : ¬ (2 : Int32).toInt < (0 : Int32).toInt), eq_false (by decide : ¬ (3 : Int32).toInt < (0 : Int32).toInt), eq_false (by decide : ¬ (4 : Int32).toInt < (0 : Int32).toInt), true_and, false_and, and_true, and_false, and_self, if_true, if_false, eq_self]); first | exact fun h => absurd h (by decide) | exact fun _ => ⟨_, _, _, by decide, rfl, rfl, fun _ => ⟨by decide, rfl⟩, rfl, rfl⟩ | exact fun _ => ⟨_, _, _, by decide, rfl, rfl, fun h => absurd h (by decide), rfl, rfl⟩)
  · ((try simp only [bk0, bump, bumq, wri, eq_false (by decide : ¬ (0 : Int) < (0 : Int32).toInt), eq_false (by decide : ¬ (1 : Int) < (0 : Int32).toInt), eq_false (by decide : ¬ (2 : Int) < (0 : Int32).toInt), eq_false (by decide : ¬ (3 : Int) < (0 : Int32).toInt), eq_false (by decide : ¬ (0 : Int32).toInt < (0 : Int32).toInt), eq_false (by decide : ¬ (1 : Int32).toInt < (0 : Int32).toInt), eq_false (by decide : ¬ (2 : Int32).toInt < (0 : Int32).toInt), eq_false (by decide : ¬ (3 : Int32).toInt < (0 : Int32).toInt), eq_false (by decide : ¬ (4 : Int32).toInt < (0 : Int32).toInt), true_and, false_and, and_true, and_false, and_self, if_true, if_false, eq_self]); first | exact fun h => absurd h (by decide) | exact fun _ => ⟨_, _, _, by decide, rfl, rfl, fun _ => ⟨by decide, rfl⟩, rfl, rfl⟩ | exact fun _ => ⟨_, _, _, by decide, rfl, rfl, fun h => absurd h (by decide), rfl, rfl⟩)
set_option maxRecDepth 65536 in
set_option maxHeartbeats 4000000 in
theorem law386_1 (Z : State) (a0 : Array Value) (hw : ∀ d ∈ tables_1, d.before a0 Z = true) (h0 : Heap) (p1 p2 p3 p4 p5 z0 z1 z2 z3 : Int32) (a1 a2 a3 : Addr) (v91 v92 : List Value) (p7 p8 : Int32) (hb : (bk1 z0).length.toInt32 = p7) (f0 : (0 : Int) < p7.toInt → Fact0 v91 v92 (bk1 z0) [(.int z0)]) (f1 : (1 : Int) < p7.toInt → Fact1 v91 v92 (bk1 z0) [(.int z0)]) (f2 : (2 : Int) < p7.toInt → Fact2 v91 v92 (bk1 z0) [(.int z0)]) (f3 : (3 : Int) < p7.toInt → Fact3 v91 v92 (bk1 z0) [(.int z0)]) (s15 : Slot) (h15 : s15 = .unset ∨ ∃ x : Int32, s15 = .val (.int x)) :
    Go B0 Z a0 h0 (fun v _ => v = some (.int 1)) 3 14 [ar a1 .byte [(.int z0)], ar a2 .int v91, ar a3 .int v92] 386 #[.val (.int p1), .val (.int p2), .val (.int p3), .val (.int p4), .val (.int p5), .val (.int (1 : Int32)), .val (.int z0), .val (.int z1), .val (.int z2), .val (.int z3), .val (.ref a1), .val (.ref a2), .val (.ref a3), .val (.int p7), .val (.int p8), s15, .unset] [] := by
  show Go B0 Z a0 h0 _ 3 14 [ar a1 .byte [(.int z0)], ar a2 .int v91, ar a3 .int v92] 386 #[.val (.int p1), .val (.int p2), .val (.int p3), .val (.int p4), .val (.int p5), .val (.int (1 : Int32)), .val (.int z0), .val (.int z1), .val (.int z2), .val (.int z3), .val (.ref a1), .val (.ref a2), .val (.ref a3), .val (.int p7), .val (.int p8), s15, .unset] []
  refine go_aload 388 rfl at_386 rfl rfl ?_
  refine go_callS 391 rfl at_388 (wd hw 7 rfl) (wd hw 8 rfl) (wd hw 9 rfl) (wd hw 10 rfl) (by decide) (Met.frame [ar a2 .int v91, ar a3 .int v92] (m_of1 Z a0 hw h0 a1 z0)) (argsL := [(.ref a1)]) (rest := []) rfl (ps := [(.array .byte)]) (by decide +kernel) rfl rfl 0 rfl (by decide) (by decide) (by decide) (by decide) ?_
  rintro _ _ ⟨_, ⟨a5, a6, a7, a4, rfl, rfl⟩, rfl⟩
  show Go B0 Z a0 h0 _ 7 41 (mem100 a5 a6 a7 a1 a4 z0 a2 v91 a3 v92) 391 #[.val (.int p1), .val (.int p2), .val (.int p3), .val (.int p4), .val (.int p5), .val (.int (1 : Int32)), .val (.int z0), .val (.int z1), .val (.int z2), .val (.int z3), .val (.ref a1), .val (.ref a2), .val (.ref a3), .val (.int p7), .val (.int p8), s15, .unset] [(.ref a5)]
  rcases h15 with rfl | ⟨x15, rfl⟩
  · refine go_astore #[.val (.int p1), .val (.int p2), .val (.int p3), .val (.int p4), .val (.int p5), .val (.int (1 : Int32)), .val (.int z0), .val (.int z1), .val (.int z2), .val (.int z3), .val (.ref a1), .val (.ref a2), .val (.ref a3), .val (.int p7), .val (.int p8), .val (.ref a5), .unset] 393 rfl at_391 rfl rfl rfl ?_
    exact Go.more (law_tail Z a0 hw h0 p1 p2 p3 p4 p5 (1 : Int32) z0 z1 z2 z3 a1 a2 a3 a4 a5 a6 a7 v91 v92 (bk1 z0) [(.int z0)] p7 p8 rfl hb f0 f1 f2 f3) (by decide) (by decide)
  · refine go_astore #[.val (.int p1), .val (.int p2), .val (.int p3), .val (.int p4), .val (.int p5), .val (.int (1 : Int32)), .val (.int z0), .val (.int z1), .val (.int z2), .val (.int z3), .val (.ref a1), .val (.ref a2), .val (.ref a3), .val (.int p7), .val (.int p8), .val (.ref a5), .unset] 393 rfl at_391 rfl rfl rfl ?_
    exact Go.more (law_tail Z a0 hw h0 p1 p2 p3 p4 p5 (1 : Int32) z0 z1 z2 z3 a1 a2 a3 a4 a5 a6 a7 v91 v92 (bk1 z0) [(.int z0)] p7 p8 rfl hb f0 f1 f2 f3) (by decide) (by decide)
set_option maxRecDepth 65536 in
set_option maxHeartbeats 4000000 in
theorem law159_1 (Z : State) (a0 : Array Value) (hw : ∀ d ∈ tables_1, d.before a0 Z = true) (h0 : Heap) (p1 p2 p3 p4 p5 z0 z1 z2 z3 : Int32) (a1 a2 a3 : Addr) :
    Go B0 Z a0 h0 (fun v _ => v = some (.int 1)) 3 14 [ar a1 .byte [(.int z0)], ar a2 .int [(.int (0 : Int32)), (.int (0 : Int32)), (.int (0 : Int32)), (.int (0 : Int32)), (.int (0 : Int32))], ar a3 .int [(.int (0 : Int32)), (.int (0 : Int32)), (.int (0 : Int32)), (.int (0 : Int32)), (.int (0 : Int32))]] 159 #[.val (.int p1), .val (.int p2), .val (.int p3), .val (.int p4), .val (.int p5), .val (.int (1 : Int32)), .val (.int z0), .val (.int z1), .val (.int z2), .val (.int z3), .val (.ref a1), .val (.ref a2), .val (.ref a3), .val (.int (0 : Int32)), .val (.int (0 : Int32)), .unset, .unset] [] := by
  refine seg0 Z a0 hw h0 _ _ _ _ _ _ _ _ _ _ _ _ _ _ _ _ _ _ (by decide) rfl rfl rfl ?_
  refine seg1 Z a0 hw h0 _ _ _ _ _ _ _ _ _ _ _ _ _ _ _ _ _ _ (ite_r 0 (by decide) (by decide)) (ite_len rfl) (ite_len rfl) ?_
  refine seg2 Z a0 hw h0 _ _ _ _ _ _ _ _ _ _ _ _ _ _ _ _ _ _ (ite_r 1 (ite_r 0 (by decide) (by decide)) (by decide)) (ite_len (ite_len rfl)) (ite_len (ite_len rfl)) ?_
  refine seg3 Z a0 hw h0 _ _ _ _ _ _ _ _ _ _ _ _ _ _ _ _ _ _ (ite_r 2 (ite_r 1 (ite_r 0 (by decide) (by decide)) (by decide)) (by decide)) (ite_len (ite_len (ite_len rfl))) (ite_len (ite_len (ite_len rfl))) ?_
  refine seg4 Z a0 hw h0 _ _ _ _ _ _ _ _ _ _ _ _ _ _ _ _ _ _ (ite_r 3 (ite_r 2 (ite_r 1 (ite_r 0 (by decide) (by decide)) (by decide)) (by decide)) (by decide)) (ite_len (ite_len (ite_len (ite_len rfl)))) (ite_len (ite_len (ite_len (ite_len rfl)))) (fun s15 h15 => ?_)
  refine law386_1 Z a0 hw h0 p1 p2 p3 p4 p5 z0 z1 z2 z3 a1 a2 a3 _ _ _ _ ?_ ?_ ?_ ?_ ?_ s15 h15
  · (by_cases q0 : z0.toInt = 10) <;> (simp only [bk1, bump, bumq, wri, q0, eq_true (by decide : (0 : Int) < (1 : Int32).toInt), eq_false (by decide : ¬ (1 : Int) < (1 : Int32).toInt), eq_false (by decide : ¬ (2 : Int) < (1 : Int32).toInt), eq_false (by decide : ¬ (3 : Int) < (1 : Int32).toInt), eq_true (by decide : (0 : Int32).toInt < (1 : Int32).toInt), eq_false (by decide : ¬ (1 : Int32).toInt < (1 : Int32).toInt), eq_false (by decide : ¬ (2 : Int32).toInt < (1 : Int32).toInt), eq_false (by decide : ¬ (3 : Int32).toInt < (1 : Int32).toInt), eq_false (by decide : ¬ (4 : Int32).toInt < (1 : Int32).toInt), true_and, false_and, and_true, and_false, and_self, if_true, if_false, eq_self]; decide)
  · (by_cases q0 : z0.toInt = 10) <;> ((try simp only [bk1, bump, bumq, wri, q0, eq_true (by decide : (0 : Int) < (1 : Int32).toInt), eq_false (by decide : ¬ (1 : Int) < (1 : Int32).toInt), eq_false (by decide : ¬ (2 : Int) < (1 : Int32).toInt), eq_false (by decide : ¬ (3 : Int) < (1 : Int32).toInt), eq_true (by decide : (0 : Int32).toInt < (1 : Int32).toInt), eq_false (by decide : ¬ (1 : Int32).toInt < (1 : Int32).toInt), eq_false (by decide : ¬ (2 : Int32).toInt < (1 : Int32).toInt), eq_false (by decide : ¬ (3 : Int32).toInt < (1 : Int32).toInt), eq_false (by decide : ¬ (4 : Int32).toInt < (1 : Int32).toInt), true_and, false_and, and_true, and_false, and_self, if_true, if_false, eq_self]); first | exact fun h => absurd h (by decide) | exact fun _ => ⟨_, _, by decide, rfl, fun _ => ⟨by decide, rfl⟩, rfl, rfl⟩ | exact fun _ => ⟨_, _, by decide, rfl, fun h => absurd h (by decide), rfl, rfl⟩)
  · (by_cases q0 : z0.toInt = 10) <;> ((try simp only [bk1, bump, bumq, wri, q0, eq_true (by decide : (0 : Int) < (1 : Int32).toInt), eq_false (by decide : ¬ (1 : Int) < (1 : Int32).toInt), eq_false (by decide : ¬ (2 : Int) < (1 : Int32).toInt), eq_false (by decide : ¬ (3 : Int) < (1 : Int32).toInt), eq_true (by decide : (0 : Int32).toInt < (1 : Int32).toInt), eq_false (by decide : ¬ (1 : Int32).toInt < (1 : Int32).toInt), eq_false (by decide : ¬ (2 : Int32).toInt < (1 : Int32).toInt), eq_false (by decide : ¬ (3 : Int32).toInt < (1 : Int32).toInt), eq_false (by decide : ¬ (4 : Int32).toInt < (1 : Int32).toInt), true_and, false_and, and_true, and_false, and_self, if_true, if_false, eq_self]); first | exact fun h => absurd h (by decide) | exact fun _ => ⟨_, _, _, by decide, rfl, rfl, fun _ => ⟨by decide, rfl⟩, rfl, rfl⟩ | exact fun _ => ⟨_, _, _, by decide, rfl, rfl, fun h => absurd h (by decide), rfl, rfl⟩)
  · (by_cases q0 : z0.toInt = 10) <;> ((try simp only [bk1, bump, bumq, wri, q0, eq_true (by decide : (0 : Int) < (1 : Int32).toInt), eq_false (by decide : ¬ (1 : Int) < (1 : Int32).toInt), eq_false (by decide : ¬ (2 : Int) < (1 : Int32).toInt), eq_false (by decide : ¬ (3 : Int) < (1 : Int32).toInt), eq_true (by decide : (0 : Int32).toInt < (1 : Int32).toInt), eq_false (by decide : ¬ (1 : Int32).toInt < (1 : Int32).toInt), eq_false (by decide : ¬ (2 : Int32).toInt < (1 : Int32).toInt), eq_false (by decide : ¬ (3 : Int32).toInt < (1 : Int32).toInt), eq_false (by decide : ¬ (4 : Int32).toInt < (1 : Int32).toInt), true_and, false_and, and_true, and_false, and_self, if_true, if_false, eq_self]); first | exact fun h => absurd h (by decide) | exact fun _ => ⟨_, _, _, by decide, rfl, rfl, fun _ => ⟨by decide, rfl⟩, rfl, rfl⟩ | exact fun _ => ⟨_, _, _, by decide, rfl, rfl, fun h => absurd h (by decide), rfl, rfl⟩)
  · (by_cases q0 : z0.toInt = 10) <;> ((try simp only [bk1, bump, bumq, wri, q0, eq_true (by decide : (0 : Int) < (1 : Int32).toInt), eq_false (by decide : ¬ (1 : Int) < (1 : Int32).toInt), eq_false (by decide : ¬ (2 : Int) < (1 : Int32).toInt), eq_false (by decide : ¬ (3 : Int) < (1 : Int32).toInt), eq_true (by decide : (0 : Int32).toInt < (1 : Int32).toInt), eq_false (by decide : ¬ (1 : Int32).toInt < (1 : Int32).toInt), eq_false (by decide : ¬ (2 : Int32).toInt < (1 : Int32).toInt), eq_false (by decide : ¬ (3 : Int32).toInt < (1 : Int32).toInt), eq_false (by decide : ¬ (4 : Int32).toInt < (1 : Int32).toInt), true_and, false_and, and_true, and_false, and_self, if_true, if_false, eq_self]); first | exact fun h => absurd h (by decide) | exact fun _ => ⟨_, _, _, by decide, rfl, rfl, fun _ => ⟨by decide, rfl⟩, rfl, rfl⟩ | exact fun _ => ⟨_, _, _, by decide, rfl, rfl, fun h => absurd h (by decide), rfl, rfl⟩)
set_option maxRecDepth 65536 in
set_option maxHeartbeats 4000000 in
theorem law386_2 (Z : State) (a0 : Array Value) (hw : ∀ d ∈ tables_1, d.before a0 Z = true) (h0 : Heap) (p1 p2 p3 p4 p5 z0 z1 z2 z3 : Int32) (a1 a2 a3 : Addr) (v91 v92 : List Value) (p7 p8 : Int32) (hb : (bk2 z0 z1).length.toInt32 = p7) (f0 : (0 : Int) < p7.toInt → Fact0 v91 v92 (bk2 z0 z1) [(.int z0), (.int z1)]) (f1 : (1 : Int) < p7.toInt → Fact1 v91 v92 (bk2 z0 z1) [(.int z0), (.int z1)]) (f2 : (2 : Int) < p7.toInt → Fact2 v91 v92 (bk2 z0 z1) [(.int z0), (.int z1)]) (f3 : (3 : Int) < p7.toInt → Fact3 v91 v92 (bk2 z0 z1) [(.int z0), (.int z1)]) (s15 : Slot) (h15 : s15 = .unset ∨ ∃ x : Int32, s15 = .val (.int x)) :
    Go B0 Z a0 h0 (fun v _ => v = some (.int 1)) 3 14 [ar a1 .byte [(.int z0), (.int z1)], ar a2 .int v91, ar a3 .int v92] 386 #[.val (.int p1), .val (.int p2), .val (.int p3), .val (.int p4), .val (.int p5), .val (.int (2 : Int32)), .val (.int z0), .val (.int z1), .val (.int z2), .val (.int z3), .val (.ref a1), .val (.ref a2), .val (.ref a3), .val (.int p7), .val (.int p8), s15, .unset] [] := by
  show Go B0 Z a0 h0 _ 3 14 [ar a1 .byte [(.int z0), (.int z1)], ar a2 .int v91, ar a3 .int v92] 386 #[.val (.int p1), .val (.int p2), .val (.int p3), .val (.int p4), .val (.int p5), .val (.int (2 : Int32)), .val (.int z0), .val (.int z1), .val (.int z2), .val (.int z3), .val (.ref a1), .val (.ref a2), .val (.ref a3), .val (.int p7), .val (.int p8), s15, .unset] []
  refine go_aload 388 rfl at_386 rfl rfl ?_
  refine go_callS 391 rfl at_388 (wd hw 7 rfl) (wd hw 8 rfl) (wd hw 9 rfl) (wd hw 10 rfl) (by decide) (Met.frame [ar a2 .int v91, ar a3 .int v92] (m_of2 Z a0 hw h0 a1 z0 z1)) (argsL := [(.ref a1)]) (rest := []) rfl (ps := [(.array .byte)]) (by decide +kernel) rfl rfl 0 rfl (by decide) (by decide) (by decide) (by decide) ?_
  rintro _ _ ⟨_, ⟨a5, a6, a7, a4, rfl, rfl⟩, rfl⟩
  show Go B0 Z a0 h0 _ 7 41 (mem101 a5 a6 a7 a1 a4 z0 z1 a2 v91 a3 v92) 391 #[.val (.int p1), .val (.int p2), .val (.int p3), .val (.int p4), .val (.int p5), .val (.int (2 : Int32)), .val (.int z0), .val (.int z1), .val (.int z2), .val (.int z3), .val (.ref a1), .val (.ref a2), .val (.ref a3), .val (.int p7), .val (.int p8), s15, .unset] [(.ref a5)]
  rcases h15 with rfl | ⟨x15, rfl⟩
  · refine go_astore #[.val (.int p1), .val (.int p2), .val (.int p3), .val (.int p4), .val (.int p5), .val (.int (2 : Int32)), .val (.int z0), .val (.int z1), .val (.int z2), .val (.int z3), .val (.ref a1), .val (.ref a2), .val (.ref a3), .val (.int p7), .val (.int p8), .val (.ref a5), .unset] 393 rfl at_391 rfl rfl rfl ?_
    exact Go.more (law_tail Z a0 hw h0 p1 p2 p3 p4 p5 (2 : Int32) z0 z1 z2 z3 a1 a2 a3 a4 a5 a6 a7 v91 v92 (bk2 z0 z1) [(.int z0), (.int z1)] p7 p8 rfl hb f0 f1 f2 f3) (by decide) (by decide)
  · refine go_astore #[.val (.int p1), .val (.int p2), .val (.int p3), .val (.int p4), .val (.int p5), .val (.int (2 : Int32)), .val (.int z0), .val (.int z1), .val (.int z2), .val (.int z3), .val (.ref a1), .val (.ref a2), .val (.ref a3), .val (.int p7), .val (.int p8), .val (.ref a5), .unset] 393 rfl at_391 rfl rfl rfl ?_
    exact Go.more (law_tail Z a0 hw h0 p1 p2 p3 p4 p5 (2 : Int32) z0 z1 z2 z3 a1 a2 a3 a4 a5 a6 a7 v91 v92 (bk2 z0 z1) [(.int z0), (.int z1)] p7 p8 rfl hb f0 f1 f2 f3) (by decide) (by decide)
set_option maxRecDepth 65536 in
set_option maxHeartbeats 4000000 in
theorem law159_2 (Z : State) (a0 : Array Value) (hw : ∀ d ∈ tables_1, d.before a0 Z = true) (h0 : Heap) (p1 p2 p3 p4 p5 z0 z1 z2 z3 : Int32) (a1 a2 a3 : Addr) :
    Go B0 Z a0 h0 (fun v _ => v = some (.int 1)) 3 14 [ar a1 .byte [(.int z0), (.int z1)], ar a2 .int [(.int (0 : Int32)), (.int (0 : Int32)), (.int (0 : Int32)), (.int (0 : Int32)), (.int (0 : Int32))], ar a3 .int [(.int (0 : Int32)), (.int (0 : Int32)), (.int (0 : Int32)), (.int (0 : Int32)), (.int (0 : Int32))]] 159 #[.val (.int p1), .val (.int p2), .val (.int p3), .val (.int p4), .val (.int p5), .val (.int (2 : Int32)), .val (.int z0), .val (.int z1), .val (.int z2), .val (.int z3), .val (.ref a1), .val (.ref a2), .val (.ref a3), .val (.int (0 : Int32)), .val (.int (0 : Int32)), .unset, .unset] [] := by
  refine seg0 Z a0 hw h0 _ _ _ _ _ _ _ _ _ _ _ _ _ _ _ _ _ _ (by decide) rfl rfl rfl ?_
  refine seg1 Z a0 hw h0 _ _ _ _ _ _ _ _ _ _ _ _ _ _ _ _ _ _ (ite_r 0 (by decide) (by decide)) (ite_len rfl) (ite_len rfl) ?_
  refine seg2 Z a0 hw h0 _ _ _ _ _ _ _ _ _ _ _ _ _ _ _ _ _ _ (ite_r 1 (ite_r 0 (by decide) (by decide)) (by decide)) (ite_len (ite_len rfl)) (ite_len (ite_len rfl)) ?_
  refine seg3 Z a0 hw h0 _ _ _ _ _ _ _ _ _ _ _ _ _ _ _ _ _ _ (ite_r 2 (ite_r 1 (ite_r 0 (by decide) (by decide)) (by decide)) (by decide)) (ite_len (ite_len (ite_len rfl))) (ite_len (ite_len (ite_len rfl))) ?_
  refine seg4 Z a0 hw h0 _ _ _ _ _ _ _ _ _ _ _ _ _ _ _ _ _ _ (ite_r 3 (ite_r 2 (ite_r 1 (ite_r 0 (by decide) (by decide)) (by decide)) (by decide)) (by decide)) (ite_len (ite_len (ite_len (ite_len rfl)))) (ite_len (ite_len (ite_len (ite_len rfl)))) (fun s15 h15 => ?_)
  refine law386_2 Z a0 hw h0 p1 p2 p3 p4 p5 z0 z1 z2 z3 a1 a2 a3 _ _ _ _ ?_ ?_ ?_ ?_ ?_ s15 h15
  · (by_cases q0 : z0.toInt = 10 <;> by_cases q1 : z1.toInt = 10) <;> (simp only [bk2, bump, bumq, wri, q0, q1, eq_true (by decide : (0 : Int) < (2 : Int32).toInt), eq_true (by decide : (1 : Int) < (2 : Int32).toInt), eq_false (by decide : ¬ (2 : Int) < (2 : Int32).toInt), eq_false (by decide : ¬ (3 : Int) < (2 : Int32).toInt), eq_true (by decide : (0 : Int32).toInt < (2 : Int32).toInt), eq_true (by decide : (1 : Int32).toInt < (2 : Int32).toInt), eq_false (by decide : ¬ (2 : Int32).toInt < (2 : Int32).toInt), eq_false (by decide : ¬ (3 : Int32).toInt < (2 : Int32).toInt), eq_false (by decide : ¬ (4 : Int32).toInt < (2 : Int32).toInt), true_and, false_and, and_true, and_false, and_self, if_true, if_false, eq_self]; decide)
  · (by_cases q0 : z0.toInt = 10 <;> by_cases q1 : z1.toInt = 10) <;> ((try simp only [bk2, bump, bumq, wri, q0, q1, eq_true (by decide : (0 : Int) < (2 : Int32).toInt), eq_true (by decide : (1 : Int) < (2 : Int32).toInt), eq_false (by decide : ¬ (2 : Int) < (2 : Int32).toInt), eq_false (by decide : ¬ (3 : Int) < (2 : Int32).toInt), eq_true (by decide : (0 : Int32).toInt < (2 : Int32).toInt), eq_true (by decide : (1 : Int32).toInt < (2 : Int32).toInt), eq_false (by decide : ¬ (2 : Int32).toInt < (2 : Int32).toInt), eq_false (by decide : ¬ (3 : Int32).toInt < (2 : Int32).toInt), eq_false (by decide : ¬ (4 : Int32).toInt < (2 : Int32).toInt), true_and, false_and, and_true, and_false, and_self, if_true, if_false, eq_self]); first | exact fun h => absurd h (by decide) | exact fun _ => ⟨_, _, by decide, rfl, fun _ => ⟨by decide, rfl⟩, rfl, rfl⟩ | exact fun _ => ⟨_, _, by decide, rfl, fun h => absurd h (by decide), rfl, rfl⟩)
  · (by_cases q0 : z0.toInt = 10 <;> by_cases q1 : z1.toInt = 10) <;> ((try simp only [bk2, bump, bumq, wri, q0, q1, eq_true (by decide : (0 : Int) < (2 : Int32).toInt), eq_true (by decide : (1 : Int) < (2 : Int32).toInt), eq_false (by decide : ¬ (2 : Int) < (2 : Int32).toInt), eq_false (by decide : ¬ (3 : Int) < (2 : Int32).toInt), eq_true (by decide : (0 : Int32).toInt < (2 : Int32).toInt), eq_true (by decide : (1 : Int32).toInt < (2 : Int32).toInt), eq_false (by decide : ¬ (2 : Int32).toInt < (2 : Int32).toInt), eq_false (by decide : ¬ (3 : Int32).toInt < (2 : Int32).toInt), eq_false (by decide : ¬ (4 : Int32).toInt < (2 : Int32).toInt), true_and, false_and, and_true, and_false, and_self, if_true, if_false, eq_self]); first | exact fun h => absurd h (by decide) | exact fun _ => ⟨_, _, _, by decide, rfl, rfl, fun _ => ⟨by decide, rfl⟩, rfl, rfl⟩ | exact fun _ => ⟨_, _, _, by decide, rfl, rfl, fun h => absurd h (by decide), rfl, rfl⟩)
  · (by_cases q0 : z0.toInt = 10 <;> by_cases q1 : z1.toInt = 10) <;> ((try simp only [bk2, bump, bumq, wri, q0, q1, eq_true (by decide : (0 : Int) < (2 : Int32).toInt), eq_true (by decide : (1 : Int) < (2 : Int32).toInt), eq_false (by decide : ¬ (2 : Int) < (2 : Int32).toInt), eq_false (by decide : ¬ (3 : Int) < (2 : Int32).toInt), eq_true (by decide : (0 : Int32).toInt < (2 : Int32).toInt), eq_true (by decide : (1 : Int32).toInt < (2 : Int32).toInt), eq_false (by decide : ¬ (2 : Int32).toInt < (2 : Int32).toInt), eq_false (by decide : ¬ (3 : Int32).toInt < (2 : Int32).toInt), eq_false (by decide : ¬ (4 : Int32).toInt < (2 : Int32).toInt), true_and, false_and, and_true, and_false, and_self, if_true, if_false, eq_self]); first | exact fun h => absurd h (by decide) | exact fun _ => ⟨_, _, _, by decide, rfl, rfl, fun _ => ⟨by decide, rfl⟩, rfl, rfl⟩ | exact fun _ => ⟨_, _, _, by decide, rfl, rfl, fun h => absurd h (by decide), rfl, rfl⟩)
  · (by_cases q0 : z0.toInt = 10 <;> by_cases q1 : z1.toInt = 10) <;> ((try simp only [bk2, bump, bumq, wri, q0, q1, eq_true (by decide : (0 : Int) < (2 : Int32).toInt), eq_true (by decide : (1 : Int) < (2 : Int32).toInt), eq_false (by decide : ¬ (2 : Int) < (2 : Int32).toInt), eq_false (by decide : ¬ (3 : Int) < (2 : Int32).toInt), eq_true (by decide : (0 : Int32).toInt < (2 : Int32).toInt), eq_true (by decide : (1 : Int32).toInt < (2 : Int32).toInt), eq_false (by decide : ¬ (2 : Int32).toInt < (2 : Int32).toInt), eq_false (by decide : ¬ (3 : Int32).toInt < (2 : Int32).toInt), eq_false (by decide : ¬ (4 : Int32).toInt < (2 : Int32).toInt), true_and, false_and, and_true, and_false, and_self, if_true, if_false, eq_self]); first | exact fun h => absurd h (by decide) | exact fun _ => ⟨_, _, _, by decide, rfl, rfl, fun _ => ⟨by decide, rfl⟩, rfl, rfl⟩ | exact fun _ => ⟨_, _, _, by decide, rfl, rfl, fun h => absurd h (by decide), rfl, rfl⟩)
set_option maxRecDepth 65536 in
set_option maxHeartbeats 4000000 in
theorem law386_3 (Z : State) (a0 : Array Value) (hw : ∀ d ∈ tables_1, d.before a0 Z = true) (h0 : Heap) (p1 p2 p3 p4 p5 z0 z1 z2 z3 : Int32) (a1 a2 a3 : Addr) (v91 v92 : List Value) (p7 p8 : Int32) (hb : (bk3 z0 z1 z2).length.toInt32 = p7) (f0 : (0 : Int) < p7.toInt → Fact0 v91 v92 (bk3 z0 z1 z2) [(.int z0), (.int z1), (.int z2)]) (f1 : (1 : Int) < p7.toInt → Fact1 v91 v92 (bk3 z0 z1 z2) [(.int z0), (.int z1), (.int z2)]) (f2 : (2 : Int) < p7.toInt → Fact2 v91 v92 (bk3 z0 z1 z2) [(.int z0), (.int z1), (.int z2)]) (f3 : (3 : Int) < p7.toInt → Fact3 v91 v92 (bk3 z0 z1 z2) [(.int z0), (.int z1), (.int z2)]) (s15 : Slot) (h15 : s15 = .unset ∨ ∃ x : Int32, s15 = .val (.int x)) :
    Go B0 Z a0 h0 (fun v _ => v = some (.int 1)) 3 14 [ar a1 .byte [(.int z0), (.int z1), (.int z2)], ar a2 .int v91, ar a3 .int v92] 386 #[.val (.int p1), .val (.int p2), .val (.int p3), .val (.int p4), .val (.int p5), .val (.int (3 : Int32)), .val (.int z0), .val (.int z1), .val (.int z2), .val (.int z3), .val (.ref a1), .val (.ref a2), .val (.ref a3), .val (.int p7), .val (.int p8), s15, .unset] [] := by
  show Go B0 Z a0 h0 _ 3 14 [ar a1 .byte [(.int z0), (.int z1), (.int z2)], ar a2 .int v91, ar a3 .int v92] 386 #[.val (.int p1), .val (.int p2), .val (.int p3), .val (.int p4), .val (.int p5), .val (.int (3 : Int32)), .val (.int z0), .val (.int z1), .val (.int z2), .val (.int z3), .val (.ref a1), .val (.ref a2), .val (.ref a3), .val (.int p7), .val (.int p8), s15, .unset] []
  refine go_aload 388 rfl at_386 rfl rfl ?_
  refine go_callS 391 rfl at_388 (wd hw 7 rfl) (wd hw 8 rfl) (wd hw 9 rfl) (wd hw 10 rfl) (by decide) (Met.frame [ar a2 .int v91, ar a3 .int v92] (m_of3 Z a0 hw h0 a1 z0 z1 z2)) (argsL := [(.ref a1)]) (rest := []) rfl (ps := [(.array .byte)]) (by decide +kernel) rfl rfl 0 rfl (by decide) (by decide) (by decide) (by decide) ?_
  rintro _ _ ⟨_, ⟨a5, a6, a7, a4, rfl, rfl⟩, rfl⟩
  show Go B0 Z a0 h0 _ 7 41 (mem102 a5 a6 a7 a1 a4 z0 z1 z2 a2 v91 a3 v92) 391 #[.val (.int p1), .val (.int p2), .val (.int p3), .val (.int p4), .val (.int p5), .val (.int (3 : Int32)), .val (.int z0), .val (.int z1), .val (.int z2), .val (.int z3), .val (.ref a1), .val (.ref a2), .val (.ref a3), .val (.int p7), .val (.int p8), s15, .unset] [(.ref a5)]
  rcases h15 with rfl | ⟨x15, rfl⟩
  · refine go_astore #[.val (.int p1), .val (.int p2), .val (.int p3), .val (.int p4), .val (.int p5), .val (.int (3 : Int32)), .val (.int z0), .val (.int z1), .val (.int z2), .val (.int z3), .val (.ref a1), .val (.ref a2), .val (.ref a3), .val (.int p7), .val (.int p8), .val (.ref a5), .unset] 393 rfl at_391 rfl rfl rfl ?_
    exact Go.more (law_tail Z a0 hw h0 p1 p2 p3 p4 p5 (3 : Int32) z0 z1 z2 z3 a1 a2 a3 a4 a5 a6 a7 v91 v92 (bk3 z0 z1 z2) [(.int z0), (.int z1), (.int z2)] p7 p8 rfl hb f0 f1 f2 f3) (by decide) (by decide)
  · refine go_astore #[.val (.int p1), .val (.int p2), .val (.int p3), .val (.int p4), .val (.int p5), .val (.int (3 : Int32)), .val (.int z0), .val (.int z1), .val (.int z2), .val (.int z3), .val (.ref a1), .val (.ref a2), .val (.ref a3), .val (.int p7), .val (.int p8), .val (.ref a5), .unset] 393 rfl at_391 rfl rfl rfl ?_
    exact Go.more (law_tail Z a0 hw h0 p1 p2 p3 p4 p5 (3 : Int32) z0 z1 z2 z3 a1 a2 a3 a4 a5 a6 a7 v91 v92 (bk3 z0 z1 z2) [(.int z0), (.int z1), (.int z2)] p7 p8 rfl hb f0 f1 f2 f3) (by decide) (by decide)
set_option maxRecDepth 65536 in
set_option maxHeartbeats 4000000 in
theorem law159_3 (Z : State) (a0 : Array Value) (hw : ∀ d ∈ tables_1, d.before a0 Z = true) (h0 : Heap) (p1 p2 p3 p4 p5 z0 z1 z2 z3 : Int32) (a1 a2 a3 : Addr) :
    Go B0 Z a0 h0 (fun v _ => v = some (.int 1)) 3 14 [ar a1 .byte [(.int z0), (.int z1), (.int z2)], ar a2 .int [(.int (0 : Int32)), (.int (0 : Int32)), (.int (0 : Int32)), (.int (0 : Int32)), (.int (0 : Int32))], ar a3 .int [(.int (0 : Int32)), (.int (0 : Int32)), (.int (0 : Int32)), (.int (0 : Int32)), (.int (0 : Int32))]] 159 #[.val (.int p1), .val (.int p2), .val (.int p3), .val (.int p4), .val (.int p5), .val (.int (3 : Int32)), .val (.int z0), .val (.int z1), .val (.int z2), .val (.int z3), .val (.ref a1), .val (.ref a2), .val (.ref a3), .val (.int (0 : Int32)), .val (.int (0 : Int32)), .unset, .unset] [] := by
  refine seg0 Z a0 hw h0 _ _ _ _ _ _ _ _ _ _ _ _ _ _ _ _ _ _ (by decide) rfl rfl rfl ?_
  refine seg1 Z a0 hw h0 _ _ _ _ _ _ _ _ _ _ _ _ _ _ _ _ _ _ (ite_r 0 (by decide) (by decide)) (ite_len rfl) (ite_len rfl) ?_
  refine seg2 Z a0 hw h0 _ _ _ _ _ _ _ _ _ _ _ _ _ _ _ _ _ _ (ite_r 1 (ite_r 0 (by decide) (by decide)) (by decide)) (ite_len (ite_len rfl)) (ite_len (ite_len rfl)) ?_
  refine seg3 Z a0 hw h0 _ _ _ _ _ _ _ _ _ _ _ _ _ _ _ _ _ _ (ite_r 2 (ite_r 1 (ite_r 0 (by decide) (by decide)) (by decide)) (by decide)) (ite_len (ite_len (ite_len rfl))) (ite_len (ite_len (ite_len rfl))) ?_
  refine seg4 Z a0 hw h0 _ _ _ _ _ _ _ _ _ _ _ _ _ _ _ _ _ _ (ite_r 3 (ite_r 2 (ite_r 1 (ite_r 0 (by decide) (by decide)) (by decide)) (by decide)) (by decide)) (ite_len (ite_len (ite_len (ite_len rfl)))) (ite_len (ite_len (ite_len (ite_len rfl)))) (fun s15 h15 => ?_)
  refine law386_3 Z a0 hw h0 p1 p2 p3 p4 p5 z0 z1 z2 z3 a1 a2 a3 _ _ _ _ ?_ ?_ ?_ ?_ ?_ s15 h15
  · (by_cases q0 : z0.toInt = 10 <;> by_cases q1 : z1.toInt = 10 <;> by_cases q2 : z2.toInt = 10) <;> (simp only [bk3, bump, bumq, wri, q0, q1, q2, eq_true (by decide : (0 : Int) < (3 : Int32).toInt), eq_true (by decide : (1 : Int) < (3 : Int32).toInt), eq_true (by decide : (2 : Int) < (3 : Int32).toInt), eq_false (by decide : ¬ (3 : Int) < (3 : Int32).toInt), eq_true (by decide : (0 : Int32).toInt < (3 : Int32).toInt), eq_true (by decide : (1 : Int32).toInt < (3 : Int32).toInt), eq_true (by decide : (2 : Int32).toInt < (3 : Int32).toInt), eq_false (by decide : ¬ (3 : Int32).toInt < (3 : Int32).toInt), eq_false (by decide : ¬ (4 : Int32).toInt < (3 : Int32).toInt), true_and, false_and, and_true, and_false, and_self, if_true, if_false, eq_self]; decide)
  · (by_cases q0 : z0.toInt = 10 <;> by_cases q1 : z1.toInt = 10 <;> by_cases q2 : z2.toInt = 10) <;> ((try simp only [bk3, bump, bumq, wri, q0, q1, q2, eq_true (by decide : (0 : Int) < (3 : Int32).toInt), eq_true (by decide : (1 : Int) < (3 : Int32).toInt), eq_true (by decide : (2 : Int) < (3 : Int32).toInt), eq_false (by decide : ¬ (3 : Int) < (3 : Int32).toInt), eq_true (by decide : (0 : Int32).toInt < (3 : Int32).toInt), eq_true (by decide : (1 : Int32).toInt < (3 : Int32).toInt), eq_true (by decide : (2 : Int32).toInt < (3 : Int32).toInt), eq_false (by decide : ¬ (3 : Int32).toInt < (3 : Int32).toInt), eq_false (by decide : ¬ (4 : Int32).toInt < (3 : Int32).toInt), true_and, false_and, and_true, and_false, and_self, if_true, if_false, eq_self]); first | exact fun h => absurd h (by decide) | exact fun _ => ⟨_, _, by decide, rfl, fun _ => ⟨by decide, rfl⟩, rfl, rfl⟩ | exact fun _ => ⟨_, _, by decide, rfl, fun h => absurd h (by decide), rfl, rfl⟩)
  · (by_cases q0 : z0.toInt = 10 <;> by_cases q1 : z1.toInt = 10 <;> by_cases q2 : z2.toInt = 10) <;> ((try simp only [bk3, bump, bumq, wri, q0, q1, q2, eq_true (by decide : (0 : Int) < (3 : Int32).toInt), eq_true (by decide : (1 : Int) < (3 : Int32).toInt), eq_true (by decide : (2 : Int) < (3 : Int32).toInt), eq_false (by decide : ¬ (3 : Int) < (3 : Int32).toInt), eq_true (by decide : (0 : Int32).toInt < (3 : Int32).toInt), eq_true (by decide : (1 : Int32).toInt < (3 : Int32).toInt), eq_true (by decide : (2 : Int32).toInt < (3 : Int32).toInt), eq_false (by decide : ¬ (3 : Int32).toInt < (3 : Int32).toInt), eq_false (by decide : ¬ (4 : Int32).toInt < (3 : Int32).toInt), true_and, false_and, and_true, and_false, and_self, if_true, if_false, eq_self]); first | exact fun h => absurd h (by decide) | exact fun _ => ⟨_, _, _, by decide, rfl, rfl, fun _ => ⟨by decide, rfl⟩, rfl, rfl⟩ | exact fun _ => ⟨_, _, _, by decide, rfl, rfl, fun h => absurd h (by decide), rfl, rfl⟩)
  · (by_cases q0 : z0.toInt = 10 <;> by_cases q1 : z1.toInt = 10 <;> by_cases q2 : z2.toInt = 10) <;> ((try simp only [bk3, bump, bumq, wri, q0, q1, q2, eq_true (by decide : (0 : Int) < (3 : Int32).toInt), eq_true (by decide : (1 : Int) < (3 : Int32).toInt), eq_true (by decide : (2 : Int) < (3 : Int32).toInt), eq_false (by decide : ¬ (3 : Int) < (3 : Int32).toInt), eq_true (by decide : (0 : Int32).toInt < (3 : Int32).toInt), eq_true (by decide : (1 : Int32).toInt < (3 : Int32).toInt), eq_true (by decide : (2 : Int32).toInt < (3 : Int32).toInt), eq_false (by decide : ¬ (3 : Int32).toInt < (3 : Int32).toInt), eq_false (by decide : ¬ (4 : Int32).toInt < (3 : Int32).toInt), true_and, false_and, and_true, and_false, and_self, if_true, if_false, eq_self]); first | exact fun h => absurd h (by decide) | exact fun _ => ⟨_, _, _, by decide, rfl, rfl, fun _ => ⟨by decide, rfl⟩, rfl, rfl⟩ | exact fun _ => ⟨_, _, _, by decide, rfl, rfl, fun h => absurd h (by decide), rfl, rfl⟩)
  · (by_cases q0 : z0.toInt = 10 <;> by_cases q1 : z1.toInt = 10 <;> by_cases q2 : z2.toInt = 10) <;> ((try simp only [bk3, bump, bumq, wri, q0, q1, q2, eq_true (by decide : (0 : Int) < (3 : Int32).toInt), eq_true (by decide : (1 : Int) < (3 : Int32).toInt), eq_true (by decide : (2 : Int) < (3 : Int32).toInt), eq_false (by decide : ¬ (3 : Int) < (3 : Int32).toInt), eq_true (by decide : (0 : Int32).toInt < (3 : Int32).toInt), eq_true (by decide : (1 : Int32).toInt < (3 : Int32).toInt), eq_true (by decide : (2 : Int32).toInt < (3 : Int32).toInt), eq_false (by decide : ¬ (3 : Int32).toInt < (3 : Int32).toInt), eq_false (by decide : ¬ (4 : Int32).toInt < (3 : Int32).toInt), true_and, false_and, and_true, and_false, and_self, if_true, if_false, eq_self]); first | exact fun h => absurd h (by decide) | exact fun _ => ⟨_, _, _, by decide, rfl, rfl, fun _ => ⟨by decide, rfl⟩, rfl, rfl⟩ | exact fun _ => ⟨_, _, _, by decide, rfl, rfl, fun h => absurd h (by decide), rfl, rfl⟩)
set_option maxRecDepth 65536 in
set_option maxHeartbeats 4000000 in
theorem law386_4 (Z : State) (a0 : Array Value) (hw : ∀ d ∈ tables_1, d.before a0 Z = true) (h0 : Heap) (p1 p2 p3 p4 p5 z0 z1 z2 z3 : Int32) (a1 a2 a3 : Addr) (v91 v92 : List Value) (p7 p8 : Int32) (hb : (bk4 z0 z1 z2 z3).length.toInt32 = p7) (f0 : (0 : Int) < p7.toInt → Fact0 v91 v92 (bk4 z0 z1 z2 z3) [(.int z0), (.int z1), (.int z2), (.int z3)]) (f1 : (1 : Int) < p7.toInt → Fact1 v91 v92 (bk4 z0 z1 z2 z3) [(.int z0), (.int z1), (.int z2), (.int z3)]) (f2 : (2 : Int) < p7.toInt → Fact2 v91 v92 (bk4 z0 z1 z2 z3) [(.int z0), (.int z1), (.int z2), (.int z3)]) (f3 : (3 : Int) < p7.toInt → Fact3 v91 v92 (bk4 z0 z1 z2 z3) [(.int z0), (.int z1), (.int z2), (.int z3)]) (s15 : Slot) (h15 : s15 = .unset ∨ ∃ x : Int32, s15 = .val (.int x)) :
    Go B0 Z a0 h0 (fun v _ => v = some (.int 1)) 3 14 [ar a1 .byte [(.int z0), (.int z1), (.int z2), (.int z3)], ar a2 .int v91, ar a3 .int v92] 386 #[.val (.int p1), .val (.int p2), .val (.int p3), .val (.int p4), .val (.int p5), .val (.int (4 : Int32)), .val (.int z0), .val (.int z1), .val (.int z2), .val (.int z3), .val (.ref a1), .val (.ref a2), .val (.ref a3), .val (.int p7), .val (.int p8), s15, .unset] [] := by
  show Go B0 Z a0 h0 _ 3 14 [ar a1 .byte [(.int z0), (.int z1), (.int z2), (.int z3)], ar a2 .int v91, ar a3 .int v92] 386 #[.val (.int p1), .val (.int p2), .val (.int p3), .val (.int p4), .val (.int p5), .val (.int (4 : Int32)), .val (.int z0), .val (.int z1), .val (.int z2), .val (.int z3), .val (.ref a1), .val (.ref a2), .val (.ref a3), .val (.int p7), .val (.int p8), s15, .unset] []
  refine go_aload 388 rfl at_386 rfl rfl ?_
  refine go_callS 391 rfl at_388 (wd hw 7 rfl) (wd hw 8 rfl) (wd hw 9 rfl) (wd hw 10 rfl) (by decide) (Met.frame [ar a2 .int v91, ar a3 .int v92] (m_of4 Z a0 hw h0 a1 z0 z1 z2 z3)) (argsL := [(.ref a1)]) (rest := []) rfl (ps := [(.array .byte)]) (by decide +kernel) rfl rfl 0 rfl (by decide) (by decide) (by decide) (by decide) ?_
  rintro _ _ ⟨_, ⟨a5, a6, a7, a4, rfl, rfl⟩, rfl⟩
  show Go B0 Z a0 h0 _ 7 41 (mem103 a5 a6 a7 a1 a4 z0 z1 z2 z3 a2 v91 a3 v92) 391 #[.val (.int p1), .val (.int p2), .val (.int p3), .val (.int p4), .val (.int p5), .val (.int (4 : Int32)), .val (.int z0), .val (.int z1), .val (.int z2), .val (.int z3), .val (.ref a1), .val (.ref a2), .val (.ref a3), .val (.int p7), .val (.int p8), s15, .unset] [(.ref a5)]
  rcases h15 with rfl | ⟨x15, rfl⟩
  · refine go_astore #[.val (.int p1), .val (.int p2), .val (.int p3), .val (.int p4), .val (.int p5), .val (.int (4 : Int32)), .val (.int z0), .val (.int z1), .val (.int z2), .val (.int z3), .val (.ref a1), .val (.ref a2), .val (.ref a3), .val (.int p7), .val (.int p8), .val (.ref a5), .unset] 393 rfl at_391 rfl rfl rfl ?_
    exact Go.more (law_tail Z a0 hw h0 p1 p2 p3 p4 p5 (4 : Int32) z0 z1 z2 z3 a1 a2 a3 a4 a5 a6 a7 v91 v92 (bk4 z0 z1 z2 z3) [(.int z0), (.int z1), (.int z2), (.int z3)] p7 p8 rfl hb f0 f1 f2 f3) (by decide) (by decide)
  · refine go_astore #[.val (.int p1), .val (.int p2), .val (.int p3), .val (.int p4), .val (.int p5), .val (.int (4 : Int32)), .val (.int z0), .val (.int z1), .val (.int z2), .val (.int z3), .val (.ref a1), .val (.ref a2), .val (.ref a3), .val (.int p7), .val (.int p8), .val (.ref a5), .unset] 393 rfl at_391 rfl rfl rfl ?_
    exact Go.more (law_tail Z a0 hw h0 p1 p2 p3 p4 p5 (4 : Int32) z0 z1 z2 z3 a1 a2 a3 a4 a5 a6 a7 v91 v92 (bk4 z0 z1 z2 z3) [(.int z0), (.int z1), (.int z2), (.int z3)] p7 p8 rfl hb f0 f1 f2 f3) (by decide) (by decide)
set_option maxRecDepth 65536 in
set_option maxHeartbeats 4000000 in
theorem law159_4 (Z : State) (a0 : Array Value) (hw : ∀ d ∈ tables_1, d.before a0 Z = true) (h0 : Heap) (p1 p2 p3 p4 p5 z0 z1 z2 z3 : Int32) (a1 a2 a3 : Addr) :
    Go B0 Z a0 h0 (fun v _ => v = some (.int 1)) 3 14 [ar a1 .byte [(.int z0), (.int z1), (.int z2), (.int z3)], ar a2 .int [(.int (0 : Int32)), (.int (0 : Int32)), (.int (0 : Int32)), (.int (0 : Int32)), (.int (0 : Int32))], ar a3 .int [(.int (0 : Int32)), (.int (0 : Int32)), (.int (0 : Int32)), (.int (0 : Int32)), (.int (0 : Int32))]] 159 #[.val (.int p1), .val (.int p2), .val (.int p3), .val (.int p4), .val (.int p5), .val (.int (4 : Int32)), .val (.int z0), .val (.int z1), .val (.int z2), .val (.int z3), .val (.ref a1), .val (.ref a2), .val (.ref a3), .val (.int (0 : Int32)), .val (.int (0 : Int32)), .unset, .unset] [] := by
  refine seg0 Z a0 hw h0 _ _ _ _ _ _ _ _ _ _ _ _ _ _ _ _ _ _ (by decide) rfl rfl rfl ?_
  refine seg1 Z a0 hw h0 _ _ _ _ _ _ _ _ _ _ _ _ _ _ _ _ _ _ (ite_r 0 (by decide) (by decide)) (ite_len rfl) (ite_len rfl) ?_
  refine seg2 Z a0 hw h0 _ _ _ _ _ _ _ _ _ _ _ _ _ _ _ _ _ _ (ite_r 1 (ite_r 0 (by decide) (by decide)) (by decide)) (ite_len (ite_len rfl)) (ite_len (ite_len rfl)) ?_
  refine seg3 Z a0 hw h0 _ _ _ _ _ _ _ _ _ _ _ _ _ _ _ _ _ _ (ite_r 2 (ite_r 1 (ite_r 0 (by decide) (by decide)) (by decide)) (by decide)) (ite_len (ite_len (ite_len rfl))) (ite_len (ite_len (ite_len rfl))) ?_
  refine seg4 Z a0 hw h0 _ _ _ _ _ _ _ _ _ _ _ _ _ _ _ _ _ _ (ite_r 3 (ite_r 2 (ite_r 1 (ite_r 0 (by decide) (by decide)) (by decide)) (by decide)) (by decide)) (ite_len (ite_len (ite_len (ite_len rfl)))) (ite_len (ite_len (ite_len (ite_len rfl)))) (fun s15 h15 => ?_)
  refine law386_4 Z a0 hw h0 p1 p2 p3 p4 p5 z0 z1 z2 z3 a1 a2 a3 _ _ _ _ ?_ ?_ ?_ ?_ ?_ s15 h15
  · (by_cases q0 : z0.toInt = 10 <;> by_cases q1 : z1.toInt = 10 <;> by_cases q2 : z2.toInt = 10 <;> by_cases q3 : z3.toInt = 10) <;> (simp only [bk4, bump, bumq, wri, q0, q1, q2, q3, eq_true (by decide : (0 : Int) < (4 : Int32).toInt), eq_true (by decide : (1 : Int) < (4 : Int32).toInt), eq_true (by decide : (2 : Int) < (4 : Int32).toInt), eq_true (by decide : (3 : Int) < (4 : Int32).toInt), eq_true (by decide : (0 : Int32).toInt < (4 : Int32).toInt), eq_true (by decide : (1 : Int32).toInt < (4 : Int32).toInt), eq_true (by decide : (2 : Int32).toInt < (4 : Int32).toInt), eq_true (by decide : (3 : Int32).toInt < (4 : Int32).toInt), eq_false (by decide : ¬ (4 : Int32).toInt < (4 : Int32).toInt), true_and, false_and, and_true, and_false, and_self, if_true, if_false, eq_self]; decide)
  · (by_cases q0 : z0.toInt = 10 <;> by_cases q1 : z1.toInt = 10 <;> by_cases q2 : z2.toInt = 10 <;> by_cases q3 : z3.toInt = 10) <;> ((try simp only [bk4, bump, bumq, wri, q0, q1, q2, q3, eq_true (by decide : (0 : Int) < (4 : Int32).toInt), eq_true (by decide : (1 : Int) < (4 : Int32).toInt), eq_true (by decide : (2 : Int) < (4 : Int32).toInt), eq_true (by decide : (3 : Int) < (4 : Int32).toInt), eq_true (by decide : (0 : Int32).toInt < (4 : Int32).toInt), eq_true (by decide : (1 : Int32).toInt < (4 : Int32).toInt), eq_true (by decide : (2 : Int32).toInt < (4 : Int32).toInt), eq_true (by decide : (3 : Int32).toInt < (4 : Int32).toInt), eq_false (by decide : ¬ (4 : Int32).toInt < (4 : Int32).toInt), true_and, false_and, and_true, and_false, and_self, if_true, if_false, eq_self]); first | exact fun h => absurd h (by decide) | exact fun _ => ⟨_, _, by decide, rfl, fun _ => ⟨by decide, rfl⟩, rfl, rfl⟩ | exact fun _ => ⟨_, _, by decide, rfl, fun h => absurd h (by decide), rfl, rfl⟩)
  · (by_cases q0 : z0.toInt = 10 <;> by_cases q1 : z1.toInt = 10 <;> by_cases q2 : z2.toInt = 10 <;> by_cases q3 : z3.toInt = 10) <;> ((try simp only [bk4, bump, bumq, wri, q0, q1, q2, q3, eq_true (by decide : (0 : Int) < (4 : Int32).toInt), eq_true (by decide : (1 : Int) < (4 : Int32).toInt), eq_true (by decide : (2 : Int) < (4 : Int32).toInt), eq_true (by decide : (3 : Int) < (4 : Int32).toInt), eq_true (by decide : (0 : Int32).toInt < (4 : Int32).toInt), eq_true (by decide : (1 : Int32).toInt < (4 : Int32).toInt), eq_true (by decide : (2 : Int32).toInt < (4 : Int32).toInt), eq_true (by decide : (3 : Int32).toInt < (4 : Int32).toInt), eq_false (by decide : ¬ (4 : Int32).toInt < (4 : Int32).toInt), true_and, false_and, and_true, and_false, and_self, if_true, if_false, eq_self]); first | exact fun h => absurd h (by decide) | exact fun _ => ⟨_, _, _, by decide, rfl, rfl, fun _ => ⟨by decide, rfl⟩, rfl, rfl⟩ | exact fun _ => ⟨_, _, _, by decide, rfl, rfl, fun h => absurd h (by decide), rfl, rfl⟩)
  · (by_cases q0 : z0.toInt = 10 <;> by_cases q1 : z1.toInt = 10 <;> by_cases q2 : z2.toInt = 10 <;> by_cases q3 : z3.toInt = 10) <;> ((try simp only [bk4, bump, bumq, wri, q0, q1, q2, q3, eq_true (by decide : (0 : Int) < (4 : Int32).toInt), eq_true (by decide : (1 : Int) < (4 : Int32).toInt), eq_true (by decide : (2 : Int) < (4 : Int32).toInt), eq_true (by decide : (3 : Int) < (4 : Int32).toInt), eq_true (by decide : (0 : Int32).toInt < (4 : Int32).toInt), eq_true (by decide : (1 : Int32).toInt < (4 : Int32).toInt), eq_true (by decide : (2 : Int32).toInt < (4 : Int32).toInt), eq_true (by decide : (3 : Int32).toInt < (4 : Int32).toInt), eq_false (by decide : ¬ (4 : Int32).toInt < (4 : Int32).toInt), true_and, false_and, and_true, and_false, and_self, if_true, if_false, eq_self]); first | exact fun h => absurd h (by decide) | exact fun _ => ⟨_, _, _, by decide, rfl, rfl, fun _ => ⟨by decide, rfl⟩, rfl, rfl⟩ | exact fun _ => ⟨_, _, _, by decide, rfl, rfl, fun h => absurd h (by decide), rfl, rfl⟩)
  · (by_cases q0 : z0.toInt = 10 <;> by_cases q1 : z1.toInt = 10 <;> by_cases q2 : z2.toInt = 10 <;> by_cases q3 : z3.toInt = 10) <;> ((try simp only [bk4, bump, bumq, wri, q0, q1, q2, q3, eq_true (by decide : (0 : Int) < (4 : Int32).toInt), eq_true (by decide : (1 : Int) < (4 : Int32).toInt), eq_true (by decide : (2 : Int) < (4 : Int32).toInt), eq_true (by decide : (3 : Int) < (4 : Int32).toInt), eq_true (by decide : (0 : Int32).toInt < (4 : Int32).toInt), eq_true (by decide : (1 : Int32).toInt < (4 : Int32).toInt), eq_true (by decide : (2 : Int32).toInt < (4 : Int32).toInt), eq_true (by decide : (3 : Int32).toInt < (4 : Int32).toInt), eq_false (by decide : ¬ (4 : Int32).toInt < (4 : Int32).toInt), true_and, false_and, and_true, and_false, and_self, if_true, if_false, eq_self]); first | exact fun h => absurd h (by decide) | exact fun _ => ⟨_, _, _, by decide, rfl, rfl, fun _ => ⟨by decide, rfl⟩, rfl, rfl⟩ | exact fun _ => ⟨_, _, _, by decide, rfl, rfl, fun h => absurd h (by decide), rfl, rfl⟩)
set_option maxRecDepth 65536 in
set_option maxHeartbeats 4000000 in
theorem law_met (Z : State) (a0 : Array Value) (hw : ∀ d ∈ tables_1, d.before a0 Z = true) (h0 : Heap) (p1 p2 p3 p4 p5 : Int32) :
    Met B0 Z a0 h0 #[(.int p1), (.int p2), (.int p3), (.int p4), (.int p5)] [] (fun v _ => v = some (.int 1)) := by
  refine Met.of pn0 (ls := #[.val (.int p1), .val (.int p2), .val (.int p3), .val (.int p4), .val (.int p5), .unset, .unset, .unset, .unset, .unset, .unset, .unset, .unset, .unset, .unset, .unset, .unset]) (fun m => by first | (simp [entryFrame, mkF, argsToLocals, Value.category, B0, maxLocals]; done) | rfl) ?_
  show Go B0 Z a0 h0 _ 0 0 [] 0 #[.val (.int p1), .val (.int p2), .val (.int p3), .val (.int p4), .val (.int p5), .unset, .unset, .unset, .unset, .unset, .unset, .unset, .unset, .unset, .unset, .unset, .unset] []
  refine go_iload 2 rfl at_0 rfl ?_
  refine go_ldc (v := (2147483647 : Int32)) 4 rfl at_2 (wd hw 0 rfl) ?_
  refine go_iand 5 rfl at_4 rfl ?_
  refine go_iconst (5 : Int32) 6 rfl at_5 rfl ?_
  refine go_irem 7 rfl at_6 rfl (by decide) ?_
  refine go_istore #[.val (.int p1), .val (.int p2), .val (.int p3), .val (.int p4), .val (.int p5), .val (.int ((p5 &&& (2147483647 : Int32)) % (5 : Int32))), .unset, .unset, .unset, .unset, .unset, .unset, .unset, .unset, .unset, .unset, .unset] 9 rfl at_7 rfl rfl ?_
  refine go_iloadN 10 rfl at_9 rfl ?_
  refine go_callS 13 rfl at_10 (wd hw 1 rfl) (wd hw 2 rfl) (wd hw 3 rfl) (wd hw 4 rfl) (by decide) (m_draw Z a0 hw h0 [] p1) (argsL := [(.int p1)]) (rest := []) rfl (ps := [.int]) (by decide +kernel) rfl rfl 0 rfl (by decide) (by decide) (by decide) (by decide) ?_
  rintro _ _ ⟨z0, rfl, rfl, hz0⟩
  show Go B0 Z a0 h0 _ 0 0 [] 13 #[.val (.int p1), .val (.int p2), .val (.int p3), .val (.int p4), .val (.int p5), .val (.int ((p5 &&& (2147483647 : Int32)) % (5 : Int32))), .unset, .unset, .unset, .unset, .unset, .unset, .unset, .unset, .unset, .unset, .unset] [(.int z0)]
  refine go_istore #[.val (.int p1), .val (.int p2), .val (.int p3), .val (.int p4), .val (.int p5), .val (.int ((p5 &&& (2147483647 : Int32)) % (5 : Int32))), .val (.int z0), .unset, .unset, .unset, .unset, .unset, .unset, .unset, .unset, .unset, .unset] 15 rfl at_13 rfl rfl ?_
  refine go_iloadN 16 rfl at_15 rfl ?_
  refine go_callS 19 rfl at_16 (wd hw 1 rfl) (wd hw 2 rfl) (wd hw 3 rfl) (wd hw 4 rfl) (by decide) (m_draw Z a0 hw h0 [] p2) (argsL := [(.int p2)]) (rest := []) rfl (ps := [.int]) (by decide +kernel) rfl rfl 0 rfl (by decide) (by decide) (by decide) (by decide) ?_
  rintro _ _ ⟨z1, rfl, rfl, hz1⟩
  show Go B0 Z a0 h0 _ 0 0 [] 19 #[.val (.int p1), .val (.int p2), .val (.int p3), .val (.int p4), .val (.int p5), .val (.int ((p5 &&& (2147483647 : Int32)) % (5 : Int32))), .val (.int z0), .unset, .unset, .unset, .unset, .unset, .unset, .unset, .unset, .unset, .unset] [(.int z1)]
  refine go_istore #[.val (.int p1), .val (.int p2), .val (.int p3), .val (.int p4), .val (.int p5), .val (.int ((p5 &&& (2147483647 : Int32)) % (5 : Int32))), .val (.int z0), .val (.int z1), .unset, .unset, .unset, .unset, .unset, .unset, .unset, .unset, .unset] 21 rfl at_19 rfl rfl ?_
  refine go_iloadN 22 rfl at_21 rfl ?_
  refine go_callS 25 rfl at_22 (wd hw 1 rfl) (wd hw 2 rfl) (wd hw 3 rfl) (wd hw 4 rfl) (by decide) (m_draw Z a0 hw h0 [] p3) (argsL := [(.int p3)]) (rest := []) rfl (ps := [.int]) (by decide +kernel) rfl rfl 0 rfl (by decide) (by decide) (by decide) (by decide) ?_
  rintro _ _ ⟨z2, rfl, rfl, hz2⟩
  show Go B0 Z a0 h0 _ 0 0 [] 25 #[.val (.int p1), .val (.int p2), .val (.int p3), .val (.int p4), .val (.int p5), .val (.int ((p5 &&& (2147483647 : Int32)) % (5 : Int32))), .val (.int z0), .val (.int z1), .unset, .unset, .unset, .unset, .unset, .unset, .unset, .unset, .unset] [(.int z2)]
  refine go_istore #[.val (.int p1), .val (.int p2), .val (.int p3), .val (.int p4), .val (.int p5), .val (.int ((p5 &&& (2147483647 : Int32)) % (5 : Int32))), .val (.int z0), .val (.int z1), .val (.int z2), .unset, .unset, .unset, .unset, .unset, .unset, .unset, .unset] 27 rfl at_25 rfl rfl ?_
  refine go_iloadN 28 rfl at_27 rfl ?_
  refine go_callS 31 rfl at_28 (wd hw 1 rfl) (wd hw 2 rfl) (wd hw 3 rfl) (wd hw 4 rfl) (by decide) (m_draw Z a0 hw h0 [] p4) (argsL := [(.int p4)]) (rest := []) rfl (ps := [.int]) (by decide +kernel) rfl rfl 0 rfl (by decide) (by decide) (by decide) (by decide) ?_
  rintro _ _ ⟨z3, rfl, rfl, hz3⟩
  show Go B0 Z a0 h0 _ 0 0 [] 31 #[.val (.int p1), .val (.int p2), .val (.int p3), .val (.int p4), .val (.int p5), .val (.int ((p5 &&& (2147483647 : Int32)) % (5 : Int32))), .val (.int z0), .val (.int z1), .val (.int z2), .unset, .unset, .unset, .unset, .unset, .unset, .unset, .unset] [(.int z3)]
  refine go_istore #[.val (.int p1), .val (.int p2), .val (.int p3), .val (.int p4), .val (.int p5), .val (.int ((p5 &&& (2147483647 : Int32)) % (5 : Int32))), .val (.int z0), .val (.int z1), .val (.int z2), .val (.int z3), .unset, .unset, .unset, .unset, .unset, .unset, .unset] 33 rfl at_31 rfl rfl ?_
  generalize e6 : ((p5 &&& (2147483647 : Int32)) % (5 : Int32)) = p6
  have h6 : 0 ≤ p6.toInt ∧ p6.toInt < 5 := by
    rw [← e6]; have e1 := c_and p5 (2147483647 : Int32) (by decide); have e2 := c_irem (p5 &&& (2147483647 : Int32)) (5 : Int32) 5 rfl; omega
  clear e6
  rcases five p6 h6.1 h6.2 with rfl | rfl | rfl | rfl | rfl
  · refine go_iload 35 rfl at_33 rfl ?_
    refine go_if 46 38 rfl (by decide) rfl at_35 rfl (fun (hc35 : (0 : Int) ≠ 0) => absurd hc35 (by decide)) (fun (hc35 : ¬ ((0 : Int) ≠ 0)) => ?_)
    refine go_iconst (0 : Int32) 39 rfl at_38 rfl ?_
    refine go_newarr 41 rfl at_39 rfl (wd hw 5 rfl) (by decide) 0 (by decide) (by decide) (by decide) (by decide) (fun a1 => ?_)
    show Go B0 Z a0 h0 _ 1 0 [ar a1 .byte []] 41 #[.val (.int p1), .val (.int p2), .val (.int p3), .val (.int p4), .val (.int p5), .val (.int (0 : Int32)), .val (.int z0), .val (.int z1), .val (.int z2), .val (.int z3), .unset, .unset, .unset, .unset, .unset, .unset, .unset] [(.ref a1)]
    refine go_astore #[.val (.int p1), .val (.int p2), .val (.int p3), .val (.int p4), .val (.int p5), .val (.int (0 : Int32)), .val (.int z0), .val (.int z1), .val (.int z2), .val (.int z3), .val (.ref a1), .unset, .unset, .unset, .unset, .unset, .unset] 43 rfl at_41 rfl rfl rfl ?_
    refine go_goto 143 (by decide) rfl at_43 ?_
    refine go_iconst (5 : Int32) 144 rfl at_143 rfl ?_
    refine go_newarr 146 rfl at_144 rfl (wd hw 6 rfl) (by decide) 5 (by decide) (by decide) (by decide) (by decide) (fun a2 => ?_)
    show Go B0 Z a0 h0 _ 2 5 [ar a1 .byte [], ar a2 .int [(.int (0 : Int32)), (.int (0 : Int32)), (.int (0 : Int32)), (.int (0 : Int32)), (.int (0 : Int32))]] 146 #[.val (.int p1), .val (.int p2), .val (.int p3), .val (.int p4), .val (.int p5), .val (.int (0 : Int32)), .val (.int z0), .val (.int z1), .val (.int z2), .val (.int z3), .val (.ref a1), .unset, .unset, .unset, .unset, .unset, .unset] [(.ref a2)]
    refine go_astore #[.val (.int p1), .val (.int p2), .val (.int p3), .val (.int p4), .val (.int p5), .val (.int (0 : Int32)), .val (.int z0), .val (.int z1), .val (.int z2), .val (.int z3), .val (.ref a1), .val (.ref a2), .unset, .unset, .unset, .unset, .unset] 148 rfl at_146 rfl rfl rfl ?_
    refine go_iconst (5 : Int32) 149 rfl at_148 rfl ?_
    refine go_newarr 151 rfl at_149 rfl (wd hw 6 rfl) (by decide) 5 (by decide) (by decide) (by decide) (by decide) (fun a3 => ?_)
    show Go B0 Z a0 h0 _ 3 10 [ar a1 .byte [], ar a2 .int [(.int (0 : Int32)), (.int (0 : Int32)), (.int (0 : Int32)), (.int (0 : Int32)), (.int (0 : Int32))], ar a3 .int [(.int (0 : Int32)), (.int (0 : Int32)), (.int (0 : Int32)), (.int (0 : Int32)), (.int (0 : Int32))]] 151 #[.val (.int p1), .val (.int p2), .val (.int p3), .val (.int p4), .val (.int p5), .val (.int (0 : Int32)), .val (.int z0), .val (.int z1), .val (.int z2), .val (.int z3), .val (.ref a1), .val (.ref a2), .unset, .unset, .unset, .unset, .unset] [(.ref a3)]
    refine go_astore #[.val (.int p1), .val (.int p2), .val (.int p3), .val (.int p4), .val (.int p5), .val (.int (0 : Int32)), .val (.int z0), .val (.int z1), .val (.int z2), .val (.int z3), .val (.ref a1), .val (.ref a2), .val (.ref a3), .unset, .unset, .unset, .unset] 153 rfl at_151 rfl rfl rfl ?_
    refine go_iconst (0 : Int32) 154 rfl at_153 rfl ?_
    refine go_istore #[.val (.int p1), .val (.int p2), .val (.int p3), .val (.int p4), .val (.int p5), .val (.int (0 : Int32)), .val (.int z0), .val (.int z1), .val (.int z2), .val (.int z3), .val (.ref a1), .val (.ref a2), .val (.ref a3), .val (.int (0 : Int32)), .unset, .unset, .unset] 156 rfl at_154 rfl rfl ?_
    refine go_iconst (0 : Int32) 157 rfl at_156 rfl ?_
    refine go_istore #[.val (.int p1), .val (.int p2), .val (.int p3), .val (.int p4), .val (.int p5), .val (.int (0 : Int32)), .val (.int z0), .val (.int z1), .val (.int z2), .val (.int z3), .val (.ref a1), .val (.ref a2), .val (.ref a3), .val (.int (0 : Int32)), .val (.int (0 : Int32)), .unset, .unset] 159 rfl at_157 rfl rfl ?_
    exact Go.more (law159_0 Z a0 hw h0 p1 p2 p3 p4 p5 z0 z1 z2 z3 a1 a2 a3) (by decide) (by decide)
  · refine go_iload 35 rfl at_33 rfl ?_
    refine go_if 46 38 rfl (by decide) rfl at_35 rfl (fun (hc35 : (1 : Int) ≠ 0) => ?_) (fun (hc35 : ¬ ((1 : Int) ≠ 0)) => absurd hc35 (by decide))
    refine go_iload 48 rfl at_46 rfl ?_
    refine go_iconst (1 : Int32) 49 rfl at_48 rfl ?_
    refine go_icmp 65 52 rfl (by decide) rfl at_49 rfl (fun (hc49 : (1 : Int) ≠ (1 : Int)) => absurd hc49 (by decide)) (fun (hc49 : ¬ ((1 : Int) ≠ (1 : Int))) => ?_)
    refine go_iconst (1 : Int32) 53 rfl at_52 rfl ?_
    refine go_newarr 55 rfl at_53 rfl (wd hw 5 rfl) (by decide) 1 (by decide) (by decide) (by decide) (by decide) (fun a4 => ?_)
    show Go B0 Z a0 h0 _ 1 1 [ar a4 .byte [(.int (0 : Int32))]] 55 #[.val (.int p1), .val (.int p2), .val (.int p3), .val (.int p4), .val (.int p5), .val (.int (1 : Int32)), .val (.int z0), .val (.int z1), .val (.int z2), .val (.int z3), .unset, .unset, .unset, .unset, .unset, .unset, .unset] [(.ref a4)]
    refine go_dup 56 rfl at_55 rfl rfl ?_
    refine go_iconst (0 : Int32) 57 rfl at_56 rfl ?_
    refine go_iload 59 rfl at_57 rfl ?_
    refine go_bastore 0 60 rfl at_59 rfl rfl (by decide) (Nat.le_of_ble_eq_true rfl) ?_
    show Go B0 Z a0 h0 _ 1 1 [ar a4 .byte [(.int (nar .byte z0))]] 60 #[.val (.int p1), .val (.int p2), .val (.int p3), .val (.int p4), .val (.int p5), .val (.int (1 : Int32)), .val (.int z0), .val (.int z1), .val (.int z2), .val (.int z3), .unset, .unset, .unset, .unset, .unset, .unset, .unset] [(.ref a4)]
    refine go_astore #[.val (.int p1), .val (.int p2), .val (.int p3), .val (.int p4), .val (.int p5), .val (.int (1 : Int32)), .val (.int z0), .val (.int z1), .val (.int z2), .val (.int z3), .val (.ref a4), .unset, .unset, .unset, .unset, .unset, .unset] 62 rfl at_60 rfl rfl rfl ?_
    refine go_goto 143 (by decide) rfl at_62 ?_
    refine go_iconst (5 : Int32) 144 rfl at_143 rfl ?_
    refine go_newarr 146 rfl at_144 rfl (wd hw 6 rfl) (by decide) 5 (by decide) (by decide) (by decide) (by decide) (fun a5 => ?_)
    show Go B0 Z a0 h0 _ 2 6 [ar a4 .byte [(.int (nar .byte z0))], ar a5 .int [(.int (0 : Int32)), (.int (0 : Int32)), (.int (0 : Int32)), (.int (0 : Int32)), (.int (0 : Int32))]] 146 #[.val (.int p1), .val (.int p2), .val (.int p3), .val (.int p4), .val (.int p5), .val (.int (1 : Int32)), .val (.int z0), .val (.int z1), .val (.int z2), .val (.int z3), .val (.ref a4), .unset, .unset, .unset, .unset, .unset, .unset] [(.ref a5)]
    refine go_astore #[.val (.int p1), .val (.int p2), .val (.int p3), .val (.int p4), .val (.int p5), .val (.int (1 : Int32)), .val (.int z0), .val (.int z1), .val (.int z2), .val (.int z3), .val (.ref a4), .val (.ref a5), .unset, .unset, .unset, .unset, .unset] 148 rfl at_146 rfl rfl rfl ?_
    refine go_iconst (5 : Int32) 149 rfl at_148 rfl ?_
    refine go_newarr 151 rfl at_149 rfl (wd hw 6 rfl) (by decide) 5 (by decide) (by decide) (by decide) (by decide) (fun a6 => ?_)
    show Go B0 Z a0 h0 _ 3 11 [ar a4 .byte [(.int (nar .byte z0))], ar a5 .int [(.int (0 : Int32)), (.int (0 : Int32)), (.int (0 : Int32)), (.int (0 : Int32)), (.int (0 : Int32))], ar a6 .int [(.int (0 : Int32)), (.int (0 : Int32)), (.int (0 : Int32)), (.int (0 : Int32)), (.int (0 : Int32))]] 151 #[.val (.int p1), .val (.int p2), .val (.int p3), .val (.int p4), .val (.int p5), .val (.int (1 : Int32)), .val (.int z0), .val (.int z1), .val (.int z2), .val (.int z3), .val (.ref a4), .val (.ref a5), .unset, .unset, .unset, .unset, .unset] [(.ref a6)]
    refine go_astore #[.val (.int p1), .val (.int p2), .val (.int p3), .val (.int p4), .val (.int p5), .val (.int (1 : Int32)), .val (.int z0), .val (.int z1), .val (.int z2), .val (.int z3), .val (.ref a4), .val (.ref a5), .val (.ref a6), .unset, .unset, .unset, .unset] 153 rfl at_151 rfl rfl rfl ?_
    refine go_iconst (0 : Int32) 154 rfl at_153 rfl ?_
    refine go_istore #[.val (.int p1), .val (.int p2), .val (.int p3), .val (.int p4), .val (.int p5), .val (.int (1 : Int32)), .val (.int z0), .val (.int z1), .val (.int z2), .val (.int z3), .val (.ref a4), .val (.ref a5), .val (.ref a6), .val (.int (0 : Int32)), .unset, .unset, .unset] 156 rfl at_154 rfl rfl ?_
    refine go_iconst (0 : Int32) 157 rfl at_156 rfl ?_
    refine go_istore #[.val (.int p1), .val (.int p2), .val (.int p3), .val (.int p4), .val (.int p5), .val (.int (1 : Int32)), .val (.int z0), .val (.int z1), .val (.int z2), .val (.int z3), .val (.ref a4), .val (.ref a5), .val (.ref a6), .val (.int (0 : Int32)), .val (.int (0 : Int32)), .unset, .unset] 159 rfl at_157 rfl rfl ?_
    simp only [hz0]
    show Go B0 Z a0 h0 _ 3 11 [ar a4 .byte [(.int z0)], ar a5 .int [(.int (0 : Int32)), (.int (0 : Int32)), (.int (0 : Int32)), (.int (0 : Int32)), (.int (0 : Int32))], ar a6 .int [(.int (0 : Int32)), (.int (0 : Int32)), (.int (0 : Int32)), (.int (0 : Int32)), (.int (0 : Int32))]] 159 #[.val (.int p1), .val (.int p2), .val (.int p3), .val (.int p4), .val (.int p5), .val (.int (1 : Int32)), .val (.int z0), .val (.int z1), .val (.int z2), .val (.int z3), .val (.ref a4), .val (.ref a5), .val (.ref a6), .val (.int (0 : Int32)), .val (.int (0 : Int32)), .unset, .unset] []
    exact Go.more (law159_1 Z a0 hw h0 p1 p2 p3 p4 p5 z0 z1 z2 z3 a4 a5 a6) (by decide) (by decide)
  · refine go_iload 35 rfl at_33 rfl ?_
    refine go_if 46 38 rfl (by decide) rfl at_35 rfl (fun (hc35 : (2 : Int) ≠ 0) => ?_) (fun (hc35 : ¬ ((2 : Int) ≠ 0)) => absurd hc35 (by decide))
    refine go_iload 48 rfl at_46 rfl ?_
    refine go_iconst (1 : Int32) 49 rfl at_48 rfl ?_
    refine go_icmp 65 52 rfl (by decide) rfl at_49 rfl (fun (hc49 : (2 : Int) ≠ (1 : Int)) => ?_) (fun (hc49 : ¬ ((2 : Int) ≠ (1 : Int))) => absurd hc49 (by decide))
    refine go_iload 67 rfl at_65 rfl ?_
    refine go_iconst (2 : Int32) 68 rfl at_67 rfl ?_
    refine go_icmp 89 71 rfl (by decide) rfl at_68 rfl (fun (hc68 : (2 : Int) ≠ (2 : Int)) => absurd hc68 (by decide)) (fun (hc68 : ¬ ((2 : Int) ≠ (2 : Int))) => ?_)
    refine go_iconst (2 : Int32) 72 rfl at_71 rfl ?_
    refine go_newarr 74 rfl at_72 rfl (wd hw 5 rfl) (by decide) 2 (by decide) (by decide) (by decide) (by decide) (fun a7 => ?_)
    show Go B0 Z a0 h0 _ 1 2 [ar a7 .byte [(.int (0 : Int32)), (.int (0 : Int32))]] 74 #[.val (.int p1), .val (.int p2), .val (.int p3), .val (.int p4), .val (.int p5), .val (.int (2 : Int32)), .val (.int z0), .val (.int z1), .val (.int z2), .val (.int z3), .unset, .unset, .unset, .unset, .unset, .unset, .unset] [(.ref a7)]
    refine go_dup 75 rfl at_74 rfl rfl ?_
    refine go_iconst (0 : Int32) 76 rfl at_75 rfl ?_
    refine go_iload 78 rfl at_76 rfl ?_
    refine go_bastore 0 79 rfl at_78 rfl rfl (by decide) (Nat.le_of_ble_eq_true rfl) ?_
    show Go B0 Z a0 h0 _ 1 2 [ar a7 .byte [(.int (nar .byte z0)), (.int (0 : Int32))]] 79 #[.val (.int p1), .val (.int p2), .val (.int p3), .val (.int p4), .val (.int p5), .val (.int (2 : Int32)), .val (.int z0), .val (.int z1), .val (.int z2), .val (.int z3), .unset, .unset, .unset, .unset, .unset, .unset, .unset] [(.ref a7)]
    refine go_dup 80 rfl at_79 rfl rfl ?_
    refine go_iconst (1 : Int32) 81 rfl at_80 rfl ?_
    refine go_iload 83 rfl at_81 rfl ?_
    refine go_bastore 0 84 rfl at_83 rfl rfl (by decide) (Nat.le_of_ble_eq_true rfl) ?_
    show Go B0 Z a0 h0 _ 1 2 [ar a7 .byte [(.int (nar .byte z0)), (.int (nar .byte z1))]] 84 #[.val (.int p1), .val (.int p2), .val (.int p3), .val (.int p4), .val (.int p5), .val (.int (2 : Int32)), .val (.int z0), .val (.int z1), .val (.int z2), .val (.int z3), .unset, .unset, .unset, .unset, .unset, .unset, .unset] [(.ref a7)]
    refine go_astore #[.val (.int p1), .val (.int p2), .val (.int p3), .val (.int p4), .val (.int p5), .val (.int (2 : Int32)), .val (.int z0), .val (.int z1), .val (.int z2), .val (.int z3), .val (.ref a7), .unset, .unset, .unset, .unset, .unset, .unset] 86 rfl at_84 rfl rfl rfl ?_
    refine go_goto 143 (by decide) rfl at_86 ?_
    refine go_iconst (5 : Int32) 144 rfl at_143 rfl ?_
    refine go_newarr 146 rfl at_144 rfl (wd hw 6 rfl) (by decide) 5 (by decide) (by decide) (by decide) (by decide) (fun a8 => ?_)
    show Go B0 Z a0 h0 _ 2 7 [ar a7 .byte [(.int (nar .byte z0)), (.int (nar .byte z1))], ar a8 .int [(.int (0 : Int32)), (.int (0 : Int32)), (.int (0 : Int32)), (.int (0 : Int32)), (.int (0 : Int32))]] 146 #[.val (.int p1), .val (.int p2), .val (.int p3), .val (.int p4), .val (.int p5), .val (.int (2 : Int32)), .val (.int z0), .val (.int z1), .val (.int z2), .val (.int z3), .val (.ref a7), .unset, .unset, .unset, .unset, .unset, .unset] [(.ref a8)]
    refine go_astore #[.val (.int p1), .val (.int p2), .val (.int p3), .val (.int p4), .val (.int p5), .val (.int (2 : Int32)), .val (.int z0), .val (.int z1), .val (.int z2), .val (.int z3), .val (.ref a7), .val (.ref a8), .unset, .unset, .unset, .unset, .unset] 148 rfl at_146 rfl rfl rfl ?_
    refine go_iconst (5 : Int32) 149 rfl at_148 rfl ?_
    refine go_newarr 151 rfl at_149 rfl (wd hw 6 rfl) (by decide) 5 (by decide) (by decide) (by decide) (by decide) (fun a9 => ?_)
    show Go B0 Z a0 h0 _ 3 12 [ar a7 .byte [(.int (nar .byte z0)), (.int (nar .byte z1))], ar a8 .int [(.int (0 : Int32)), (.int (0 : Int32)), (.int (0 : Int32)), (.int (0 : Int32)), (.int (0 : Int32))], ar a9 .int [(.int (0 : Int32)), (.int (0 : Int32)), (.int (0 : Int32)), (.int (0 : Int32)), (.int (0 : Int32))]] 151 #[.val (.int p1), .val (.int p2), .val (.int p3), .val (.int p4), .val (.int p5), .val (.int (2 : Int32)), .val (.int z0), .val (.int z1), .val (.int z2), .val (.int z3), .val (.ref a7), .val (.ref a8), .unset, .unset, .unset, .unset, .unset] [(.ref a9)]
    refine go_astore #[.val (.int p1), .val (.int p2), .val (.int p3), .val (.int p4), .val (.int p5), .val (.int (2 : Int32)), .val (.int z0), .val (.int z1), .val (.int z2), .val (.int z3), .val (.ref a7), .val (.ref a8), .val (.ref a9), .unset, .unset, .unset, .unset] 153 rfl at_151 rfl rfl rfl ?_
    refine go_iconst (0 : Int32) 154 rfl at_153 rfl ?_
    refine go_istore #[.val (.int p1), .val (.int p2), .val (.int p3), .val (.int p4), .val (.int p5), .val (.int (2 : Int32)), .val (.int z0), .val (.int z1), .val (.int z2), .val (.int z3), .val (.ref a7), .val (.ref a8), .val (.ref a9), .val (.int (0 : Int32)), .unset, .unset, .unset] 156 rfl at_154 rfl rfl ?_
    refine go_iconst (0 : Int32) 157 rfl at_156 rfl ?_
    refine go_istore #[.val (.int p1), .val (.int p2), .val (.int p3), .val (.int p4), .val (.int p5), .val (.int (2 : Int32)), .val (.int z0), .val (.int z1), .val (.int z2), .val (.int z3), .val (.ref a7), .val (.ref a8), .val (.ref a9), .val (.int (0 : Int32)), .val (.int (0 : Int32)), .unset, .unset] 159 rfl at_157 rfl rfl ?_
    simp only [hz0, hz1]
    show Go B0 Z a0 h0 _ 3 12 [ar a7 .byte [(.int z0), (.int z1)], ar a8 .int [(.int (0 : Int32)), (.int (0 : Int32)), (.int (0 : Int32)), (.int (0 : Int32)), (.int (0 : Int32))], ar a9 .int [(.int (0 : Int32)), (.int (0 : Int32)), (.int (0 : Int32)), (.int (0 : Int32)), (.int (0 : Int32))]] 159 #[.val (.int p1), .val (.int p2), .val (.int p3), .val (.int p4), .val (.int p5), .val (.int (2 : Int32)), .val (.int z0), .val (.int z1), .val (.int z2), .val (.int z3), .val (.ref a7), .val (.ref a8), .val (.ref a9), .val (.int (0 : Int32)), .val (.int (0 : Int32)), .unset, .unset] []
    exact Go.more (law159_2 Z a0 hw h0 p1 p2 p3 p4 p5 z0 z1 z2 z3 a7 a8 a9) (by decide) (by decide)
  · refine go_iload 35 rfl at_33 rfl ?_
    refine go_if 46 38 rfl (by decide) rfl at_35 rfl (fun (hc35 : (3 : Int) ≠ 0) => ?_) (fun (hc35 : ¬ ((3 : Int) ≠ 0)) => absurd hc35 (by decide))
    refine go_iload 48 rfl at_46 rfl ?_
    refine go_iconst (1 : Int32) 49 rfl at_48 rfl ?_
    refine go_icmp 65 52 rfl (by decide) rfl at_49 rfl (fun (hc49 : (3 : Int) ≠ (1 : Int)) => ?_) (fun (hc49 : ¬ ((3 : Int) ≠ (1 : Int))) => absurd hc49 (by decide))
    refine go_iload 67 rfl at_65 rfl ?_
    refine go_iconst (2 : Int32) 68 rfl at_67 rfl ?_
    refine go_icmp 89 71 rfl (by decide) rfl at_68 rfl (fun (hc68 : (3 : Int) ≠ (2 : Int)) => ?_) (fun (hc68 : ¬ ((3 : Int) ≠ (2 : Int))) => absurd hc68 (by decide))
    refine go_iload 91 rfl at_89 rfl ?_
    refine go_iconst (3 : Int32) 92 rfl at_91 rfl ?_
    refine go_icmp 118 95 rfl (by decide) rfl at_92 rfl (fun (hc92 : (3 : Int) ≠ (3 : Int)) => absurd hc92 (by decide)) (fun (hc92 : ¬ ((3 : Int) ≠ (3 : Int))) => ?_)
    refine go_iconst (3 : Int32) 96 rfl at_95 rfl ?_
    refine go_newarr 98 rfl at_96 rfl (wd hw 5 rfl) (by decide) 3 (by decide) (by decide) (by decide) (by decide) (fun a10 => ?_)
    show Go B0 Z a0 h0 _ 1 3 [ar a10 .byte [(.int (0 : Int32)), (.int (0 : Int32)), (.int (0 : Int32))]] 98 #[.val (.int p1), .val (.int p2), .val (.int p3), .val (.int p4), .val (.int p5), .val (.int (3 : Int32)), .val (.int z0), .val (.int z1), .val (.int z2), .val (.int z3), .unset, .unset, .unset, .unset, .unset, .unset, .unset] [(.ref a10)]
    refine go_dup 99 rfl at_98 rfl rfl ?_
    refine go_iconst (0 : Int32) 100 rfl at_99 rfl ?_
    refine go_iload 102 rfl at_100 rfl ?_
    refine go_bastore 0 103 rfl at_102 rfl rfl (by decide) (Nat.le_of_ble_eq_true rfl) ?_
    show Go B0 Z a0 h0 _ 1 3 [ar a10 .byte [(.int (nar .byte z0)), (.int (0 : Int32)), (.int (0 : Int32))]] 103 #[.val (.int p1), .val (.int p2), .val (.int p3), .val (.int p4), .val (.int p5), .val (.int (3 : Int32)), .val (.int z0), .val (.int z1), .val (.int z2), .val (.int z3), .unset, .unset, .unset, .unset, .unset, .unset, .unset] [(.ref a10)]
    refine go_dup 104 rfl at_103 rfl rfl ?_
    refine go_iconst (1 : Int32) 105 rfl at_104 rfl ?_
    refine go_iload 107 rfl at_105 rfl ?_
    refine go_bastore 0 108 rfl at_107 rfl rfl (by decide) (Nat.le_of_ble_eq_true rfl) ?_
    show Go B0 Z a0 h0 _ 1 3 [ar a10 .byte [(.int (nar .byte z0)), (.int (nar .byte z1)), (.int (0 : Int32))]] 108 #[.val (.int p1), .val (.int p2), .val (.int p3), .val (.int p4), .val (.int p5), .val (.int (3 : Int32)), .val (.int z0), .val (.int z1), .val (.int z2), .val (.int z3), .unset, .unset, .unset, .unset, .unset, .unset, .unset] [(.ref a10)]
    refine go_dup 109 rfl at_108 rfl rfl ?_
    refine go_iconst (2 : Int32) 110 rfl at_109 rfl ?_
    refine go_iload 112 rfl at_110 rfl ?_
    refine go_bastore 0 113 rfl at_112 rfl rfl (by decide) (Nat.le_of_ble_eq_true rfl) ?_
    show Go B0 Z a0 h0 _ 1 3 [ar a10 .byte [(.int (nar .byte z0)), (.int (nar .byte z1)), (.int (nar .byte z2))]] 113 #[.val (.int p1), .val (.int p2), .val (.int p3), .val (.int p4), .val (.int p5), .val (.int (3 : Int32)), .val (.int z0), .val (.int z1), .val (.int z2), .val (.int z3), .unset, .unset, .unset, .unset, .unset, .unset, .unset] [(.ref a10)]
    refine go_astore #[.val (.int p1), .val (.int p2), .val (.int p3), .val (.int p4), .val (.int p5), .val (.int (3 : Int32)), .val (.int z0), .val (.int z1), .val (.int z2), .val (.int z3), .val (.ref a10), .unset, .unset, .unset, .unset, .unset, .unset] 115 rfl at_113 rfl rfl rfl ?_
    refine go_goto 143 (by decide) rfl at_115 ?_
    refine go_iconst (5 : Int32) 144 rfl at_143 rfl ?_
    refine go_newarr 146 rfl at_144 rfl (wd hw 6 rfl) (by decide) 5 (by decide) (by decide) (by decide) (by decide) (fun a11 => ?_)
    show Go B0 Z a0 h0 _ 2 8 [ar a10 .byte [(.int (nar .byte z0)), (.int (nar .byte z1)), (.int (nar .byte z2))], ar a11 .int [(.int (0 : Int32)), (.int (0 : Int32)), (.int (0 : Int32)), (.int (0 : Int32)), (.int (0 : Int32))]] 146 #[.val (.int p1), .val (.int p2), .val (.int p3), .val (.int p4), .val (.int p5), .val (.int (3 : Int32)), .val (.int z0), .val (.int z1), .val (.int z2), .val (.int z3), .val (.ref a10), .unset, .unset, .unset, .unset, .unset, .unset] [(.ref a11)]
    refine go_astore #[.val (.int p1), .val (.int p2), .val (.int p3), .val (.int p4), .val (.int p5), .val (.int (3 : Int32)), .val (.int z0), .val (.int z1), .val (.int z2), .val (.int z3), .val (.ref a10), .val (.ref a11), .unset, .unset, .unset, .unset, .unset] 148 rfl at_146 rfl rfl rfl ?_
    refine go_iconst (5 : Int32) 149 rfl at_148 rfl ?_
    refine go_newarr 151 rfl at_149 rfl (wd hw 6 rfl) (by decide) 5 (by decide) (by decide) (by decide) (by decide) (fun a12 => ?_)
    show Go B0 Z a0 h0 _ 3 13 [ar a10 .byte [(.int (nar .byte z0)), (.int (nar .byte z1)), (.int (nar .byte z2))], ar a11 .int [(.int (0 : Int32)), (.int (0 : Int32)), (.int (0 : Int32)), (.int (0 : Int32)), (.int (0 : Int32))], ar a12 .int [(.int (0 : Int32)), (.int (0 : Int32)), (.int (0 : Int32)), (.int (0 : Int32)), (.int (0 : Int32))]] 151 #[.val (.int p1), .val (.int p2), .val (.int p3), .val (.int p4), .val (.int p5), .val (.int (3 : Int32)), .val (.int z0), .val (.int z1), .val (.int z2), .val (.int z3), .val (.ref a10), .val (.ref a11), .unset, .unset, .unset, .unset, .unset] [(.ref a12)]
    refine go_astore #[.val (.int p1), .val (.int p2), .val (.int p3), .val (.int p4), .val (.int p5), .val (.int (3 : Int32)), .val (.int z0), .val (.int z1), .val (.int z2), .val (.int z3), .val (.ref a10), .val (.ref a11), .val (.ref a12), .unset, .unset, .unset, .unset] 153 rfl at_151 rfl rfl rfl ?_
    refine go_iconst (0 : Int32) 154 rfl at_153 rfl ?_
    refine go_istore #[.val (.int p1), .val (.int p2), .val (.int p3), .val (.int p4), .val (.int p5), .val (.int (3 : Int32)), .val (.int z0), .val (.int z1), .val (.int z2), .val (.int z3), .val (.ref a10), .val (.ref a11), .val (.ref a12), .val (.int (0 : Int32)), .unset, .unset, .unset] 156 rfl at_154 rfl rfl ?_
    refine go_iconst (0 : Int32) 157 rfl at_156 rfl ?_
    refine go_istore #[.val (.int p1), .val (.int p2), .val (.int p3), .val (.int p4), .val (.int p5), .val (.int (3 : Int32)), .val (.int z0), .val (.int z1), .val (.int z2), .val (.int z3), .val (.ref a10), .val (.ref a11), .val (.ref a12), .val (.int (0 : Int32)), .val (.int (0 : Int32)), .unset, .unset] 159 rfl at_157 rfl rfl ?_
    simp only [hz0, hz1, hz2]
    show Go B0 Z a0 h0 _ 3 13 [ar a10 .byte [(.int z0), (.int z1), (.int z2)], ar a11 .int [(.int (0 : Int32)), (.int (0 : Int32)), (.int (0 : Int32)), (.int (0 : Int32)), (.int (0 : Int32))], ar a12 .int [(.int (0 : Int32)), (.int (0 : Int32)), (.int (0 : Int32)), (.int (0 : Int32)), (.int (0 : Int32))]] 159 #[.val (.int p1), .val (.int p2), .val (.int p3), .val (.int p4), .val (.int p5), .val (.int (3 : Int32)), .val (.int z0), .val (.int z1), .val (.int z2), .val (.int z3), .val (.ref a10), .val (.ref a11), .val (.ref a12), .val (.int (0 : Int32)), .val (.int (0 : Int32)), .unset, .unset] []
    exact Go.more (law159_3 Z a0 hw h0 p1 p2 p3 p4 p5 z0 z1 z2 z3 a10 a11 a12) (by decide) (by decide)
  · refine go_iload 35 rfl at_33 rfl ?_
    refine go_if 46 38 rfl (by decide) rfl at_35 rfl (fun (hc35 : (4 : Int) ≠ 0) => ?_) (fun (hc35 : ¬ ((4 : Int) ≠ 0)) => absurd hc35 (by decide))
    refine go_iload 48 rfl at_46 rfl ?_
    refine go_iconst (1 : Int32) 49 rfl at_48 rfl ?_
    refine go_icmp 65 52 rfl (by decide) rfl at_49 rfl (fun (hc49 : (4 : Int) ≠ (1 : Int)) => ?_) (fun (hc49 : ¬ ((4 : Int) ≠ (1 : Int))) => absurd hc49 (by decide))
    refine go_iload 67 rfl at_65 rfl ?_
    refine go_iconst (2 : Int32) 68 rfl at_67 rfl ?_
    refine go_icmp 89 71 rfl (by decide) rfl at_68 rfl (fun (hc68 : (4 : Int) ≠ (2 : Int)) => ?_) (fun (hc68 : ¬ ((4 : Int) ≠ (2 : Int))) => absurd hc68 (by decide))
    refine go_iload 91 rfl at_89 rfl ?_
    refine go_iconst (3 : Int32) 92 rfl at_91 rfl ?_
    refine go_icmp 118 95 rfl (by decide) rfl at_92 rfl (fun (hc92 : (4 : Int) ≠ (3 : Int)) => ?_) (fun (hc92 : ¬ ((4 : Int) ≠ (3 : Int))) => absurd hc92 (by decide))
    refine go_iconst (4 : Int32) 119 rfl at_118 rfl ?_
    refine go_newarr 121 rfl at_119 rfl (wd hw 5 rfl) (by decide) 4 (by decide) (by decide) (by decide) (by decide) (fun a13 => ?_)
    show Go B0 Z a0 h0 _ 1 4 [ar a13 .byte [(.int (0 : Int32)), (.int (0 : Int32)), (.int (0 : Int32)), (.int (0 : Int32))]] 121 #[.val (.int p1), .val (.int p2), .val (.int p3), .val (.int p4), .val (.int p5), .val (.int (4 : Int32)), .val (.int z0), .val (.int z1), .val (.int z2), .val (.int z3), .unset, .unset, .unset, .unset, .unset, .unset, .unset] [(.ref a13)]
    refine go_dup 122 rfl at_121 rfl rfl ?_
    refine go_iconst (0 : Int32) 123 rfl at_122 rfl ?_
    refine go_iload 125 rfl at_123 rfl ?_
    refine go_bastore 0 126 rfl at_125 rfl rfl (by decide) (Nat.le_of_ble_eq_true rfl) ?_
    show Go B0 Z a0 h0 _ 1 4 [ar a13 .byte [(.int (nar .byte z0)), (.int (0 : Int32)), (.int (0 : Int32)), (.int (0 : Int32))]] 126 #[.val (.int p1), .val (.int p2), .val (.int p3), .val (.int p4), .val (.int p5), .val (.int (4 : Int32)), .val (.int z0), .val (.int z1), .val (.int z2), .val (.int z3), .unset, .unset, .unset, .unset, .unset, .unset, .unset] [(.ref a13)]
    refine go_dup 127 rfl at_126 rfl rfl ?_
    refine go_iconst (1 : Int32) 128 rfl at_127 rfl ?_
    refine go_iload 130 rfl at_128 rfl ?_
    refine go_bastore 0 131 rfl at_130 rfl rfl (by decide) (Nat.le_of_ble_eq_true rfl) ?_
    show Go B0 Z a0 h0 _ 1 4 [ar a13 .byte [(.int (nar .byte z0)), (.int (nar .byte z1)), (.int (0 : Int32)), (.int (0 : Int32))]] 131 #[.val (.int p1), .val (.int p2), .val (.int p3), .val (.int p4), .val (.int p5), .val (.int (4 : Int32)), .val (.int z0), .val (.int z1), .val (.int z2), .val (.int z3), .unset, .unset, .unset, .unset, .unset, .unset, .unset] [(.ref a13)]
    refine go_dup 132 rfl at_131 rfl rfl ?_
    refine go_iconst (2 : Int32) 133 rfl at_132 rfl ?_
    refine go_iload 135 rfl at_133 rfl ?_
    refine go_bastore 0 136 rfl at_135 rfl rfl (by decide) (Nat.le_of_ble_eq_true rfl) ?_
    show Go B0 Z a0 h0 _ 1 4 [ar a13 .byte [(.int (nar .byte z0)), (.int (nar .byte z1)), (.int (nar .byte z2)), (.int (0 : Int32))]] 136 #[.val (.int p1), .val (.int p2), .val (.int p3), .val (.int p4), .val (.int p5), .val (.int (4 : Int32)), .val (.int z0), .val (.int z1), .val (.int z2), .val (.int z3), .unset, .unset, .unset, .unset, .unset, .unset, .unset] [(.ref a13)]
    refine go_dup 137 rfl at_136 rfl rfl ?_
    refine go_iconst (3 : Int32) 138 rfl at_137 rfl ?_
    refine go_iload 140 rfl at_138 rfl ?_
    refine go_bastore 0 141 rfl at_140 rfl rfl (by decide) (Nat.le_of_ble_eq_true rfl) ?_
    show Go B0 Z a0 h0 _ 1 4 [ar a13 .byte [(.int (nar .byte z0)), (.int (nar .byte z1)), (.int (nar .byte z2)), (.int (nar .byte z3))]] 141 #[.val (.int p1), .val (.int p2), .val (.int p3), .val (.int p4), .val (.int p5), .val (.int (4 : Int32)), .val (.int z0), .val (.int z1), .val (.int z2), .val (.int z3), .unset, .unset, .unset, .unset, .unset, .unset, .unset] [(.ref a13)]
    refine go_astore #[.val (.int p1), .val (.int p2), .val (.int p3), .val (.int p4), .val (.int p5), .val (.int (4 : Int32)), .val (.int z0), .val (.int z1), .val (.int z2), .val (.int z3), .val (.ref a13), .unset, .unset, .unset, .unset, .unset, .unset] 143 rfl at_141 rfl rfl rfl ?_
    refine go_iconst (5 : Int32) 144 rfl at_143 rfl ?_
    refine go_newarr 146 rfl at_144 rfl (wd hw 6 rfl) (by decide) 5 (by decide) (by decide) (by decide) (by decide) (fun a14 => ?_)
    show Go B0 Z a0 h0 _ 2 9 [ar a13 .byte [(.int (nar .byte z0)), (.int (nar .byte z1)), (.int (nar .byte z2)), (.int (nar .byte z3))], ar a14 .int [(.int (0 : Int32)), (.int (0 : Int32)), (.int (0 : Int32)), (.int (0 : Int32)), (.int (0 : Int32))]] 146 #[.val (.int p1), .val (.int p2), .val (.int p3), .val (.int p4), .val (.int p5), .val (.int (4 : Int32)), .val (.int z0), .val (.int z1), .val (.int z2), .val (.int z3), .val (.ref a13), .unset, .unset, .unset, .unset, .unset, .unset] [(.ref a14)]
    refine go_astore #[.val (.int p1), .val (.int p2), .val (.int p3), .val (.int p4), .val (.int p5), .val (.int (4 : Int32)), .val (.int z0), .val (.int z1), .val (.int z2), .val (.int z3), .val (.ref a13), .val (.ref a14), .unset, .unset, .unset, .unset, .unset] 148 rfl at_146 rfl rfl rfl ?_
    refine go_iconst (5 : Int32) 149 rfl at_148 rfl ?_
    refine go_newarr 151 rfl at_149 rfl (wd hw 6 rfl) (by decide) 5 (by decide) (by decide) (by decide) (by decide) (fun a15 => ?_)
    show Go B0 Z a0 h0 _ 3 14 [ar a13 .byte [(.int (nar .byte z0)), (.int (nar .byte z1)), (.int (nar .byte z2)), (.int (nar .byte z3))], ar a14 .int [(.int (0 : Int32)), (.int (0 : Int32)), (.int (0 : Int32)), (.int (0 : Int32)), (.int (0 : Int32))], ar a15 .int [(.int (0 : Int32)), (.int (0 : Int32)), (.int (0 : Int32)), (.int (0 : Int32)), (.int (0 : Int32))]] 151 #[.val (.int p1), .val (.int p2), .val (.int p3), .val (.int p4), .val (.int p5), .val (.int (4 : Int32)), .val (.int z0), .val (.int z1), .val (.int z2), .val (.int z3), .val (.ref a13), .val (.ref a14), .unset, .unset, .unset, .unset, .unset] [(.ref a15)]
    refine go_astore #[.val (.int p1), .val (.int p2), .val (.int p3), .val (.int p4), .val (.int p5), .val (.int (4 : Int32)), .val (.int z0), .val (.int z1), .val (.int z2), .val (.int z3), .val (.ref a13), .val (.ref a14), .val (.ref a15), .unset, .unset, .unset, .unset] 153 rfl at_151 rfl rfl rfl ?_
    refine go_iconst (0 : Int32) 154 rfl at_153 rfl ?_
    refine go_istore #[.val (.int p1), .val (.int p2), .val (.int p3), .val (.int p4), .val (.int p5), .val (.int (4 : Int32)), .val (.int z0), .val (.int z1), .val (.int z2), .val (.int z3), .val (.ref a13), .val (.ref a14), .val (.ref a15), .val (.int (0 : Int32)), .unset, .unset, .unset] 156 rfl at_154 rfl rfl ?_
    refine go_iconst (0 : Int32) 157 rfl at_156 rfl ?_
    refine go_istore #[.val (.int p1), .val (.int p2), .val (.int p3), .val (.int p4), .val (.int p5), .val (.int (4 : Int32)), .val (.int z0), .val (.int z1), .val (.int z2), .val (.int z3), .val (.ref a13), .val (.ref a14), .val (.ref a15), .val (.int (0 : Int32)), .val (.int (0 : Int32)), .unset, .unset] 159 rfl at_157 rfl rfl ?_
    simp only [hz0, hz1, hz2, hz3]
    show Go B0 Z a0 h0 _ 3 14 [ar a13 .byte [(.int z0), (.int z1), (.int z2), (.int z3)], ar a14 .int [(.int (0 : Int32)), (.int (0 : Int32)), (.int (0 : Int32)), (.int (0 : Int32)), (.int (0 : Int32))], ar a15 .int [(.int (0 : Int32)), (.int (0 : Int32)), (.int (0 : Int32)), (.int (0 : Int32)), (.int (0 : Int32))]] 159 #[.val (.int p1), .val (.int p2), .val (.int p3), .val (.int p4), .val (.int p5), .val (.int (4 : Int32)), .val (.int z0), .val (.int z1), .val (.int z2), .val (.int z3), .val (.ref a13), .val (.ref a14), .val (.ref a15), .val (.int (0 : Int32)), .val (.int (0 : Int32)), .unset, .unset] []
    exact Go.more (law159_4 Z a0 hw h0 p1 p2 p3 p4 p5 z0 z1 z2 z3 a13 a14 a15) (by decide) (by decide)
set_option maxRecDepth 65536 in
set_option maxHeartbeats 4000000 in
theorem comes_1 {Post : Tables → Env → Array Value → State → Outcome → State → Prop} (hpost : ∀ tb e args s v u, (limb_1_1.after args s (.returned v) u = true ∧ limb_1_2.after args s (.returned v) u = true ∧ True) → FrameEnd s (.returned v) u (Jvm.fieldLocs frame_1_writes args s ++ Jvm.arrayLocs frame_1_arrays args s ++ Jvm.staticLocs frame_1_statics s) 32 192 → Post tb e args s (.returned v) u) :
    ArmFor flags0 classFile x code maxLocals ret World_1 tables_1 room_1 Calls_1 rest_1 Pre_1 Post := by
  intro l hfl _ _ p e ha hc hk s m args below hf hA hF happ hP
  obtain ⟨hcalls, hrest, hpre⟩ := hP
  obtain ⟨-, -, -, hnamed, -, -, -, hat⟩ := (Spec.applies_iff hf).mp happ
  obtain ⟨hg, hn⟩ := and_e (Cond.before_iff.mp (show (Jvm.Cond.and given_1 narrow_1).before args s = true from hpre))
  obtain ⟨g0, r0⟩ := and_e hg
  obtain ⟨g1, r1⟩ := and_e r0
  obtain ⟨g2, r2⟩ := and_e r1
  obtain ⟨g3, r3⟩ := and_e r2
  obtain ⟨g4, r4⟩ := and_e r3
  obtain ⟨w0, w1, w2, w3, w4, rfl⟩ : ∃ w0 w1 w2 w3 w4 : Value, args = #[w0, w1, w2, w3, w4] := by
    have hs : args.size = 5 := by simpa [Cond.value, given_1] using g0
    obtain ⟨L⟩ := args
    match L, hs with
    | [w0, w1, w2, w3, w4], _ => exact ⟨w0, w1, w2, w3, w4, rfl⟩
  have hw := fun d (hd : d ∈ tables_1) => atoms_spec (ws := Jvm.Cond.code x code maxLocals ret :: tables_1) hat d (List.mem_cons_of_mem _ hd)
  have hfit : Fit s := fun {y c} hc i hi => by
    obtain ⟨ha, rfl⟩ := Array.getElem?_eq_some_iff.mp hc
    have q := List.all_eq_true.mp ((Array.all_eq_true_iff_forall_mem.mp hF) _ (Array.getElem_mem ha)) i (List.mem_range.mpr hi)
    simpa [Array.getElem?_eq_getElem hi] using q
  obtain ⟨i0, e0⟩ := is_v g1
  obtain rfl : w0 = (.int i0) := Option.some.inj e0
  obtain ⟨i1, e1⟩ := is_v g2
  obtain rfl : w1 = (.int i1) := Option.some.inj e1
  obtain ⟨i2, e2⟩ := is_v g3
  obtain rfl : w2 = (.int i2) := Option.some.inj e2
  obtain ⟨i3, e3⟩ := is_v g4
  obtain rfl : w3 = (.int i3) := Option.some.inj e3
  obtain ⟨i4, e4⟩ := is_v r4
  obtain rfl : w4 = (.int i4) := Option.some.inj e4
  obtain ⟨n, o, q1, q2, q3, v, L, rfl, ⟨N, ds', M', -, rfl⟩, hq⟩ := law_met s _ hw s.heap i0 i1 i2 i3 i4  l tables_1 s.heap (Mo.start s _ s.heap) p e ha hc hk s m _ below hf ((Spec.applies_iff_loose hf).mp happ).1 ⟨rfl, State.Warmed39.refl s, rfl⟩ trivial
  refine ⟨n, _, q1, q2, q3, hpost _ _ _ _ _ _ ⟨Cond.after_iff.mpr rfl, Cond.after_iff.mpr (eq_i res_at (Term.int_eval (1)) rfl), trivial⟩ ⟨hq.1, hq.2.1, (hq.2.2.sift fun y hy => Or.inr (N y hy)).mono (by decide) (by decide)⟩⟩
theorem main_1_1 : Claimed_1_1 := comes_1 fun _ _ _ _ _ _ h hF => ⟨h.1, hF⟩
theorem main_1_2 : Claimed_1_2 := comes_1 fun _ _ _ _ _ _ h hF => ⟨h.2.1, hF⟩

end Jvm.Pilot.@@N@@
namespace Jvm.Pilot.@@N@@
open Jvm Jvm.ClassFile Sem Op Lib Jvm.Free Jvm.Stand Jvm.Pilot.@@N@@.Jvm.D
/-! MADE BY PROGRAM (witnessworld.py) out of the Statement's table words and the real class files: 21 classes; the members and pool entries that the words name. The judged class is class 1, her method 4. -/
namespace start1
open Jvm.ClassFile
def u (s : String) : CpInfo := .utf8 (stringToUtf16 s)
/-- a pool by its gaps: so many unusable entries, then the entry; so many at the end -/
def gap : Nat → List CpInfo → List CpInfo
  | 0, r => r
  | n + 1, r => .unusable :: gap n r
def poolList (es : List (Nat × CpInfo)) (last : Nat) : List CpInfo := es.foldr (fun e r => gap e.1 (e.2 :: r)) (gap last [])
def pool (es : List (Nat × CpInfo)) (last : Nat) : Array CpInfo := ⟨poolList es last⟩
def fileOf (pool : Array CpInfo) (this : Nat) (attrs : Array Attribute := #[]) (ms : Array MethodInfo := #[]) (fl : Nat := 33) (sup : Nat := 0) (ifs : Array Nat := #[]) (fds : Array FieldInfo := #[]) : ClassFile where
  minorVersion := 0
  majorVersion := 65
  constantPool := pool
  accessFlags := fl
  thisClass := this
  superClass := sup
  interfaces := ifs
  fields := fds
  methods := ms
  attributes := attrs
def plain (name : String) (sup : Option ClassId) : Class where
  name := name
  kind := .ordinary
  loader := none
  accessFlags := 33
  super := sup
  interfaces := #[]
  cf := none
  fields := #[]
  methods := #[]
  instanceTypes := #[]
  staticTypes := #[]
  resolved := #[]
  callSites := []
  init := .initialized
  statics := none
  mirror := none

def pool0 : Array CpInfo := pool [(5, u "<init>"), (0, u "()V"), (1, .class_ 10), (1, u "java/lang/Object")] 113

def k0c0 : Code := { maxStack := 0, maxLocals := 1, code := object_method_1_code, exceptionTable := #[], attributes := #[] }
def k0m0 : Method := { name := "<init>", desc := "()V", sig := { parameters := [], returnType := none }, accessFlags := 1, code := some k0c0 }
/-- java/lang/Object -/
def k0 : Class := { plain "java/lang/Object" none with
  accessFlags := 33
  interfaces := #[]
  cf := some (fileOf pool0 8 #[] #[{ accessFlags := 1, nameIndex := 5, descriptorIndex := 6, attributes := #[] }] 33 0 #[] #[])
  fields := #[]
  methods := #[k0m0]
  instanceTypes := #[]
  staticTypes := #[]
  resolved := Array.replicate 124 none
  statics := none }

def pool1 : Array CpInfo := pool [(2, .class_ 4), (1, u "java/lang/Object"), (0, u "<init>"), (0, u "()V"), (0, .interfaceMethodref 8 9), (0, .class_ 10), (0, .nameAndType 11 12), (0, u "java/util/List"), (0, u "get"), (0, u "(I)Ljava/lang/Object;"), (0, .class_ 14), (0, u "com/example/clauseline/clauseline/model/Line"), (0, .methodref 13 16), (0, .nameAndType 17 18), (0, u "start"), (0, u "()I"), (0, .methodref 13 20), (0, .nameAndType 21 18), (0, u "end"), (0, .integer 2147483647), (0, .methodref 24 25), (0, .class_ 26), (0, .nameAndType 27 28), (0, u "com/example/clauseline/clauseline/model/DocumentOfPinLaw"), (0, u "draw"), (0, u "(I)B"), (0, .methodref 24 30), (0, .nameAndType 31 32), (0, u "close"), (0, u "([I[IIIIZ)I"), (0, .methodref 34 35), (0, .class_ 36), (0, .nameAndType 37 38), (0, u "com/example/clauseline/clauseline/model/Document"), (0, u "of"), (0, u "([B)Lcom/example/clauseline/clauseline/model/Document;"), (0, .methodref 34 40), (0, .nameAndType 41 18), (0, u "size"), (0, .methodref 34 43), (0, .nameAndType 44 45), (0, u "lines"), (0, u "()Ljava/util/List;"), (0, .interfaceMethodref 8 40), (0, .methodref 24 48), (0, .nameAndType 49 50), (0, u "check"), (0, u "(Ljava/util/List;II[I[I)Z"), (7, u "law"), (0, u "(IIIII)Z")] 4

def k1m0 : Method := { name := "<init>", desc := "()V", sig := { parameters := [], returnType := none }, accessFlags := 1, code := none }
def k1c1 : Code := { maxStack := 2, maxLocals := 2, code := method_2_code, exceptionTable := #[], attributes := #[] }
def k1m1 : Method := { name := "draw", desc := "(I)B", sig := { parameters := [.int], returnType := some .byte }, accessFlags := 10, code := some k1c1 }
def k1c2 : Code := { maxStack := 4, maxLocals := 6, code := method_3_code, exceptionTable := #[], attributes := #[] }
def k1m2 : Method := { name := "close", desc := "([I[IIIIZ)I", sig := { parameters := [(.array .int), (.array .int), .int, .int, .int, .boolean], returnType := some .int }, accessFlags := 10, code := some k1c2 }
def k1c3 : Code := { maxStack := 3, maxLocals := 6, code := method_4_code, exceptionTable := #[], attributes := #[] }
def k1m3 : Method := { name := "check", desc := "(Ljava/util/List;II[I[I)Z", sig := { parameters := [(.object "java/util/List"), .int, .int, (.array .int), (.array .int)], returnType := some .boolean }, accessFlags := 10, code := some k1c3 }
def k1c4 : Code := { maxStack := 7, maxLocals := 17, code := code, exceptionTable := #[], attributes := #[] }
def k1m4 : Method := { name := "law", desc := "(IIIII)Z", sig := { parameters := [.int, .int, .int, .int, .int], returnType := some .boolean }, accessFlags := 9, code := some k1c4 }
/-- com/example/clauseline/clauseline/model/DocumentOfPinLaw -/
def k1 : Class := { plain "com/example/clauseline/clauseline/model/DocumentOfPinLaw" (some 0) with
  accessFlags := 49
  interfaces := #[]
  cf := some (fileOf pool1 24 #[] #[{ accessFlags := 1, nameIndex := 5, descriptorIndex := 6, attributes := #[] }, { accessFlags := 10, nameIndex := 27, descriptorIndex := 28, attributes := #[] }, { accessFlags := 10, nameIndex := 31, descriptorIndex := 32, attributes := #[] }, { accessFlags := 10, nameIndex := 49, descriptorIndex := 50, attributes := #[] }, { accessFlags := 9, nameIndex := 58, descriptorIndex := 59, attributes := #[] }] 49 2 #[] #[])
  fields := #[]
  methods := #[k1m0, k1m1, k1m2, k1m3, k1m4]
  instanceTypes := #[]
  staticTypes := #[]
  resolved := Array.replicate 64 none
  statics := none }

def pool2 : Array CpInfo := pool [(1, .methodref 2 3), (0, .class_ 4), (0, .nameAndType 5 6), (0, u "java/lang/Object"), (0, u "<init>"), (0, u "()V"), (0, .class_ 8), (0, u "com/example/clauseline/clauseline/model/Document"), (0, .class_ 10), (0, u "com/example/clauseline/clauseline/model/Line"), (0, .fieldref 7 12), (0, .nameAndType 13 14), (0, u "recent"), (0, u "[Lcom/example/clauseline/clauseline/model/Line;"), (0, .class_ 16), (0, u "com/example/clauseline/clauseline/model/Document$Lines"), (0, .methodref 15 18), (0, .nameAndType 5 19), (0, u "(Lcom/example/clauseline/clauseline/model/Document;)V"), (0, .fieldref 7 21), (0, .nameAndType 22 23), (0, u "lines"), (0, u "Ljava/util/List;"), (0, .fieldref 7 25), (0, .nameAndType 26 27), (0, u "bytes"), (0, u "[B"), (0, .fieldref 7 29), (0, .nameAndType 30 31), (0, u "breaks"), (0, u "[I"), (0, .methodref 7 33), (0, .nameAndType 5 34), (0, u "([B[I)V"), (8, u "textEnd"), (0, u "(I)I"), (17, .methodref 7 63), (0, .nameAndType 64 44), (0, u "start"), (0, u "RECENT"), (0, u "I"), (6, u "of"), (0, u "([B)Lcom/example/clauseline/clauseline/model/Document;"), (3, u "()Ljava/util/List;"), (1, u "size"), (0, u "()I")] 8

def k2c0 : Code := { maxStack := 4, maxLocals := 3, code := prog_16_method_1_code, exceptionTable := #[], attributes := #[] }
def k2m0 : Method := { name := "<init>", desc := "([B[I)V", sig := { parameters := [(.array .byte), (.array .int)], returnType := none }, accessFlags := 2, code := some k2c0 }
def k2c1 : Code := { maxStack := 4, maxLocals := 6, code := prog_16_method_2_code, exceptionTable := #[], attributes := #[] }
def k2m1 : Method := { name := "of", desc := "([B)Lcom/example/clauseline/clauseline/model/Document;", sig := { parameters := [(.array .byte)], returnType := some (.object "com/example/clauseline/clauseline/model/Document") }, accessFlags := 9, code := some k2c1 }
def k2c2 : Code := { maxStack := 1, maxLocals := 1, code := prog_16_method_3_code, exceptionTable := #[], attributes := #[] }
def k2m2 : Method := { name := "lines", desc := "()Ljava/util/List;", sig := { parameters := [], returnType := some (.object "java/util/List") }, accessFlags := 1, code := some k2c2 }
def k2c3 : Code := { maxStack := 1, maxLocals := 1, code := prog_16_method_4_code, exceptionTable := #[], attributes := #[] }
def k2m3 : Method := { name := "size", desc := "()I", sig := { parameters := [], returnType := some .int }, accessFlags := 1, code := some k2c3 }
def k2c4 : Code := { maxStack := 3, maxLocals := 2, code := prog_16_method_7_code, exceptionTable := #[], attributes := #[] }
def k2m4 : Method := { name := "start", desc := "(I)I", sig := { parameters := [.int], returnType := some .int }, accessFlags := 2, code := some k2c4 }
def k2c5 : Code := { maxStack := 3, maxLocals := 3, code := prog_16_method_8_code, exceptionTable := #[], attributes := #[] }
def k2m5 : Method := { name := "textEnd", desc := "(I)I", sig := { parameters := [.int], returnType := some .int }, accessFlags := 2, code := some k2c5 }
/-- com/example/clauseline/clauseline/model/Document -/
def k2 : Class := { plain "com/example/clauseline/clauseline/model/Document" (some 0) with
  accessFlags := 49
  interfaces := #[]
  cf := some (fileOf pool2 7 #[.nestMembers #[15]] #[{ accessFlags := 2, nameIndex := 5, descriptorIndex := 34, attributes := #[] }, { accessFlags := 9, nameIndex := 73, descriptorIndex := 74, attributes := #[] }, { accessFlags := 1, nameIndex := 22, descriptorIndex := 78, attributes := #[] }, { accessFlags := 1, nameIndex := 80, descriptorIndex := 81, attributes := #[] }, { accessFlags := 2, nameIndex := 64, descriptorIndex := 44, attributes := #[] }, { accessFlags := 2, nameIndex := 43, descriptorIndex := 44, attributes := #[] }] 49 2 #[] #[{ accessFlags := 26, nameIndex := 65, descriptorIndex := 66, attributes := #[] }, { accessFlags := 18, nameIndex := 26, descriptorIndex := 27, attributes := #[] }, { accessFlags := 18, nameIndex := 30, descriptorIndex := 31, attributes := #[] }, { accessFlags := 18, nameIndex := 13, descriptorIndex := 14, attributes := #[] }, { accessFlags := 18, nameIndex := 22, descriptorIndex := 23, attributes := #[] }])
  fields := #[{ name := "RECENT", type := .int, accessFlags := 26, slot := 0, constantValue := 0 }, { name := "bytes", type := (.array .byte), accessFlags := 18, slot := 0, constantValue := 0 }, { name := "breaks", type := (.array .int), accessFlags := 18, slot := 1, constantValue := 0 }, { name := "recent", type := (.array (.object "com/example/clauseline/clauseline/model/Line")), accessFlags := 18, slot := 2, constantValue := 0 }, { name := "lines", type := (.object "java/util/List"), accessFlags := 18, slot := 3, constantValue := 0 }]
  methods := #[k2m0, k2m1, k2m2, k2m3, k2m4, k2m5]
  instanceTypes := #[(.array .byte), (.array .int), (.array (.object "com/example/clauseline/clauseline/model/Line")), (.object "java/util/List")]
  staticTypes := #[.int]
  resolved := ((Array.replicate 90 none).set! 17 (some (.method ⟨11, 0⟩))).set! 15 (some (.cls 11))
  statics := none }

def pool3 : Array CpInfo := pool [(1, .methodref 2 3), (0, .class_ 4), (0, .nameAndType 5 6), (0, u "java/lang/Object"), (0, u "<init>"), (0, u "()V"), (0, .fieldref 8 9), (0, .class_ 10), (0, .nameAndType 11 12), (0, u "com/example/clauseline/clauseline/model/Line"), (0, u "bytes"), (0, u "[B"), (0, .fieldref 8 14), (0, .nameAndType 15 16), (0, u "start"), (0, u "I"), (0, .fieldref 8 18), (0, .nameAndType 19 16), (0, u "end"), (2, u "text"), (0, u "Ljava/lang/String;"), (11, u "([BII)V"), (2, u "()I")] 4

def k3c0 : Code := { maxStack := 2, maxLocals := 4, code := prog_28_method_1_code, exceptionTable := #[], attributes := #[] }
def k3m0 : Method := { name := "<init>", desc := "([BII)V", sig := { parameters := [(.array .byte), .int, .int], returnType := none }, accessFlags := 0, code := some k3c0 }
def k3c1 : Code := { maxStack := 1, maxLocals := 1, code := prog_28_method_2_code, exceptionTable := #[], attributes := #[] }
def k3m1 : Method := { name := "start", desc := "()I", sig := { parameters := [], returnType := some .int }, accessFlags := 1, code := some k3c1 }
def k3c2 : Code := { maxStack := 1, maxLocals := 1, code := prog_28_method_3_code, exceptionTable := #[], attributes := #[] }
def k3m2 : Method := { name := "end", desc := "()I", sig := { parameters := [], returnType := some .int }, accessFlags := 1, code := some k3c2 }
/-- com/example/clauseline/clauseline/model/Line -/
def k3 : Class := { plain "com/example/clauseline/clauseline/model/Line" (some 0) with
  accessFlags := 49
  interfaces := #[]
  cf := some (fileOf pool3 8 #[] #[{ accessFlags := 0, nameIndex := 5, descriptorIndex := 35, attributes := #[] }, { accessFlags := 1, nameIndex := 15, descriptorIndex := 38, attributes := #[] }, { accessFlags := 1, nameIndex := 19, descriptorIndex := 38, attributes := #[] }] 49 2 #[] #[{ accessFlags := 18, nameIndex := 11, descriptorIndex := 12, attributes := #[] }, { accessFlags := 18, nameIndex := 15, descriptorIndex := 16, attributes := #[] }, { accessFlags := 18, nameIndex := 19, descriptorIndex := 16, attributes := #[] }, { accessFlags := 2, nameIndex := 22, descriptorIndex := 23, attributes := #[] }])
  fields := #[{ name := "bytes", type := (.array .byte), accessFlags := 18, slot := 0, constantValue := 0 }, { name := "start", type := .int, accessFlags := 18, slot := 1, constantValue := 0 }, { name := "end", type := .int, accessFlags := 18, slot := 2, constantValue := 0 }, { name := "text", type := (.object "java/lang/String"), accessFlags := 2, slot := 3, constantValue := 0 }]
  methods := #[k3m0, k3m1, k3m2]
  instanceTypes := #[(.array .byte), .int, .int, (.object "java/lang/String")]
  staticTypes := #[]
  resolved := Array.replicate 43 none
  statics := none }

def pool4 : Array CpInfo := pool [(8, .class_ 10), (1, u "java/lang/Iterable"), (24, .class_ 36), (0, u "java/lang/Object")] 25

/-- java/lang/Iterable -/
def k4 : Class := { plain "java/lang/Iterable" (some 0) with
  accessFlags := 1537
  interfaces := #[]
  cf := some (fileOf pool4 8 #[] #[] 1537 35 #[] #[])
  fields := #[]
  methods := #[]
  instanceTypes := #[]
  staticTypes := #[]
  resolved := Array.replicate 62 none
  statics := none }

def pool5 : Array CpInfo := pool [(10, .class_ 12), (1, u "java/util/Collection"), (47, .class_ 61), (0, u "java/lang/Object"), (0, .class_ 63), (0, u "java/lang/Iterable")] 51

/-- java/util/Collection -/
def k5 : Class := { plain "java/util/Collection" (some 0) with
  accessFlags := 1537
  interfaces := #[4]
  cf := some (fileOf pool5 10 #[] #[] 1537 60 #[62] #[])
  fields := #[]
  methods := #[]
  instanceTypes := #[]
  staticTypes := #[]
  resolved := Array.replicate 115 none
  statics := none }

def pool6 : Array CpInfo := pool [(1, .methodref 2 3), (0, .class_ 4), (0, .nameAndType 5 6), (0, u "java/lang/Object"), (0, u "<init>"), (0, u "()V"), (1, .class_ 10), (1, u "java/util/AbstractCollection"), (66, .class_ 78), (0, u "java/util/Collection")] 81

def k6c0 : Code := { maxStack := 1, maxLocals := 1, code := jdk_22_method_1_code, exceptionTable := #[], attributes := #[] }
def k6m0 : Method := { name := "<init>", desc := "()V", sig := { parameters := [], returnType := none }, accessFlags := 4, code := some k6c0 }
/-- java/util/AbstractCollection -/
def k6 : Class := { plain "java/util/AbstractCollection" (some 0) with
  accessFlags := 1057
  interfaces := #[5]
  cf := some (fileOf pool6 8 #[] #[{ accessFlags := 4, nameIndex := 5, descriptorIndex := 6, attributes := #[] }] 1057 2 #[77] #[])
  fields := #[]
  methods := #[k6m0]
  instanceTypes := #[]
  staticTypes := #[]
  resolved := Array.replicate 160 none
  statics := none }

def pool7 : Array CpInfo := pool [(8, .class_ 10), (1, u "java/util/SequencedCollection"), (15, .class_ 27), (0, u "java/lang/Object"), (0, .class_ 29), (0, u "java/util/Collection")] 27

/-- java/util/SequencedCollection -/
def k7 : Class := { plain "java/util/SequencedCollection" (some 0) with
  accessFlags := 1537
  interfaces := #[5]
  cf := some (fileOf pool7 8 #[] #[] 1537 26 #[28] #[])
  fields := #[]
  methods := #[]
  instanceTypes := #[]
  staticTypes := #[]
  resolved := Array.replicate 57 none
  statics := none }

def pool8 : Array CpInfo := pool [(8, .class_ 10), (1, u "java/util/List"), (64, u "get"), (0, u "(I)Ljava/lang/Object;"), (2, u "size"), (0, u "()I"), (22, .class_ 104), (0, u "java/lang/Object"), (15, .class_ 121), (0, u "java/util/SequencedCollection")] 129

def k8m0 : Method := { name := "size", desc := "()I", sig := { parameters := [], returnType := some .int }, accessFlags := 1025, code := none }
def k8m1 : Method := { name := "get", desc := "(I)Ljava/lang/Object;", sig := { parameters := [.int], returnType := some (.object "java/lang/Object") }, accessFlags := 1025, code := none }
/-- java/util/List -/
def k8 : Class := { plain "java/util/List" (some 0) with
  accessFlags := 1537
  interfaces := #[7]
  cf := some (fileOf pool8 8 #[] #[{ accessFlags := 1025, nameIndex := 79, descriptorIndex := 80, attributes := #[] }, { accessFlags := 1025, nameIndex := 75, descriptorIndex := 76, attributes := #[] }] 1537 103 #[120] #[])
  fields := #[]
  methods := #[k8m0, k8m1]
  instanceTypes := #[]
  staticTypes := #[]
  resolved := Array.replicate 251 none
  statics := none }

def pool9 : Array CpInfo := pool [(1, .methodref 2 3), (0, .class_ 4), (0, .nameAndType 5 6), (0, u "java/util/AbstractCollection"), (0, u "<init>"), (0, u "()V"), (0, .fieldref 8 9), (0, .class_ 10), (0, .nameAndType 11 12), (0, u "java/util/AbstractList"), (0, u "modCount"), (0, u "I"), (64, .class_ 78), (0, u "java/util/AbstractList$Itr"), (3, .class_ 83), (0, u "java/util/AbstractList$ListItr"), (9, .class_ 94), (0, u "java/util/AbstractList$RandomAccessSubList"), (3, .class_ 99), (0, u "java/util/AbstractList$SubList"), (33, .class_ 134), (0, u "java/util/List"), (73, .class_ 209), (0, u "java/util/AbstractList$SubList$1"), (0, .class_ 211), (0, u "java/util/AbstractList$RandomAccessSpliterator")] 6

def k9c0 : Code := { maxStack := 2, maxLocals := 1, code := jdk_39_method_1_code, exceptionTable := #[], attributes := #[] }
def k9m0 : Method := { name := "<init>", desc := "()V", sig := { parameters := [], returnType := none }, accessFlags := 4, code := some k9c0 }
/-- java/util/AbstractList -/
def k9 : Class := { plain "java/util/AbstractList" (some 6) with
  accessFlags := 1057
  interfaces := #[8]
  cf := some (fileOf pool9 8 #[.nestMembers #[93, 98, 208, 210, 82, 77]] #[{ accessFlags := 4, nameIndex := 5, descriptorIndex := 6, attributes := #[] }] 1057 2 #[133] #[{ accessFlags := 132, nameIndex := 11, descriptorIndex := 12, attributes := #[] }])
  fields := #[{ name := "modCount", type := .int, accessFlags := 132, slot := 0, constantValue := 0 }]
  methods := #[k9m0]
  instanceTypes := #[.int]
  staticTypes := #[]
  resolved := Array.replicate 218 none
  statics := none }

def pool10 : Array CpInfo := pool [(1, .class_ 2), (0, u "java/util/RandomAccess"), (0, .class_ 4), (0, u "java/lang/Object")] 2

/-- java/util/RandomAccess -/
def k10 : Class := { plain "java/util/RandomAccess" (some 0) with
  accessFlags := 1537
  interfaces := #[]
  cf := some (fileOf pool10 1 #[] #[] 1537 3 #[] #[])
  fields := #[]
  methods := #[]
  instanceTypes := #[]
  staticTypes := #[]
  resolved := Array.replicate 7 none
  statics := none }

def pool11 : Array CpInfo := pool [(1, .class_ 2), (0, u "com/example/clauseline/clauseline/model/Document"), (0, .fieldref 4 5), (0, .class_ 6), (0, .nameAndType 7 8), (0, u "com/example/clauseline/clauseline/model/Document$Lines"), (0, u "this$0"), (0, u "Lcom/example/clauseline/clauseline/model/Document;"), (0, .methodref 10 11), (0, .class_ 12), (0, .nameAndType 13 14), (0, u "java/util/AbstractList"), (0, u "<init>"), (0, u "()V"), (0, .fieldref 1 16), (0, .nameAndType 17 18), (0, u "breaks"), (0, u "[I"), (0, .methodref 20 21), (0, .class_ 22), (0, .nameAndType 23 24), (0, u "java/util/Objects"), (0, u "checkIndex"), (0, u "(II)I"), (0, .fieldref 1 26), (0, .nameAndType 27 28), (0, u "recent"), (0, u "[Lcom/example/clauseline/clauseline/model/Line;"), (0, .methodref 1 30), (0, .nameAndType 31 32), (0, u "start"), (0, u "(I)I"), (0, .methodref 34 35), (0, .class_ 36), (0, .nameAndType 31 37), (0, u "com/example/clauseline/clauseline/model/Line"), (0, u "()I"), (0, .fieldref 1 39), (0, .nameAndType 40 41), (0, u "bytes"), (0, u "[B"), (0, .methodref 1 43), (0, .nameAndType 44 32), (0, u "textEnd"), (0, .methodref 34 46), (0, .nameAndType 13 47), (0, u "([BII)V"), (0, .methodref 4 49), (0, .nameAndType 50 51), (0, u "get"), (0, u "(I)Lcom/example/clauseline/clauseline/model/Line;"), (0, .class_ 53), (0, u "java/util/RandomAccess"), (0, u "(Lcom/example/clauseline/clauseline/model/Document;)V"), (4, u "size"), (0, u "(I)Ljava/lang/Object;")] 7

def k11c0 : Code := { maxStack := 2, maxLocals := 2, code := prog_17_method_1_code, exceptionTable := #[], attributes := #[] }
def k11m0 : Method := { name := "<init>", desc := "(Lcom/example/clauseline/clauseline/model/Document;)V", sig := { parameters := [(.object "com/example/clauseline/clauseline/model/Document")], returnType := none }, accessFlags := 2, code := some k11c0 }
def k11c1 : Code := { maxStack := 6, maxLocals := 5, code := prog_17_method_2_code, exceptionTable := #[], attributes := #[] }
def k11m1 : Method := { name := "get", desc := "(I)Lcom/example/clauseline/clauseline/model/Line;", sig := { parameters := [.int], returnType := some (.object "com/example/clauseline/clauseline/model/Line") }, accessFlags := 1, code := some k11c1 }
def k11c2 : Code := { maxStack := 1, maxLocals := 1, code := prog_17_method_3_code, exceptionTable := #[], attributes := #[] }
def k11m2 : Method := { name := "size", desc := "()I", sig := { parameters := [], returnType := some .int }, accessFlags := 1, code := some k11c2 }
def k11c3 : Code := { maxStack := 2, maxLocals := 2, code := prog_17_method_4_code, exceptionTable := #[], attributes := #[] }
def k11m3 : Method := { name := "get", desc := "(I)Ljava/lang/Object;", sig := { parameters := [.int], returnType := some (.object "java/lang/Object") }, accessFlags := 4161, code := some k11c3 }
/-- com/example/clauseline/clauseline/model/Document$Lines -/
def k11 : Class := { plain "com/example/clauseline/clauseline/model/Document$Lines" (some 9) with
  accessFlags := 48
  interfaces := #[10]
  cf := some (fileOf pool11 4 #[.nestHost 1] #[{ accessFlags := 2, nameIndex := 13, descriptorIndex := 54, attributes := #[] }, { accessFlags := 1, nameIndex := 50, descriptorIndex := 51, attributes := #[] }, { accessFlags := 1, nameIndex := 59, descriptorIndex := 37, attributes := #[] }, { accessFlags := 4161, nameIndex := 50, descriptorIndex := 60, attributes := #[] }] 48 10 #[52] #[{ accessFlags := 4112, nameIndex := 7, descriptorIndex := 8, attributes := #[] }])
  fields := #[{ name := "this$0", type := (.object "com/example/clauseline/clauseline/model/Document"), accessFlags := 4112, slot := 1, constantValue := 0 }]
  methods := #[k11m0, k11m1, k11m2, k11m3]
  instanceTypes := #[.int, (.object "com/example/clauseline/clauseline/model/Document")]
  staticTypes := #[]
  resolved := Array.replicate 68 none
  statics := none }

def pool12 : Array CpInfo := pool [(2, .class_ 4), (1, u "java/lang/Object"), (0, u "<init>"), (0, u "()V"), (35, .class_ 44), (1, u "java/util/Objects"), (60, .methodref 106 107), (0, .class_ 108), (0, .nameAndType 109 110), (0, u "jdk/internal/util/Preconditions"), (0, u "checkIndex"), (0, u "(IILjava/util/function/BiFunction;)I"), (60, u "(II)I")] 12

def k12m0 : Method := { name := "<init>", desc := "()V", sig := { parameters := [], returnType := none }, accessFlags := 2, code := none }
def k12c1 : Code := { maxStack := 3, maxLocals := 2, code := jdk_31_method_17_code, exceptionTable := #[], attributes := #[] }
def k12m1 : Method := { name := "checkIndex", desc := "(II)I", sig := { parameters := [.int, .int], returnType := some .int }, accessFlags := 9, code := some k12c1 }
/-- java/util/Objects -/
def k12 : Class := { plain "java/util/Objects" (some 0) with
  accessFlags := 49
  interfaces := #[]
  cf := some (fileOf pool12 42 #[] #[{ accessFlags := 2, nameIndex := 5, descriptorIndex := 6, attributes := #[] }, { accessFlags := 9, nameIndex := 109, descriptorIndex := 171, attributes := #[] }] 49 2 #[] #[])
  fields := #[]
  methods := #[k12m0, k12m1]
  instanceTypes := #[]
  staticTypes := #[]
  resolved := Array.replicate 184 none
  statics := none }

def pool13 : Array CpInfo := pool [(2, .class_ 4), (1, u "java/lang/Object"), (0, u "<init>"), (0, u "()V"), (17, .class_ 26), (1, u "jdk/internal/util/Preconditions"), (6, u "checkIndex"), (21, .class_ 56), (0, u "jdk/internal/util/Preconditions$4"), (57, .class_ 115), (0, u "jdk/internal/util/Preconditions$1"), (7, u "SIOOBE_FORMATTER"), (0, u "Ljava/util/function/BiFunction;"), (0, .class_ 126), (0, u "jdk/internal/util/Preconditions$2"), (3, u "AIOOBE_FORMATTER"), (0, .class_ 132), (0, u "jdk/internal/util/Preconditions$3"), (3, u "IOOBE_FORMATTER"), (41, u "(IILjava/util/function/BiFunction;)I")] 15

def k13m0 : Method := { name := "<init>", desc := "()V", sig := { parameters := [], returnType := none }, accessFlags := 1, code := none }
def k13c1 : Code := { maxStack := 3, maxLocals := 3, code := jdk_41_method_11_code, exceptionTable := #[], attributes := #[] }
def k13m1 : Method := { name := "checkIndex", desc := "(IILjava/util/function/BiFunction;)I", sig := { parameters := [.int, .int, (.object "java/util/function/BiFunction")], returnType := some .int }, accessFlags := 9, code := some k13c1 }
/-- jdk/internal/util/Preconditions -/
def k13 : Class := { plain "jdk/internal/util/Preconditions" (some 0) with
  accessFlags := 33
  interfaces := #[]
  cf := some (fileOf pool13 24 #[.nestMembers #[55, 131, 125, 114]] #[{ accessFlags := 1, nameIndex := 5, descriptorIndex := 6, attributes := #[] }, { accessFlags := 9, nameIndex := 33, descriptorIndex := 178, attributes := #[] }] 33 2 #[] #[{ accessFlags := 25, nameIndex := 123, descriptorIndex := 124, attributes := #[] }, { accessFlags := 25, nameIndex := 130, descriptorIndex := 124, attributes := #[] }, { accessFlags := 25, nameIndex := 136, descriptorIndex := 124, attributes := #[] }])
  fields := #[{ name := "SIOOBE_FORMATTER", type := (.object "java/util/function/BiFunction"), accessFlags := 25, slot := 0, constantValue := 0 }, { name := "AIOOBE_FORMATTER", type := (.object "java/util/function/BiFunction"), accessFlags := 25, slot := 1, constantValue := 0 }, { name := "IOOBE_FORMATTER", type := (.object "java/util/function/BiFunction"), accessFlags := 25, slot := 2, constantValue := 0 }]
  methods := #[k13m0, k13m1]
  instanceTypes := #[]
  staticTypes := #[(.object "java/util/function/BiFunction"), (.object "java/util/function/BiFunction"), (.object "java/util/function/BiFunction")]
  resolved := Array.replicate 194 none
  statics := none }

def pool14 : Array CpInfo := pool [(1, u "java/lang/Cloneable"), (0, .class_ 1), (0, u "java/lang/Object"), (0, .class_ 3)] 3

/-- java/lang/Cloneable -/
def k14 : Class := { plain "java/lang/Cloneable" (some 0) with
  accessFlags := 1537
  interfaces := #[]
  cf := some (fileOf pool14 2 #[] #[] 1537 4 #[] #[])
  fields := #[]
  methods := #[]
  instanceTypes := #[]
  staticTypes := #[]
  resolved := Array.replicate 8 none
  statics := none }

def pool15 : Array CpInfo := pool [(1, u "java/io/Serializable"), (0, .class_ 1), (0, u "java/lang/Object"), (0, .class_ 3)] 3

/-- java/io/Serializable -/
def k15 : Class := { plain "java/io/Serializable" (some 0) with
  accessFlags := 1537
  interfaces := #[]
  cf := some (fileOf pool15 2 #[] #[] 1537 4 #[] #[])
  fields := #[]
  methods := #[]
  instanceTypes := #[]
  staticTypes := #[]
  resolved := Array.replicate 8 none
  statics := none }

/-- the primitive byte -/
def k16 : Class := { plain "byte" none with kind := .primitive 'B', accessFlags := 0x411 }
/-- [B -/
def k17 : Class := { plain "[B" (some 0) with kind := .array 16 .byte, interfaces := #[14, 15], accessFlags := 1041 }

/-- the primitive int -/
def k18 : Class := { plain "int" none with kind := .primitive 'I', accessFlags := 0x411 }
/-- [I -/
def k19 : Class := { plain "[I" (some 0) with kind := .array 18 .int, interfaces := #[14, 15], accessFlags := 1041 }

/-- [Lcom/example/clauseline/clauseline/model/Line; -/
def k20 : Class := { plain "[Lcom/example/clauseline/clauseline/model/Line;" (some 0) with kind := .array 3 (.object "com/example/clauseline/clauseline/model/Line"), interfaces := #[14, 15], accessFlags := 1041 }

def heap : Heap := #[]
def classes : Array Class := #[k0, k1, k2, k3, k4, k5, k6, k7, k8, k9, k10, k11, k12, k13, k14, k15, k16, k17, k18, k19, k20]
def interned : List (Array UInt16 × Addr) := []
def slotsUsed : Nat := 0
def theMethod : MethodId := ⟨1, 4⟩
def args0 : Array Value := #[.int 5, .int 1, .int 2, .int 3, .int 4]
def aboutOver (below : List Frame) : State where
  vm := { classes := classes, interned := interned.toArray }
  heap := heap
  slotsUsed := slotsUsed
  threads := #[{ frames := .invoking theMethod args0 :: below }]
def below0 : List Frame := [.native { method := ⟨0, 0⟩, args := #[] }]
def about1 : State := aboutOver below0
def p0 : Program := .bare "" "" ""
def e0 : Env := launch0.env 0 0 0
theorem w_frames : about1.frames = Frame.invoking theMethod args0 :: below0 := rfl
set_option maxRecDepth 65536 in
theorem w_args : argsFit about1.vm theMethod args0 = true := by decide +kernel
set_option maxRecDepth 65536 in
theorem w_heap : heapFits about1 = true := by decide +kernel
set_option maxRecDepth 65536 in
theorem w_runnable : about1.curStatus? = some .runnable := by decide +kernel
set_option maxRecDepth 65536 in
theorem w_alone : about1.alone = true := by decide +kernel
set_option maxRecDepth 65536 in
theorem w_named : about1.methodNamed? x = some theMethod := by decide +kernel
set_option maxRecDepth 65536 in
theorem w_hears : about1.hears theMethod below0 = true := by decide +kernel
set_option maxRecDepth 65536 in
theorem w_ripe : about1.ripe theMethod args0 below0 = true := by decide +kernel
theorem w_running : about1.status = .running := rfl
set_option maxRecDepth 65536 in
theorem w_room : about1.hasRoom e0.platform room_1 = true :=
  launch0.hasRoom_least _ room_1 (by decide +kernel) (by decide +kernel) (by decide +kernel) (by decide +kernel) (by decide +kernel) (by decide +kernel)
theorem allAtoms_all (ts : List Jvm.Cond) (a : Array Jvm.Value) (st : Jvm.State) : (allAtoms ts).before a st = ts.all (fun c => c.before a st) := by
  induction ts with
  | nil => rfl
  | cons c t ih =>
    show (Jvm.Cond.and c (allAtoms t)).before a st = _
    rw [Jvm.Cond.before_and, ih, List.all_cons]
def words1 : List Jvm.Cond := Jvm.Cond.code x code maxLocals ret :: tables_1
/-- a 'code' word, met by the world's own term for the bytes: nothing is compared byte by byte -/
theorem code_word {y : MethodName} {bytes : ByteArray} {mx : Nat} {rt : Option FieldType} {a : Array Value} {s : State} {m : MethodId} {meth : Method} {c : Code} (h1 : s.methodNamed? y = some m) (h2 : s.vm.method? m = some meth) (h3 : meth.code = some c) (h4 : c.code = bytes)
    (h5 : (c.maxLocals == mx && c.exceptionTable.isEmpty && decide (c.maxStack ≤ mostOperands) && decide (meth.sig.returnType = rt) && !meth.locks && decide (parseMethodDescriptor y.desc = some meth.sig)) = true) : (Jvm.Cond.code y bytes mx rt).before a s = true := by
  simp only [Bool.and_eq_true, beq_iff_eq, Bool.not_eq_true', decide_eq_true_eq] at h5
  obtain ⟨⟨⟨⟨⟨g1, g2⟩, g3⟩, g4⟩, g5⟩, g6⟩ := h5
  simp [Cond.before, Cond.holds, Cond.value, h1, h2, h3, h4, g1, g2, g3, g4, g5, g6]
def isCode : Jvm.Cond → Bool
  | .code _ _ _ _ => true
  | _ => false
theorem all_split {L : List Jvm.Cond} {P : Jvm.Cond → Bool} (h1 : L.all (fun c => isCode c || P c) = true) (h2 : ∀ c ∈ L.filter isCode, P c = true) : L.all P = true := by
  refine List.all_eq_true.mpr fun c hc => ?_
  have h := List.all_eq_true.mp h1 c hc
  rcases Bool.eq_false_or_eq_true (isCode c) with hi | hi
  · exact h2 c (List.mem_filter.mpr ⟨hc, hi⟩)
  · simpa [hi] using h
set_option maxRecDepth 65536 in
theorem w_c0 : (Jvm.Cond.code x code maxLocals ret).before args0 about1 = true := code_word (m := ⟨1, 4⟩) (meth := k1m4) (c := k1c4) (by decide +kernel) rfl rfl rfl (by decide +kernel)
set_option maxRecDepth 65536 in
theorem w_c1 : (Jvm.Cond.code ({ cls := "com/example/clauseline/clauseline/model/DocumentOfPinLaw", name := "draw", desc := "(I)B" } : Jvm.MethodName) method_2_code (2 : Nat) (Option.some Jvm.ClassFile.FieldType.byte)).before args0 about1 = true := code_word (m := ⟨1, 1⟩) (meth := k1m1) (c := k1c1) (by decide +kernel) rfl rfl rfl (by decide +kernel)
set_option maxRecDepth 65536 in
theorem w_c2 : (Jvm.Cond.code ({ cls := "com/example/clauseline/clauseline/model/Document", name := "of", desc := "([B)Lcom/example/clauseline/clauseline/model/Document;" } : Jvm.MethodName) prog_16_method_2_code (6 : Nat) (Option.some (Jvm.ClassFile.FieldType.object "com/example/clauseline/clauseline/model/Document"))).before args0 about1 = true := code_word (m := ⟨2, 1⟩) (meth := k2m1) (c := k2c1) (by decide +kernel) rfl rfl rfl (by decide +kernel)
set_option maxRecDepth 65536 in
theorem w_c3 : (Jvm.Cond.code ({ cls := "com/example/clauseline/clauseline/model/Document", name := "<init>", desc := "([B[I)V" } : Jvm.MethodName) prog_16_method_1_code (3 : Nat) (Option.none : Option Jvm.ClassFile.FieldType)).before args0 about1 = true := code_word (m := ⟨2, 0⟩) (meth := k2m0) (c := k2c0) (by decide +kernel) rfl rfl rfl (by decide +kernel)
set_option maxRecDepth 65536 in
theorem w_c4 : (Jvm.Cond.code ({ cls := "java/lang/Object", name := "<init>", desc := "()V" } : Jvm.MethodName) object_method_1_code (1 : Nat) (Option.none : Option Jvm.ClassFile.FieldType)).before args0 about1 = true := code_word (m := ⟨0, 0⟩) (meth := k0m0) (c := k0c0) (by decide +kernel) rfl rfl rfl (by decide +kernel)
set_option maxRecDepth 65536 in
theorem w_c5 : (Jvm.Cond.code ({ cls := "com/example/clauseline/clauseline/model/Document$Lines", name := "<init>", desc := "(Lcom/example/clauseline/clauseline/model/Document;)V" } : Jvm.MethodName) prog_17_method_1_code (2 : Nat) (Option.none : Option Jvm.ClassFile.FieldType)).before args0 about1 = true := code_word (m := ⟨11, 0⟩) (meth := k11m0) (c := k11c0) (by decide +kernel) rfl rfl rfl (by decide +kernel)
set_option maxRecDepth 65536 in
theorem w_c6 : (Jvm.Cond.code ({ cls := "java/util/AbstractList", name := "<init>", desc := "()V" } : Jvm.MethodName) jdk_39_method_1_code (1 : Nat) (Option.none : Option Jvm.ClassFile.FieldType)).before args0 about1 = true := code_word (m := ⟨9, 0⟩) (meth := k9m0) (c := k9c0) (by decide +kernel) rfl rfl rfl (by decide +kernel)
set_option maxRecDepth 65536 in
theorem w_c7 : (Jvm.Cond.code ({ cls := "java/util/AbstractCollection", name := "<init>", desc := "()V" } : Jvm.MethodName) jdk_22_method_1_code (1 : Nat) (Option.none : Option Jvm.ClassFile.FieldType)).before args0 about1 = true := code_word (m := ⟨6, 0⟩) (meth := k6m0) (c := k6c0) (by decide +kernel) rfl rfl rfl (by decide +kernel)
set_option maxRecDepth 65536 in
theorem w_c8 : (Jvm.Cond.code ({ cls := "com/example/clauseline/clauseline/model/Document", name := "size", desc := "()I" } : Jvm.MethodName) prog_16_method_4_code (1 : Nat) (Option.some Jvm.ClassFile.FieldType.int)).before args0 about1 = true := code_word (m := ⟨2, 3⟩) (meth := k2m3) (c := k2c3) (by decide +kernel) rfl rfl rfl (by decide +kernel)
set_option maxRecDepth 65536 in
theorem w_c9 : (Jvm.Cond.code ({ cls := "com/example/clauseline/clauseline/model/Document", name := "lines", desc := "()Ljava/util/List;" } : Jvm.MethodName) prog_16_method_3_code (1 : Nat) (Option.some (Jvm.ClassFile.FieldType.object "java/util/List"))).before args0 about1 = true := code_word (m := ⟨2, 2⟩) (meth := k2m2) (c := k2c2) (by decide +kernel) rfl rfl rfl (by decide +kernel)
set_option maxRecDepth 65536 in
theorem w_c10 : (Jvm.Cond.code ({ cls := "com/example/clauseline/clauseline/model/Document$Lines", name := "size", desc := "()I" } : Jvm.MethodName) prog_17_method_3_code (1 : Nat) (Option.some Jvm.ClassFile.FieldType.int)).before args0 about1 = true := code_word (m := ⟨11, 2⟩) (meth := k11m2) (c := k11c2) (by decide +kernel) rfl rfl rfl (by decide +kernel)
set_option maxRecDepth 65536 in
theorem w_c11 : (Jvm.Cond.code ({ cls := "com/example/clauseline/clauseline/model/DocumentOfPinLaw", name := "check", desc := "(Ljava/util/List;II[I[I)Z" } : Jvm.MethodName) method_4_code (6 : Nat) (Option.some Jvm.ClassFile.FieldType.boolean)).before args0 about1 = true := code_word (m := ⟨1, 3⟩) (meth := k1m3) (c := k1c3) (by decide +kernel) rfl rfl rfl (by decide +kernel)
set_option maxRecDepth 65536 in
theorem w_c12 : (Jvm.Cond.code ({ cls := "com/example/clauseline/clauseline/model/DocumentOfPinLaw", name := "close", desc := "([I[IIIIZ)I" } : Jvm.MethodName) method_3_code (6 : Nat) (Option.some Jvm.ClassFile.FieldType.int)).before args0 about1 = true := code_word (m := ⟨1, 2⟩) (meth := k1m2) (c := k1c2) (by decide +kernel) rfl rfl rfl (by decide +kernel)
set_option maxRecDepth 65536 in
theorem w_c13 : (Jvm.Cond.code ({ cls := "com/example/clauseline/clauseline/model/Document$Lines", name := "get", desc := "(I)Ljava/lang/Object;" } : Jvm.MethodName) prog_17_method_4_code (2 : Nat) (Option.some (Jvm.ClassFile.FieldType.object "java/lang/Object"))).before args0 about1 = true := code_word (m := ⟨11, 3⟩) (meth := k11m3) (c := k11c3) (by decide +kernel) rfl rfl rfl (by decide +kernel)
set_option maxRecDepth 65536 in
theorem w_c14 : (Jvm.Cond.code ({ cls := "com/example/clauseline/clauseline/model/Document$Lines", name := "get", desc := "(I)Lcom/example/clauseline/clauseline/model/Line;" } : Jvm.MethodName) prog_17_method_2_code (5 : Nat) (Option.some (Jvm.ClassFile.FieldType.object "com/example/clauseline/clauseline/model/Line"))).before args0 about1 = true := code_word (m := ⟨11, 1⟩) (meth := k11m1) (c := k11c1) (by decide +kernel) rfl rfl rfl (by decide +kernel)
set_option maxRecDepth 65536 in
theorem w_c15 : (Jvm.Cond.code ({ cls := "java/util/Objects", name := "checkIndex", desc := "(II)I" } : Jvm.MethodName) jdk_31_method_17_code (2 : Nat) (Option.some Jvm.ClassFile.FieldType.int)).before args0 about1 = true := code_word (m := ⟨12, 1⟩) (meth := k12m1) (c := k12c1) (by decide +kernel) rfl rfl rfl (by decide +kernel)
set_option maxRecDepth 65536 in
theorem w_c16 : (Jvm.Cond.code ({ cls := "jdk/internal/util/Preconditions", name := "checkIndex", desc := "(IILjava/util/function/BiFunction;)I" } : Jvm.MethodName) jdk_41_method_11_code (3 : Nat) (Option.some Jvm.ClassFile.FieldType.int)).before args0 about1 = true := code_word (m := ⟨13, 1⟩) (meth := k13m1) (c := k13c1) (by decide +kernel) rfl rfl rfl (by decide +kernel)
set_option maxRecDepth 65536 in
theorem w_c17 : (Jvm.Cond.code ({ cls := "com/example/clauseline/clauseline/model/Document", name := "start", desc := "(I)I" } : Jvm.MethodName) prog_16_method_7_code (2 : Nat) (Option.some Jvm.ClassFile.FieldType.int)).before args0 about1 = true := code_word (m := ⟨2, 4⟩) (meth := k2m4) (c := k2c4) (by decide +kernel) rfl rfl rfl (by decide +kernel)
set_option maxRecDepth 65536 in
theorem w_c18 : (Jvm.Cond.code ({ cls := "com/example/clauseline/clauseline/model/Document", name := "textEnd", desc := "(I)I" } : Jvm.MethodName) prog_16_method_8_code (3 : Nat) (Option.some Jvm.ClassFile.FieldType.int)).before args0 about1 = true := code_word (m := ⟨2, 5⟩) (meth := k2m5) (c := k2c5) (by decide +kernel) rfl rfl rfl (by decide +kernel)
set_option maxRecDepth 65536 in
theorem w_c19 : (Jvm.Cond.code ({ cls := "com/example/clauseline/clauseline/model/Line", name := "<init>", desc := "([BII)V" } : Jvm.MethodName) prog_28_method_1_code (4 : Nat) (Option.none : Option Jvm.ClassFile.FieldType)).before args0 about1 = true := code_word (m := ⟨3, 0⟩) (meth := k3m0) (c := k3c0) (by decide +kernel) rfl rfl rfl (by decide +kernel)
set_option maxRecDepth 65536 in
theorem w_c20 : (Jvm.Cond.code ({ cls := "com/example/clauseline/clauseline/model/Line", name := "start", desc := "()I" } : Jvm.MethodName) prog_28_method_2_code (1 : Nat) (Option.some Jvm.ClassFile.FieldType.int)).before args0 about1 = true := code_word (m := ⟨3, 1⟩) (meth := k3m1) (c := k3c1) (by decide +kernel) rfl rfl rfl (by decide +kernel)
set_option maxRecDepth 65536 in
theorem w_c21 : (Jvm.Cond.code ({ cls := "com/example/clauseline/clauseline/model/Line", name := "end", desc := "()I" } : Jvm.MethodName) prog_28_method_3_code (1 : Nat) (Option.some Jvm.ClassFile.FieldType.int)).before args0 about1 = true := code_word (m := ⟨3, 2⟩) (meth := k3m2) (c := k3c2) (by decide +kernel) rfl rfl rfl (by decide +kernel)
def codes1 : List Jvm.Cond := [Jvm.Cond.code x code maxLocals ret, Jvm.Cond.code ({ cls := "com/example/clauseline/clauseline/model/DocumentOfPinLaw", name := "draw", desc := "(I)B" } : Jvm.MethodName) method_2_code (2 : Nat) (Option.some Jvm.ClassFile.FieldType.byte), Jvm.Cond.code ({ cls := "com/example/clauseline/clauseline/model/Document", name := "of", desc := "([B)Lcom/example/clauseline/clauseline/model/Document;" } : Jvm.MethodName) prog_16_method_2_code (6 : Nat) (Option.some (Jvm.ClassFile.FieldType.object "com/example/clauseline/clauseline/model/Document")), Jvm.Cond.code ({ cls := "com/example/clauseline/clauseline/model/Document", name := "<init>", desc := "([B[I)V" } : Jvm.MethodName) prog_16_method_1_code (3 : Nat) (Option.none : Option Jvm.ClassFile.FieldType), Jvm.Cond.code ({ cls := "java/lang/Object", name := "<init>", desc := "()V" } : Jvm.MethodName) object_method_1_code (1 : Nat) (Option.none : Option Jvm.ClassFile.FieldType), Jvm.Cond.code ({ cls := "com/example/clauseline/clauseline/model/Document$Lines", name := "<init>", desc := "(Lcom/example/clauseline/clauseline/model/Document;)V" } : Jvm.MethodName) prog_17_method_1_code (2 : Nat) (Option.none : Option Jvm.ClassFile.FieldType), Jvm.Cond.code ({ cls := "java/util/AbstractList", name := "<init>", desc := "()V" } : Jvm.MethodName) jdk_39_method_1_code (1 : Nat) (Option.none : Option Jvm.ClassFile.FieldType), Jvm.Cond.code ({ cls := "java/util/AbstractCollection", name := "<init>", desc := "()V" } : Jvm.MethodName) jdk_22_method_1_code (1 : Nat) (Option.none : Option Jvm.ClassFile.FieldType), Jvm.Cond.code ({ cls := "com/example/clauseline/clauseline/model/Document", name := "size", desc := "()I" } : Jvm.MethodName) prog_16_method_4_code (1 : Nat) (Option.some Jvm.ClassFile.FieldType.int), Jvm.Cond.code ({ cls := "com/example/clauseline/clauseline/model/Document", name := "lines", desc := "()Ljava/util/List;" } : Jvm.MethodName) prog_16_method_3_code (1 : Nat) (Option.some (Jvm.ClassFile.FieldType.object "java/util/List")), Jvm.Cond.code ({ cls := "com/example/clauseline/clauseline/model/Document$Lines", name := "size", desc := "()I" } : Jvm.MethodName) prog_17_method_3_code (1 : Nat) (Option.some Jvm.ClassFile.FieldType.int), Jvm.Cond.code ({ cls := "com/example/clauseline/clauseline/model/DocumentOfPinLaw", name := "check", desc := "(Ljava/util/List;II[I[I)Z" } : Jvm.MethodName) method_4_code (6 : Nat) (Option.some Jvm.ClassFile.FieldType.boolean), Jvm.Cond.code ({ cls := "com/example/clauseline/clauseline/model/DocumentOfPinLaw", name := "close", desc := "([I[IIIIZ)I" } : Jvm.MethodName) method_3_code (6 : Nat) (Option.some Jvm.ClassFile.FieldType.int), Jvm.Cond.code ({ cls := "com/example/clauseline/clauseline/model/Document$Lines", name := "get", desc := "(I)Ljava/lang/Object;" } : Jvm.MethodName) prog_17_method_4_code (2 : Nat) (Option.some (Jvm.ClassFile.FieldType.object "java/lang/Object")), Jvm.Cond.code ({ cls := "com/example/clauseline/clauseline/model/Document$Lines", name := "get", desc := "(I)Lcom/example/clauseline/clauseline/model/Line;" } : Jvm.MethodName) prog_17_method_2_code (5 : Nat) (Option.some (Jvm.ClassFile.FieldType.object "com/example/clauseline/clauseline/model/Line")), Jvm.Cond.code ({ cls := "java/util/Objects", name := "checkIndex", desc := "(II)I" } : Jvm.MethodName) jdk_31_method_17_code (2 : Nat) (Option.some Jvm.ClassFile.FieldType.int), Jvm.Cond.code ({ cls := "jdk/internal/util/Preconditions", name := "checkIndex", desc := "(IILjava/util/function/BiFunction;)I" } : Jvm.MethodName) jdk_41_method_11_code (3 : Nat) (Option.some Jvm.ClassFile.FieldType.int), Jvm.Cond.code ({ cls := "com/example/clauseline/clauseline/model/Document", name := "start", desc := "(I)I" } : Jvm.MethodName) prog_16_method_7_code (2 : Nat) (Option.some Jvm.ClassFile.FieldType.int), Jvm.Cond.code ({ cls := "com/example/clauseline/clauseline/model/Document", name := "textEnd", desc := "(I)I" } : Jvm.MethodName) prog_16_method_8_code (3 : Nat) (Option.some Jvm.ClassFile.FieldType.int), Jvm.Cond.code ({ cls := "com/example/clauseline/clauseline/model/Line", name := "<init>", desc := "([BII)V" } : Jvm.MethodName) prog_28_method_1_code (4 : Nat) (Option.none : Option Jvm.ClassFile.FieldType), Jvm.Cond.code ({ cls := "com/example/clauseline/clauseline/model/Line", name := "start", desc := "()I" } : Jvm.MethodName) prog_28_method_2_code (1 : Nat) (Option.some Jvm.ClassFile.FieldType.int), Jvm.Cond.code ({ cls := "com/example/clauseline/clauseline/model/Line", name := "end", desc := "()I" } : Jvm.MethodName) prog_28_method_3_code (1 : Nat) (Option.some Jvm.ClassFile.FieldType.int)]
set_option maxRecDepth 65536 in
theorem codes_eq : words1.filter isCode = codes1 := rfl
theorem w_codes : ∀ c ∈ words1.filter isCode, c.before args0 about1 = true := by
  rw [codes_eq]
  intro c hc
  simp only [codes1, List.mem_cons, List.not_mem_nil, or_false] at hc
  rcases hc with rfl | rfl | rfl | rfl | rfl | rfl | rfl | rfl | rfl | rfl | rfl | rfl | rfl | rfl | rfl | rfl | rfl | rfl | rfl | rfl | rfl | rfl
  · exact w_c0
  · exact w_c1
  · exact w_c2
  · exact w_c3
  · exact w_c4
  · exact w_c5
  · exact w_c6
  · exact w_c7
  · exact w_c8
  · exact w_c9
  · exact w_c10
  · exact w_c11
  · exact w_c12
  · exact w_c13
  · exact w_c14
  · exact w_c15
  · exact w_c16
  · exact w_c17
  · exact w_c18
  · exact w_c19
  · exact w_c20
  · exact w_c21
set_option maxRecDepth 65536 in
theorem w_t1 : (words1.take 24).all (fun c => isCode c || c.before args0 about1) = true := by decide +kernel
set_option maxRecDepth 65536 in
theorem w_t2 : ((words1.drop 24).take 24).all (fun c => isCode c || c.before args0 about1) = true := by decide +kernel
set_option maxRecDepth 65536 in
theorem w_t3 : (((words1.drop 24).drop 24).take 24).all (fun c => isCode c || c.before args0 about1) = true := by decide +kernel
set_option maxRecDepth 65536 in
theorem w_t4 : ((((words1.drop 24).drop 24).drop 24).take 24).all (fun c => isCode c || c.before args0 about1) = true := by decide +kernel
set_option maxRecDepth 65536 in
theorem w_t5 : (((((words1.drop 24).drop 24).drop 24).drop 24).take 24).all (fun c => isCode c || c.before args0 about1) = true := by decide +kernel
set_option maxRecDepth 65536 in
theorem w_t6 : (((((words1.drop 24).drop 24).drop 24).drop 24).drop 24).all (fun c => isCode c || c.before args0 about1) = true := by decide +kernel
theorem w_tables : (allAtoms (Jvm.Cond.code x code maxLocals ret :: tables_1)).before args0 about1 = true := by
  rw [allAtoms_all]
  show words1.all (fun c => c.before args0 about1) = true
  refine all_split ?_ w_codes
  rw [← List.take_append_drop 24 words1, List.all_append, w_t1, ← List.take_append_drop 24 (words1.drop 24), List.all_append, w_t2, ← List.take_append_drop 24 ((words1.drop 24).drop 24), List.all_append, w_t3, ← List.take_append_drop 24 (((words1.drop 24).drop 24).drop 24), List.all_append, w_t4, ← List.take_append_drop 24 ((((words1.drop 24).drop 24).drop 24).drop 24), List.all_append, w_t5, w_t6]
  rfl
set_option maxRecDepth 65536 in
theorem w_case : (Jvm.Cond.and given_1 narrow_1).before args0 about1 = true := by decide +kernel
theorem w_applies : (headSpec (Jvm.Cond.code x code maxLocals ret :: tables_1) room_1).applies x e0.platform about1 = true :=
  (Spec.applies_iff w_frames).mpr ⟨w_running, w_runnable, w_alone, w_named, w_hears, w_ripe, w_room, w_tables⟩
theorem atStart : AtStart classFile x code maxLocals ret World_1 tables_1 room_1 Calls_1 rest_1 Pre_1 launch0 p0 e0 about1 theMethod args0 below0 :=
  ⟨lists_1, trivial, launch0.admits_env _ _ _, launch0.least_env, fairChoices_fair.cas, fairChoices_fair.clock, w_frames, w_args, w_heap, w_applies, trivial, trivial, w_case⟩
end start1
theorem witness_1 : WitnessClaimed_1 := ⟨start1.p0, start1.e0, start1.about1, start1.theMethod, start1.args0, start1.below0, start1.atStart⟩
end Jvm.Pilot.@@N@@
