import JvmDerived
import JvmDerived.Pilot.@@N@@Statement
import JvmDerived.Pilot.@@N@@Code
set_option linter.unusedVariables false
set_option linter.unusedSimpArgs false

namespace Jvm.OwnW
open Sem ClassFile Op Lib Jvm.Stand Jvm.Free Jvm.LawKit Jvm.RoadKit
/-! THE LAYER: a walk's state is (cells, slots, what is known of the new cells, pc, locals, stack); 'Go' says that from there the body returns with Q. -/
abbrev Fds := List (String × String × String × Value)
abbrev Desc := (String × Fds) ⊕ (FieldType × List Value)
abbrev Mem := List (Addr × Desc)
abbrev Bdy := MethodName × ByteArray × Nat × Option FieldType × Room
abbrev ob (a : Addr) (C : String) (fs : Fds) : Addr × Desc := (a, .inl (C, fs))
abbrev ar (a : Addr) (ty : FieldType) (vs : List Value) : Addr × Desc := (a, .inr (ty, vs))
def Holds (Z : State) (a0 : Array Value) (h : Heap) (a : Addr) : Desc → Prop
  | .inl (C, fs) => Exa Z h a C ∧ (∀ f ∈ fs, Fld Z h a f.1 f.2.1 f.2.2.1 f.2.2.2 ∧ Laid Z a0 C f.1 f.2.1 f.2.2.1 ∧ ∃ ty, parseFieldDescriptor f.2.2.1 = some ty) ∧ (fs.map (·.2.1)).Nodup
  | .inr (ty, vs) => ∃ c : Cell, Arr Z h a c ty ∧ c.slots.toList = vs ∧ (∀ C, ty = .object C → Ovr Z c.cls C)
/-- an array of no element: it can't be written, so it may be an old one -/
def Emp : Desc → Prop
  | .inl _ => False
  | .inr (_, vs) => vs = []
def Mo (Z : State) (a0 : Array Value) (h0 : Heap) (ds : Mem) (h : Heap) : Prop :=
  Ext h0 h ∧ (∀ q ∈ ds, (h0.size ≤ q.1 ∨ Emp q.2) ∧ Holds Z a0 h q.1 q.2) ∧ ds.Pairwise (fun q r => q.1 ≠ r.1)
section Facts
variable {Z : State} {a0 : Array Value} {h h' h0 : Heap} {a b : Addr} {D D' : Desc} {ds : Mem} {i : Nat} {sl : Nat} {v : Value}
theorem Holds.lt (H : Holds Z a0 h a D) : a < h.size := by
  rcases D with ⟨C, fs⟩ | ⟨ty, vs⟩
  · exact H.1.lt
  · obtain ⟨c, A, -⟩ := H; exact A.lt
theorem Holds.ext (E : Ext h h') (H : Holds Z a0 h a D) : Holds Z a0 h' a D := by
  rcases D with ⟨C, fs⟩ | ⟨ty, vs⟩
  · exact ⟨H.1.ext E, fun f hf => ⟨(H.2.1 f hf).1.ext E, (H.2.1 f hf).2⟩, H.2.2⟩
  · obtain ⟨c, A, r⟩ := H; exact ⟨c, A.ext E, r⟩
theorem Holds.other (W : Wr h h' a sl v) (H : Holds Z a0 h b D) (q : b ≠ a) : Holds Z a0 h' b D := by
  rcases D with ⟨C, fs⟩ | ⟨ty, vs⟩
  · exact ⟨H.1.wr W, fun f hf => ⟨(H.2.1 f hf).1.other W (Or.inl q), (H.2.1 f hf).2⟩, H.2.2⟩
  · obtain ⟨c, A, r⟩ := H; exact ⟨c, A.other W q, r⟩
theorem Holds.frame {as : List Addr} (K : ∀ (x : Addr) (c : Cell), h[x]? = some c → x ∉ as → h'[x]? = some c) (q : a ∉ as) (H : Holds Z a0 h a D) : Holds Z a0 h' a D := by
  rcases D with ⟨C, fs⟩ | ⟨ty, vs⟩
  · obtain ⟨⟨cell, k, h1, r⟩, F, nd⟩ := H
    refine ⟨⟨cell, k, K _ _ h1 q, r⟩, fun f hf => ?_, nd⟩
    obtain ⟨⟨cell, cf, k, i, f', g1, g⟩, L⟩ := F f hf
    exact ⟨⟨cell, cf, k, i, f', K _ _ g1 q, g⟩, L⟩
  · obtain ⟨c, A, r⟩ := H; exact ⟨c, ⟨K _ _ A.1 q, A.2⟩, r⟩
theorem Ext.refl (h : Heap) : Ext h h := ⟨Nat.le_refl _, fun _ _ q => q⟩
theorem Ext.trans {h1 h2 h3 : Heap} (E : Ext h1 h2) (F : Ext h2 h3) : Ext h1 h3 := ⟨Nat.le_trans E.1 F.1, fun x c q => F.2 x c (E.2 x c q)⟩
theorem Mo.start (Z : State) (a0 : Array Value) (h : Heap) : Mo Z a0 h [] h := ⟨Ext.refl h, fun _ q => (nomatch q), List.Pairwise.nil⟩
theorem Mo.ext (M : Mo Z a0 h0 ds h) (E : Ext h h') : Mo Z a0 h0 ds h' := ⟨Ext.trans M.1 E, fun q hq => ⟨(M.2.1 q hq).1, (M.2.1 q hq).2.ext E⟩, M.2.2⟩
theorem Mo.add (M : Mo Z a0 h0 ds h) (E : Ext h h') (H : Holds Z a0 h' h.size D) : Mo Z a0 h0 (ds ++ [(h.size, D)]) h' := by
  have M' := M.ext E
  refine ⟨M'.1, fun q hq => ?_, List.pairwise_append.mpr ⟨M.2.2, List.pairwise_singleton _ _, fun q hq r hr => ?_⟩⟩
  · rcases List.mem_append.mp hq with hq | hq
    · exact M'.2.1 q hq
    · cases List.mem_singleton.mp hq; exact ⟨Or.inl M.1.1, H⟩
  · cases List.mem_singleton.mp hr
    exact Nat.ne_of_lt (M.2.1 q hq).2.lt
theorem Mo.at (M : Mo Z a0 h0 ds h) (hi : ds[i]? = some (a, D)) : Holds Z a0 h a D := (M.2.1 _ (List.mem_of_getElem? hi)).2
theorem Mo.new (M : Mo Z a0 h0 ds h) (hi : ds[i]? = some (a, D)) (hn : ¬ Emp D) : h0.size ≤ a := (M.2.1 _ (List.mem_of_getElem? hi)).1.resolve_right hn
theorem nemp {ty : FieldType} {vs : List Value} {j : Nat} (hl : j < vs.length) : ¬ Emp (.inr (ty, vs)) := fun q => by rw [show vs = [] from q] at hl; cases hl
theorem Mo.ne (M : Mo Z a0 h0 ds h) {j : Nat} (hi : ds[i]? = some (a, D)) (hj : ds[j]? = some (b, D')) (q : i ≠ j) : a ≠ b := by
  obtain ⟨li, ei⟩ := List.getElem?_eq_some_iff.mp hi
  obtain ⟨lj, ej⟩ := List.getElem?_eq_some_iff.mp hj
  have P := List.pairwise_iff_getElem.mp M.2.2
  rcases Nat.lt_or_gt_of_ne q with q | q
  · have := P i j li lj q; rw [ei, ej] at this; exact this
  · have := P j i lj li q; rw [ei, ej] at this; exact this.symm
theorem Mo.exa {C : String} {fs : Fds} (hi : ds[i]? = some (a, .inl (C, fs))) : ∀ h, Mo Z a0 h0 ds h → Exa Z h a C := fun h M => (M.at hi).1
theorem Mo.wr (M : Mo Z a0 h0 ds h) (hi : ds[i]? = some (a, D)) (hn : ¬ Emp D) (W : Wr h h' a sl v) (H : Holds Z a0 h' a D') : Mo Z a0 h0 (ds.set i (a, D')) h' := by
  have n0 := M.new hi hn
  refine ⟨⟨by rw [W.size]; exact M.1.1, fun x c q => ?_⟩, fun q hq => ?_, ?_⟩
  · obtain ⟨c', e1, -, -, -, e5, -⟩ := wr_at W (M.1.2 x c q)
    rw [← e5 (Nat.ne_of_lt (Nat.lt_of_lt_of_le (Array.getElem?_eq_some_iff.mp q).1 n0))]; exact e1
  · obtain ⟨j, hj⟩ := List.getElem?_of_mem hq
    by_cases e : i = j
    · subst e
      rw [List.getElem?_set_self (List.getElem?_eq_some_iff.mp hi).1] at hj
      cases hj; exact ⟨Or.inl n0, H⟩
    · rw [List.getElem?_set_ne e] at hj
      exact ⟨(M.2.1 _ (List.mem_of_getElem? hj)).1, (M.at hj).other W (M.ne hj hi (Ne.symm e))⟩
  · refine List.pairwise_iff_getElem.mpr fun j j' l1 l2 q => ?_
    rw [List.length_set] at l1 l2
    have P := List.pairwise_iff_getElem.mp M.2.2 j j' l1 l2 q
    obtain ⟨li, ei⟩ := List.getElem?_eq_some_iff.mp hi
    rw [List.getElem_set, List.getElem_set]
    split
    · rename_i e; subst e
      rw [if_neg (Nat.ne_of_lt q)]
      rw [ei] at P; exact P
    · split
      · rename_i e; subst e; rw [ei] at P; exact P
      · exact P
/-- what has been touched since hs: of its cells at most those in 'as' -/
def Tr (hs : Heap) (as : List Addr) (ds : Mem) (h : Heap) : Prop :=
  hs.size ≤ h.size ∧ (∀ (x : Addr) (c : Cell), hs[x]? = some c → x ∉ as → h[x]? = some c) ∧ ∀ q ∈ ds, q.1 ∈ as ∨ hs.size ≤ q.1
theorem Tr.start (h : Heap) (ds : Mem) : Tr h (ds.map (·.1)) ds h := ⟨Nat.le_refl _, fun _ _ q _ => q, fun q hq => Or.inl (List.mem_map.mpr ⟨q, hq, rfl⟩)⟩
section Trs
variable {hs : Heap} {as : List Addr}
theorem Tr.ext (R : Tr hs as ds h) (E : Ext h h') : Tr hs as ds h' := ⟨Nat.le_trans R.1 E.1, fun x c q r => E.2 x c (R.2.1 x c q r), R.2.2⟩
theorem Tr.add (R : Tr hs as ds h) (E : Ext h h') : Tr hs as (ds ++ [(h.size, D)]) h' := ⟨Nat.le_trans R.1 E.1, fun x c q r => E.2 x c (R.2.1 x c q r), fun q hq => by
  rcases List.mem_append.mp hq with hq | hq
  · exact R.2.2 q hq
  · cases List.mem_singleton.mp hq; exact Or.inr R.1⟩
theorem Tr.out (R : Tr hs as ds h) {q : Addr × Desc} (hq : q ∈ ds) {x : Addr} {c : Cell} (hx : hs[x]? = some c) (hn : x ∉ as) : x ≠ q.1 := fun e => by
  rcases R.2.2 q hq with r | r
  · exact hn (e ▸ r)
  · exact absurd (Array.getElem?_eq_some_iff.mp hx).1 (Nat.not_lt.mpr (e ▸ r))
theorem Tr.wr (R : Tr hs as ds h) (hi : ds[i]? = some (a, D)) (W : Wr h h' a sl v) : Tr hs as (ds.set i (a, D')) h' := by
  refine ⟨by rw [W.size]; exact R.1, fun x c q r => ?_, fun q hq => ?_⟩
  · obtain ⟨c', e1, -, -, -, e5, -⟩ := wr_at W (R.2.1 x c q r)
    rw [← e5 (R.out (List.mem_of_getElem? hi) q r)]; exact e1
  · obtain ⟨j, hj⟩ := List.getElem?_of_mem hq
    by_cases e : i = j
    · subst e
      rw [List.getElem?_set_self (List.getElem?_eq_some_iff.mp hi).1] at hj
      cases hj; exact R.2.2 (a, D) (List.mem_of_getElem? hi)
    · rw [List.getElem?_set_ne e] at hj; exact R.2.2 _ (List.mem_of_getElem? hj)
theorem Tr.call {ds' : Mem} (R : Tr hs as ds h) (R' : Tr h (ds.map (·.1)) ds' h') : Tr hs as ds' h' := by
  refine ⟨Nat.le_trans R.1 R'.1, fun x c q r => R'.2.1 x c (R.2.1 x c q r) fun m => ?_, fun q hq => ?_⟩
  · obtain ⟨e, he, rfl⟩ := List.mem_map.mp m; exact R.out he q r rfl
  · rcases R'.2.2 q hq with m | m
    · obtain ⟨e, he, e2⟩ := List.mem_map.mp m; rw [← e2]; exact R.2.2 e he
    · exact Or.inr (Nat.le_trans R.1 m)
end Trs
end Facts
def LaidL (Z : State) (a0 : Array Value) (C : String) : Fds → Prop
  | [] => True
  | f :: r => (Laid Z a0 C f.1 f.2.1 f.2.2.1 ∧ ∃ ty, parseFieldDescriptor f.2.2.1 = some ty ∧ defaultValue ty = f.2.2.2) ∧ LaidL Z a0 C r
theorem LaidL.mem {Z : State} {a0 : Array Value} {C : String} : ∀ {fs : Fds}, LaidL Z a0 C fs → ∀ f ∈ fs, Laid Z a0 C f.1 f.2.1 f.2.2.1 ∧ ∃ ty, parseFieldDescriptor f.2.2.1 = some ty ∧ defaultValue ty = f.2.2.2
  | [], _, _, hf => (nomatch hf)
  | g :: r, H, f, hf => by
    rcases List.mem_cons.mp hf with rfl | hf
    · exact H.1
    · exact LaidL.mem H.2 f hf
theorem wd {ws : List Jvm.Cond} {a0 : Array Value} {Z : State} (hw : ∀ d ∈ ws, d.before a0 Z = true) (i : Nat) {d : Jvm.Cond} (h : ws[i]? = some d) : d.before a0 Z = true := hw d (List.mem_of_getElem? h)
def Cx (B : Bdy) (Z : State) (p : Program) (s : State) (m : MethodId) (meth : Method) (c : Code) : Prop :=
  p.tables.exec = Jvm.exec ∧ Z.Warmed39 s.vm ∧ c.code = B.2.1 ∧ c.maxLocals = B.2.2.1 ∧ s.vm.findClass B.1.cls = some m.cls ∧ meth.sig.returnType = B.2.2.2.1 ∧ meth.locks = false ∧ meth.name = B.1.name
def Ends (B : Bdy) (Z : State) (a0 : Array Value) (h0 : Heap) (hs : Heap) (as : List Addr) (Q : Option Value → Mem → Prop) (p : Program) (e : Env) (below : List Frame) (s u : State) : Prop :=
  ∃ s₂ v L ds, Steps p.tables e below u s₂ ∧ s₂.status = .running ∧ Ended s₂ below (.returned v) ∧ Mo Z a0 h0 ds s₂.heap ∧ Tr hs as ds s₂.heap ∧ Q v ds ∧ Fr h0.size L ∧ FrameEnd s (.returned v) s₂ L B.2.2.2.2.cells B.2.2.2.2.slots
def Go (B : Bdy) (Z : State) (a0 : Array Value) (h0 : Heap) (Q : Option Value → Mem → Prop) (k n : Nat) (ds : Mem) (pc : Nat) (ls : Array Slot) (st : List Value) : Prop :=
  ∀ (p : Program) (l : Launch) (e : Env) (s : State) (m : MethodId) (args : Array Value) (below : List Frame) (meth : Method) (c : Code) (T : State) (locs : List Loc) (hs : Heap) (as : List Addr),
    Cx B Z p s m meth c → Stand p l e B.2.2.2.2 s m args below meth c T locs k n → Fr h0.size locs → Mo Z a0 h0 ds T.heap → Tr hs as ds T.heap → Ends B Z a0 h0 hs as Q p e below s (T.setTop (mkF m pc ls st))
/-- a callee's answer: this value, this memory -/
def Ret (v0 : Option Value) (ds0 : Mem) (v : Option Value) (ds : Mem) : Prop := v = v0 ∧ ds0 = ds
/-- a yes or no, the memory as it was -/
def Qz (P : Prop) (ds0 : Mem) (v : Option Value) (ds : Mem) : Prop := ∃ z : Int32, v = some (.int z) ∧ ds0 = ds ∧ (z.toInt = 1 ∧ P ∨ z.toInt = 0 ∧ ¬ P)
def MQ (Z : State) (a0 : Array Value) (h0 h : Heap) (as : List Addr) (Q : Option Value → Mem → Prop) (v : Option Value) (h' : Heap) (L : List Loc) : Prop := Fr h0.size L ∧ ∃ ds', Mo Z a0 h0 ds' h' ∧ Tr h as ds' h' ∧ Q v ds'
def Met (B : Bdy) (Z : State) (a0 : Array Value) (h0 : Heap) (as : Array Value) (ds : Mem) (Q : Option Value → Mem → Prop) : Prop :=
  ∀ (l : Launch) (ws : List Jvm.Cond) (h : Heap), Mo Z a0 h0 ds h → MetFree l B.1 (head1 (Jvm.Cond.code B.1 B.2.1 B.2.2.1 B.2.2.2.1 :: ws) B.2.2.2.2) (fun a U => a = as ∧ Z.Warmed39 U.vm ∧ U.heap = h) (fun _ _ _ _ _ => True)
    (fun _ U o U' => ∃ v L, o = .returned v ∧ MQ Z a0 h0 h (ds.map (·.1)) Q v U'.heap L ∧ FrameEnd U o U' L B.2.2.2.2.cells B.2.2.2.2.slots)
section Start
variable {args : Array Value} {s : State} {t : Term}
theorem eqI_v {k : Int32} {idx : List Nat} (h : (Jvm.Cond.eq t (.int k)).value args s none s idx = some true) : t.eval args s none idx s = some (.int k) := by
  have e : (Term.int k).eval args s none idx s = some (.int k) := rfl
  simp only [Cond.value, e] at h
  cases ht : t.eval args s none idx s with
  | none => simp [ht] at h
  | some x => cases x <;> simp [ht] at h ⊢; exact h
theorem eqJ_v {k : Int64} {idx : List Nat} (h : (Jvm.Cond.eq t (.long k)).value args s none s idx = some true) : t.eval args s none idx s = some (.long k) := by
  have e : (Term.long k).eval args s none idx s = some (.long k) := rfl
  simp only [Cond.value, e] at h
  cases ht : t.eval args s none idx s with
  | none => simp [ht] at h
  | some x => cases x <;> simp [ht] at h ⊢; exact h
theorem elem_ix {a : Addr} {cl : Cell} {i : Nat} (ev : ∀ idx, t.eval args s none idx s = some (.ref a)) (ha : s.arrayAt? a = some cl) (hi : i < 2 ^ 31) : (Term.elem t (.index 0)).eval args s none [i] s = cl.slots[i]? := by
  have q : i.toInt32.toInt = i := len_toInt hi
  have q2 : i.toInt32.toNatClampNeg = i := by simp only [Int32.toNatClampNeg, q]; rfl
  rw [elem_f (ev _) (j := i.toInt32) rfl ha (by rw [Int32.lt_iff_toInt_lt, q]; exact Int.not_lt.mpr (Int.natCast_nonneg i)), q2]
theorem eq_ix {a : Addr} {cl : Cell} {i : Nat} {v : Int32} (ev : ∀ idx, t.eval args s none idx s = some (.ref a)) (ha : s.arrayAt? a = some cl) (hi : i < 2 ^ 31) (h : (Jvm.Cond.eq (.elem t (.index 0)) (.int v)).value args s none s [i] = some true) : cl.slots[i]? = some (.int v) :=
  (elem_ix ev ha hi).symm.trans (eqI_v h)
theorem or_ix {G X : Jvm.Cond} {P : Prop} [Decidable P] {i : Nat} (h : (Jvm.Cond.or G X).value args s none s [i] = some true) (hG : G.value args s none s [i] = some (decide P)) (hp : ¬ P) : X.value args s none s [i] = some true := by
  rwa [Cond.or_of_right (nay hG hp)] at h
theorem le_ix {i : Nat} {k : Int32} : (Jvm.Cond.le (.int k) (.index 0)).value args s none s [i] = some (decide (k ≤ i.toInt32)) := by simp [Cond.value, Term.eval]
theorem lt_ix {i : Nat} {k : Int32} : (Jvm.Cond.lt (.index 0) (.int k)).value args s none s [i] = some (decide (i.toInt32 < k)) := by simp [Cond.value, Term.eval]
theorem one_ix {a : Addr} {cl : Cell} {k v : Int32} {i : Nat} (ev : t.eval args s none [] s = some (.ref a)) (hc : s.heap[a]? = some cl) (hi : k.toNatClampNeg = i) (h : (Jvm.Cond.eq (.elem t (.int k)) (.int v)).value args s none s [] = some true) : cl.slots[i]? = some (.int v) := by
  have q := (elem_in (eqI_v h) ev rfl hc).2
  rwa [hi] at q
theorem oneJ_ix {a : Addr} {cl : Cell} {k : Int32} {v : Int64} {i : Nat} (ev : t.eval args s none [] s = some (.ref a)) (hc : s.heap[a]? = some cl) (hi : k.toNatClampNeg = i) (h : (Jvm.Cond.eq (.elem t (.int k)) (.long v)).value args s none s [] = some true) : cl.slots[i]? = some (.long v) := by
  have q := (elem_in (eqJ_v h) ev rfl hc).2
  rwa [hi] at q
theorem len_ix {a : Addr} {cl : Cell} {k : Int32} (ev : t.eval args s none [] s = some (.ref a)) (ha : s.arrayAt? a = some cl) (hk : ¬ k < 0) (h : (Jvm.Cond.eq (.length t) (.int k)).value args s none s [] = some true) : cl.slots.size = k.toNatClampNeg ∧ cl.slots.size < 2 ^ 31 := by
  have q := eqI_v h
  simp only [Term.eval, ev, ha, Option.bind_eq_bind, Option.bind_some] at q
  split at q
  · rename_i hl
    have e : cl.slots.size.toInt32 = k := by simpa using q
    have l : cl.slots.size < 2 ^ 31 := by simpa using hl
    refine ⟨?_, l⟩
    rw [← e]; simp only [Int32.toNatClampNeg, len_toInt l]; rfl
  · simp at q
end Start
theorem cat1 {v : Value} (h : v.isRef = true) : v.category = 1 := by rcases ref_cases h with rfl | ⟨x, rfl⟩ <;> rfl
theorem mvR {Z s : State} {a0 args : Array Value} {cls : String} {idx : Nat} {y : MethodName} (hZ : Z.Warmed39 s.vm) (hy : y.cls ≠ "java/lang/invoke/MethodHandle" ∧ y.cls ≠ "java/lang/invoke/VarHandle") (wi : (Jvm.Cond.instanceMethod y).before a0 Z = true) (w : (Jvm.Cond.methodRef cls idx y).before a0 Z = true) : (Jvm.Cond.methodRef cls idx y).before args s = true := by
  obtain ⟨obj, methO, hnO, -⟩ := Jvm.Cond.instanceMethod_spec wi
  have h := Jvm.Cond.methodRef_warmed39 hZ hnO hy w
  have e : (Jvm.Cond.methodRef cls idx y).before a0 (Z.setVm s.vm) = (Jvm.Cond.methodRef cls idx y).before args (s.setVm s.vm) := rfl
  exact e.symm.trans h
theorem initRefArgs {tb : Tables} [Ours tb] {e : Env} {below : List Frame} {s U : State} {mm : MethodId} {cc : Code} (h : At U mm cc below) (hexec : tb.exec = Jvm.exec) (hW : s.WarmedH U.vm)
    {own : String} (hown : s.vm.findClass own = some mm.cls) {idx : Nat} {t : MethodName} (ht1 : t.name = "<init>")
    (hnot : t.cls ≠ "java/lang/invoke/MethodHandle" ∧ t.cls ≠ "java/lang/invoke/VarHandle") {args : Array Value} {bytes : ByteArray} {maxL : Nat}
    (href : (Jvm.Cond.methodRef own idx t).before args s = true) (hinst : (Jvm.Cond.instanceMethod t).before args s = true) (hcode : (Jvm.Cond.code t bytes maxL none).before args s = true)
    {f : JFrame} (hf : f.method = mm) {a : Addr} {argsL rest : List Value} (hlen : ∀ sig, parseMethodDescriptor t.desc = some sig → argsL.length = sig.parameters.length) (hstack : f.stack = argsL.reverse ++ .ref a :: rest) (hd : decode cc.code f.pc = .ok (.invokespecial idx, 3)) :
    ∃ tm, s.methodNamed? t = some tm ∧ ∀ target, (∀ acts, Steps tb e below (doInvoke e (U.setTop { f with stack := rest }) acts tm (.ref a :: argsL).toArray).1 target) → Steps tb e below (U.setTop f) target := by
  subst hf
  obtain ⟨obj, methO, hnO, hmO, hstO, habO⟩ := Jvm.Cond.instanceMethod_spec hinst
  obtain ⟨methO', cO, hmO', hcO, hbO, hlO, -, hlockO, -, hsigO⟩ := Jvm.Cond.code_spec hnO hcode
  cases hmO.symm.trans hmO'
  obtain ⟨kO, hkO, hnameO⟩ := className_of_methodNamed hnO
  obtain ⟨hnameMO, hdescO⟩ := name_of_methodNamed hnO hmO
  have hr2 := Jvm.Cond.methodRef_warmed hW hnO hnot href
  have hown2 : (s.setVm U.vm).vm.findClass own = some f.method.cls := by show U.vm.findClass own = _; rw [hW.alike.findClass]; exact hown
  obtain ⟨m2, c2, hf2, hready, hfind2, hnamed⟩ := Jvm.Cond.methodRef_named e hown2 hr2
  have hf3 : (s.setVm U.vm).methodFound? t.cls t.name t.desc = s.methodFound? t.cls t.name t.desc := State.methodFound?_setVm_of_named hW.alike hnO hnot
  cases ((State.methodFound?_of_named hnO hnot).symm.trans hf3.symm).trans hf2
  have hc2 : c2 = obj.cls := by
    have q : U.vm.findClass t.cls = some c2 := hfind2
    rw [hW.alike.findClass, findClass_of_methodNamed hnO] at q
    exact (Option.some.inj q).symm
  subst hc2
  obtain ⟨kO₂, hkO₂, heO₂⟩ := hW.alike.2.2 _ _ hkO
  have hmO₂ : U.vm.method? obj = some methO := by rw [hW.alike.method?]; exact hmO
  have hfound : lookupSpecial U.vm obj.cls "<init>" methO.desc = .method obj := by
    rw [hW.alike.lookupSpecial, hdescO, ← ht1]; exact lookupSpecial_of_named hnO hmO hstO
  refine ⟨obj, hnO, fun target hrest => ?_⟩
  jvm_step h [hexec, hd, 
    invokespecial.wp_init (e := e) (s := U) (k := kO₂) (meth := methO) (m := obj) (a := a) (args := argsL) (rest := rest) (f := f)
      h.top hnamed hready hkO₂ hmO₂ (by rw [hnameMO]; exact ht1) hstO habO hfound (hlen _ hsigO) hstack]
  exact hrest
theorem specialBackR {p : Program} {l : Launch} {e : Env} {R : Room} {s : State} {m : MethodId} {args : Array Value} {below : List Frame} {meth : Method} {c : Code} {T : State} {locs : List Loc} {cells slots : Nat} (X : Stand p l e R s m args below meth c T locs cells slots) (hexec : p.tables.exec = Jvm.exec) {own : String} {index : Nat} {y : MethodName} (hy1 : y.name = "<init>")
    (hown : s.vm.findClass own = some m.cls) (hlink : (Jvm.Cond.methodRef own index y).before args s = true) (hinst : (Jvm.Cond.instanceMethod y).before args s = true)
    {bytes : ByteArray} {maxL : Nat} (hcode : (Jvm.Cond.code y bytes maxL none).before args s = true)
    (hy : y.cls ≠ "java/lang/invoke/MethodHandle" ∧ y.cls ≠ "java/lang/invoke/VarHandle")
    {W : Nat} {Pre : Pt → Array Value → Prop} {Post : Pt → Array Value → Option Value → Pt → Prop} (hK : Back l R p e below s args y 3 W Pre Post)
    {g : JFrame} (hg : g.method = m) (hsize : g.locals.size = c.maxLocals) {s₀ : State} (hcome : Steps p.tables e below s₀ (T.setTop g)) {a : Addr} {argsL rest : List Value}
    (hlen : ∀ sig, parseMethodDescriptor y.desc = some sig → argsL.length = sig.parameters.length) (hstack : g.stack = argsL.reverse ++ .ref a :: rest) (hW : 2 * g.monitorRoom + (rest.map fun v => v.category).sum ≤ W)
    (hdg : decode c.code g.pc = .ok (.invokespecial index, 3)) (hpre : ∀ vm₁, s.WarmedH vm₁ → Pre ⟨T.setVm vm₁, locs, cells, slots⟩ (.ref a :: argsL).toArray) :
    ∃ (v : Option Value) (vm₁ : Vm) (B : Pt), s.WarmedH vm₁ ∧ Stand p l e R s m args below meth c B.U B.locs B.cells B.slots ∧ Post ⟨T.setVm vm₁, locs, cells, slots⟩ (.ref a :: argsL).toArray v B ∧
      Steps p.tables e below s₀ (B.U.setTop { g with pc := g.pc + 3, stack := v.toList ++ rest }) := by
  obtain ⟨mk, hnamed, hstep₁⟩ := initRefArgs (e := e) X.here hexec X.warmed hown hy1 hy hlink hinst hcode (f := g) hg hlen hstack hdg
  obtain ⟨v, B, X', hpost, hsteps⟩ := hK m meth c ⟨T.setVm T.vm, locs, cells, slots⟩ { g with stack := rest } (.invokespecial index) mk (.ref a :: argsL).toArray X hg hsize hdg hW (X.named hnamed) (hpre T.vm X.warmed)
  exact ⟨v, T.vm, B, X.warmed, X', hpost, (hcome.trans (hstep₁ _ fun acts => by rw [doInvoke_state]; exact Steps.refl _)).trans hsteps⟩
section Core
variable {B : Bdy} {Z : State} {a0 : Array Value} {h0 : Heap} {Q : Option Value → Mem → Prop} {k n : Nat} {ds : Mem} {pc : Nat} {ls : Array Slot} {st : List Value}
theorem Ends.back {hs : Heap} {as : List Addr} {p : Program} {e : Env} {below : List Frame} {s u u' : State} (F : Ends B Z a0 h0 hs as Q p e below s u') (hst : ∀ t, Steps p.tables e below u' t → Steps p.tables e below u t) : Ends B Z a0 h0 hs as Q p e below s u := by
  obtain ⟨s₂, v, L, ds, h1, r⟩ := F; exact ⟨s₂, v, L, ds, hst _ h1, r⟩
theorem Go.step {pc' : Nat} {ls' : Array Slot} {st' : List Value} (H : Go B Z a0 h0 Q k n ds pc' ls' st')
    (hs : ∀ {p : Program} {l : Launch} {e : Env} {s : State} {m : MethodId} {args : Array Value} {below : List Frame} {meth : Method} {c : Code} {T : State} {locs : List Loc}, Cx B Z p s m meth c → Stand p l e B.2.2.2.2 s m args below meth c T locs k n → Mo Z a0 h0 ds T.heap → ∀ t, Steps p.tables e below (T.setTop (mkF m pc' ls' st')) t → Steps p.tables e below (T.setTop (mkF m pc ls st)) t) :
    Go B Z a0 h0 Q k n ds pc ls st := fun p l e s m args below meth c T locs h1 as C X N M R => (H p l e s m args below meth c T locs h1 as C X N M R).back (hs C X M)
theorem Go.mono {Q' : Option Value → Mem → Prop} (H : Go B Z a0 h0 Q k n ds pc ls st) (hq : ∀ v ds', Q v ds' → Q' v ds') : Go B Z a0 h0 Q' k n ds pc ls st := fun p l e s m args below meth c T locs hs as C X N M R => by
  obtain ⟨s₂, v, L, ds', h1, h2, h3, h4, h4', h5, r⟩ := H p l e s m args below meth c T locs hs as C X N M R
  exact ⟨s₂, v, L, ds', h1, h2, h3, h4, h4', hq _ _ h5, r⟩
/-- what holds of every heap that the memory describes may be used -/
theorem Go.know {P : Prop} (hP : ∀ h, Mo Z a0 h0 ds h → P) (H : P → Go B Z a0 h0 Q k n ds pc ls st) : Go B Z a0 h0 Q k n ds pc ls st := fun p l e s m args below meth c T locs hs as C X N M R => H (hP _ M) p l e s m args below meth c T locs hs as C X N M R
theorem Go.more {k' n' : Nat} (H : Go B Z a0 h0 Q k' n' ds pc ls st) (hk : k ≤ k') (hn : n ≤ n') : Go B Z a0 h0 Q k n ds pc ls st := fun p l e s m args below meth c T locs hs as C X N M R => H p l e s m args below meth c T locs hs as C (X.more hk hn) N M R
theorem Go.sub {ds' : Mem} (hs : List.Sublist ds' ds) (H : Go B Z a0 h0 Q k n ds' pc ls st) : Go B Z a0 h0 Q k n ds pc ls st := fun p l e s m args below meth c T locs h1 as C X N M R =>
  H p l e s m args below meth c T locs h1 as C X N ⟨M.1, fun q hq => M.2.1 q (hs.subset hq), M.2.2.sublist hs⟩ ⟨R.1, R.2.1, fun q hq => R.2.2 q (hs.subset hq)⟩
theorem Mo.perm {ds' : Mem} {h : Heap} (hp : List.Perm ds' ds) (M : Mo Z a0 h0 ds h) : Mo Z a0 h0 ds' h := ⟨M.1, fun q hq => M.2.1 q (hp.mem_iff.mp hq), (hp.pairwise_iff (fun {a b} q => Ne.symm q)).mpr M.2.2⟩
theorem Go.perm {ds' : Mem} (hp : List.Perm ds' ds) (H : Go B Z a0 h0 Q k n ds' pc ls st) : Go B Z a0 h0 Q k n ds pc ls st := fun p l e s m args below meth c T locs hs as C X N M R =>
  H p l e s m args below meth c T locs hs as C X N (M.perm hp) ⟨R.1, R.2.1, fun q hq => R.2.2 q (hp.mem_iff.mp hq)⟩
/-- entry i to the front -/
theorem Go.front (i : Nat) (hi : i < ds.length) (H : Go B Z a0 h0 Q k n (ds[i] :: ds.eraseIdx i) pc ls st) : Go B Z a0 h0 Q k n ds pc ls st := Go.perm (by
  have e : ds = ds.take i ++ ds[i] :: ds.drop (i + 1) := by rw [List.getElem_cons_drop, List.take_append_drop]
  rw [List.eraseIdx_eq_take_drop_succ]
  exact (List.perm_middle.symm).trans (by rw [← e])) H
theorem Met.of {as : Array Value} (hp : plainFor B.1 = true) (he : ∀ m, entryFrame m as B.2.2.1 = mkF m 0 ls []) (H : Go B Z a0 h0 Q 0 0 ds 0 ls []) : Met B Z a0 h0 as ds Q := by
  intro l ws h M
  refine MetFree.of_bodySF hp hisR ?_
  intro p e s m args below meth c s₁ Bd hml hP _
  obtain ⟨rfl, hZ, hh⟩ := hP
  have hown : s.vm.findClass B.1.cls = some m.cls := findClass_of_methodNamed Bd.named
  have hnm := (name_of_methodNamed Bd.named Bd.method).1
  have e0 : s₁.heap = h := by rw [← hh, Bd.state]; rfl
  obtain ⟨s₂, v, L, ds', h1, h2, h3, h4, h4', h5, h6, h7⟩ := H p l e s m args below meth c s₁ [] h (ds.map (·.1)) ⟨Bd.exec, hZ, Bd.bytes, hml, hown, Bd.returns, Bd.notSynchronized, hnm⟩ (Stand.of_body Bd) (Fr.nil _) (by rw [e0]; exact M) (by rw [e0]; exact Tr.start h ds)
  exact ⟨s₂, _, castTop (he m) h1, h2, h3, v, L, rfl, ⟨h6, ds', h4, h4', h5⟩, h7⟩
theorem Met.mono {as : Array Value} {Q' : Option Value → Mem → Prop} (H : Met B Z a0 h0 as ds Q) (hq : ∀ v ds', Q v ds' → Q' v ds') : Met B Z a0 h0 as ds Q' := by
  intro l ws h M p e h1 h2 h3 s m args below h4 h5 h6 h7
  obtain ⟨n, o, g1, g2, g3, v, L, g4, ⟨g5, ds', g6, g6', g7⟩, g8⟩ := H l ws h M p e h1 h2 h3 s m args below h4 h5 h6 h7
  exact ⟨n, o, g1, g2, g3, v, L, g4, ⟨g5, ds', g6, g6', hq _ _ g7⟩, g8⟩
/-- the frame rule: what the callee doesn't know it leaves as it is -/
theorem Met.frame {as : Array Value} (rest : Mem) (H : Met B Z a0 h0 as ds Q) : Met B Z a0 h0 as (ds ++ rest) (fun v D => ∃ ds', Q v ds' ∧ D = ds' ++ rest) := by
  intro l ws h M p e h1 h2 h3 s m args below h4 h5 h6 h7
  have M1 : Mo Z a0 h0 ds h := ⟨M.1, fun q hq => M.2.1 q (List.mem_append_left _ hq), (List.pairwise_append.mp M.2.2).1⟩
  obtain ⟨n, o, g1, g2, g3, v, L, g4, ⟨g5, ds', g6, g6', g7⟩, g8⟩ := H l ws h M1 p e h1 h2 h3 s m args below h4 h5 h6 h7
  have nin : ∀ q ∈ rest, q.1 ∉ ds.map (·.1) := fun q hq m => by
    obtain ⟨r, hr, e⟩ := List.mem_map.mp m
    exact (List.pairwise_append.mp M.2.2).2.2 r hr q hq e
  refine ⟨n, o, g1, g2, g3, v, L, g4, ⟨g5, ds' ++ rest, ⟨g6.1, fun q hq => ?_, List.pairwise_append.mpr ⟨g6.2.2, (List.pairwise_append.mp M.2.2).2.1, fun q hq r hr => ?_⟩⟩, ⟨g6'.1, fun x c q r => g6'.2.1 x c q fun m => r ?_, fun q hq => ?_⟩, ds', g7, rfl⟩, g8⟩
  · rcases List.mem_append.mp hq with hq | hq
    · exact g6.2.1 q hq
    · obtain ⟨m1, m2⟩ := M.2.1 q (List.mem_append_right _ hq)
      exact ⟨m1, m2.frame g6'.2.1 (nin q hq)⟩
  · intro e
    rcases g6'.2.2 q hq with m | m
    · exact nin r hr (e ▸ m)
    · exact absurd (M.2.1 r (List.mem_append_right _ hr)).2.lt (Nat.not_lt.mpr (e ▸ m))
  · rw [List.map_append]; exact List.mem_append_left _ m
  · rcases List.mem_append.mp hq with hq | hq
    · rcases g6'.2.2 q hq with m | m
      · exact Or.inl (by rw [List.map_append]; exact List.mem_append_left _ m)
      · exact Or.inr m
    · exact Or.inl (List.mem_map.mpr ⟨q, List.mem_append_right _ hq, rfl⟩)
theorem Met.know {as : Array Value} {P : Prop} (hP : ∀ h, Mo Z a0 h0 ds h → P) (H : P → Met B Z a0 h0 as ds Q) : Met B Z a0 h0 as ds Q := fun l ws h M => H (hP h M) l ws h M
/-! the returns -/
theorem go_end {v : Option Value} (hk : k ≤ B.2.2.2.2.cells) (hn : n ≤ B.2.2.2.2.slots) (hv : B.2.2.2.1 = none → v = none) (HQ : Q v ds)
    (hs : ∀ {p : Program} {l : Launch} {e : Env} {s : State} {m : MethodId} {args : Array Value} {below : List Frame} {meth : Method} {c : Code} {T : State} {locs : List Loc}, Cx B Z p s m meth c → Stand p l e B.2.2.2.2 s m args below meth c T locs k n → ∀ {fs : List Frame}, (∀ (f : JFrame) (acts : List Action), f.method = m → f.locked = none → f.entered = [] → (doReturn e (T.setTop f) acts v).1 = T.setFrames fs) → Steps p.tables e below (T.setTop (mkF m pc ls st)) (T.setFrames fs)) :
    Go B Z a0 h0 Q k n ds pc ls st := by
  intro p l e s m args below meth c T locs h1 as C X N M R
  obtain ⟨fs, hr, hrun, hended, hW, hsame⟩ := X.leave (v := v) (fun q => hv (C.2.2.2.2.2.1.symm.trans q)) C.2.2.2.2.2.2.1
  exact ⟨_, v, locs, ds, hs C X hr, hrun, hended, M, R, HQ, N, ⟨_, rfl⟩, hW, hsame.mono hk hn⟩
theorem go_return (hd : decode B.2.1 pc = .ok (.return_, 1)) (hret : B.2.2.2.1 = none) (hst : st = []) (hk : k ≤ B.2.2.2.2.cells) (hn : n ≤ B.2.2.2.2.slots) (HQ : Q none ds) : Go B Z a0 h0 Q k n ds pc ls st := by
  subst hst
  exact go_end hk hn (fun _ => rfl) HQ fun C X _ hr => X.returnOut C.1 (C.2.2.2.2.2.1.trans hret) (hb C.2.2.1 hd) hr
theorem go_ireturn {z : Int32} {rest : List Value} {t : FieldType} (hd : decode B.2.1 pc = .ok (.ireturn, 1)) (hret : B.2.2.2.1 = some t) (ht : t = .int ∨ t = .boolean ∨ t = .byte ∨ t = .char ∨ t = .short) (hst : st = .int z :: rest) (hz : narrow t (.int z) = .int z) (hk : k ≤ B.2.2.2.2.cells) (hn : n ≤ B.2.2.2.2.slots) (HQ : Q (some (.int z)) ds) : Go B Z a0 h0 Q k n ds pc ls st := by
  subst hst
  exact go_end hk hn (fun q => by rw [hret] at q; cases q) HQ fun C X _ hr => retOut X C.1 (C.2.2.2.2.2.1.trans hret) hz (Or.inl ⟨rfl, ht, _, rfl⟩) (hb C.2.2.1 hd) hr
theorem go_areturn {w : Value} {rest : List Value} {t : FieldType} (hd : decode B.2.1 pc = .ok (.areturn, 1)) (hret : B.2.2.2.1 = some t) (ht : t.isReference = true) (hw : w.isRef = true) (hst : st = w :: rest) (hk : k ≤ B.2.2.2.2.cells) (hn : n ≤ B.2.2.2.2.slots) (HQ : Q (some w) ds) : Go B Z a0 h0 Q k n ds pc ls st := by
  subst hst
  have hz : narrow t w = w := by rcases ref_cases hw with rfl | ⟨x, rfl⟩ <;> cases t <;> rfl
  exact go_end hk hn (fun q => by rw [hret] at q; cases q) HQ fun C X _ hr => retOut X C.1 (C.2.2.2.2.2.1.trans hret) hz (Or.inr (Or.inr (Or.inr (Or.inr ⟨rfl, ht, hw⟩)))) (hb C.2.2.1 hd) hr
/-! branches -/
def cmpP : ClassFile.Cond → Int32 → Int32 → Prop
  | .eq, x, y => x.toInt = y.toInt
  | .ne, x, y => x.toInt ≠ y.toInt
  | .lt, x, y => x.toInt < y.toInt
  | .ge, x, y => y.toInt ≤ x.toInt
  | .gt, x, y => y.toInt < x.toInt
  | .le, x, y => x.toInt ≤ y.toInt
def cmpZ : ClassFile.Cond → Int32 → Prop
  | .eq, x => x.toInt = 0
  | .ne, x => x.toInt ≠ 0
  | .lt, x => x.toInt < 0
  | .ge, x => 0 ≤ x.toInt
  | .gt, x => 0 < x.toInt
  | .le, x => x.toInt ≤ 0
theorem cmpP_iff (cd : ClassFile.Cond) (x y : Int32) : if_icmp.holds cd x y = true ↔ cmpP cd x y := by
  cases cd <;> simp [if_icmp.holds, cmpP, Int32.lt_iff_toInt_lt, Int32.le_iff_toInt_le, Int32.toInt_inj]
theorem cmpZ_iff (cd : ClassFile.Cond) (x : Int32) : ifCond.holds cd x = true ↔ cmpZ cd x := by
  have h0 : (0 : Int32).toInt = 0 := rfl
  cases cd <;> simp only [ifCond.holds, cmpZ, Int32.lt_iff_toInt_lt, Int32.le_iff_toInt_le, ← Int32.toInt_inj, h0, decide_eq_true_eq, beq_iff_eq, bne_iff_ne, ne_eq, gt_iff_lt, ge_iff_le]
theorem go_if {cd : ClassFile.Cond} {x : Int32} {rest : List Value} {o : Int} (q1 q2 : Nat) (hp : pc + 3 = q2) (ho : 0 ≤ (pc : Int) + o) (hq : ((pc : Int) + o).toNat = q1) (hd : decode B.2.1 pc = .ok (.ifCond cd o, 3)) (hst : st = .int x :: rest)
    (H1 : cmpZ cd x → Go B Z a0 h0 Q k n ds q1 ls rest) (H2 : ¬ cmpZ cd x → Go B Z a0 h0 Q k n ds q2 ls rest) : Go B Z a0 h0 Q k n ds pc ls st := by
  subst hst hp
  cases hc : ifCond.holds cd x
  · exact (H2 fun q => by rw [(cmpZ_iff cd x).mpr q] at hc; cases hc).step fun C X _ t hr => XS.ifNo X.here C.1 rfl (hb C.2.2.1 hd) rfl hc hr
  · exact (H1 ((cmpZ_iff cd x).mp hc)).step fun C X _ t hr => XS.ifYes X.here C.1 rfl rfl (hb C.2.2.1 hd) rfl hc ho hq hr
theorem go_icmp {cd : ClassFile.Cond} {x y : Int32} {rest : List Value} {o : Int} (q1 q2 : Nat) (hp : pc + 3 = q2) (ho : 0 ≤ (pc : Int) + o) (hq : ((pc : Int) + o).toNat = q1) (hd : decode B.2.1 pc = .ok (.if_icmp cd o, 3)) (hst : st = .int y :: .int x :: rest)
    (H1 : cmpP cd x y → Go B Z a0 h0 Q k n ds q1 ls rest) (H2 : ¬ cmpP cd x y → Go B Z a0 h0 Q k n ds q2 ls rest) : Go B Z a0 h0 Q k n ds pc ls st := by
  subst hst hp
  cases hc : if_icmp.holds cd x y
  · exact (H2 fun q => by rw [(cmpP_iff cd x y).mpr q] at hc; cases hc).step fun C X _ t hr => XS.icmpNo X.here C.1 rfl (hb C.2.2.1 hd) rfl hc hr
  · exact (H1 ((cmpP_iff cd x y).mp hc)).step fun C X _ t hr => XS.icmpYes X.here C.1 rfl rfl (hb C.2.2.1 hd) rfl hc ho hq hr
def acP : ACond → Value → Value → Prop
  | .eq, x, y => x = y
  | .ne, x, y => x ≠ y
theorem acP_iff (cd : ACond) (x y : Value) : acV cd (decide (x = y)) = true ↔ acP cd x y := by cases cd <;> simp [acV, acP]
theorem go_ifnonnullY {b : Addr} {rest : List Value} {o : Int} (q1 : Nat) (ho : 0 ≤ (pc : Int) + o) (hq : ((pc : Int) + o).toNat = q1) (hd : decode B.2.1 pc = .ok (.ifnonnull o, 3)) (hst : st = .ref b :: rest) (H : Go B Z a0 h0 Q k n ds q1 ls rest) : Go B Z a0 h0 Q k n ds pc ls st := by
  subst hst; exact H.step fun C X _ t hr => XS.ifnonnullYes X.here C.1 rfl rfl (hb C.2.2.1 hd) rfl ho hq hr
theorem go_goto {o : Int} (q : Nat) (ho : 0 ≤ (pc : Int) + o) (hq : ((pc : Int) + o).toNat = q) (hd : decode B.2.1 pc = .ok (.goto o, 3)) (H : Go B Z a0 h0 Q k n ds q ls st) : Go B Z a0 h0 Q k n ds pc ls st :=
  H.step fun C X _ t hr => XS.goto X.here C.1 rfl rfl (hb C.2.2.1 hd) ho hq hr
/-! constants of the pool -/
theorem go_ldc2 {idx : Nat} {v : Int64} (q : Nat) (hp : pc + 3 = q) (hd : decode B.2.1 pc = .ok (.ldc2_w idx, 3)) (w : (Jvm.Cond.constantLong B.1.cls idx v).before a0 Z = true) (H : Go B Z a0 h0 Q k n ds q ls (.long v :: st)) : Go B Z a0 h0 Q k n ds pc ls st := by
  subst hp; exact H.step fun C X _ t hr => X.ldc2Long C.1 C.2.2.2.2.1 (mvT C.2.1 w) (g := mkF _ pc ls st) rfl (hb C.2.2.1 hd) t hr
/-! the heap -/
theorem go_newarr {aty : ArrayType} {x : Int32} {rest : List Value} (q : Nat) (hp : pc + 2 = q) (hd : decode B.2.1 pc = .ok (.newarray aty, 2)) (hst : st = .int x :: rest) (w : (Jvm.Cond.arrayClass (newarray.typeOf aty)).before a0 Z = true) (hx : ¬ x < 0) (cap : Nat) (hcap : x.toNatClampNeg ≤ cap) (hbb : cap * 8 ≤ 536870912)
    (hk : k + 1 ≤ B.2.2.2.2.cells) (hn : n + cap ≤ B.2.2.2.2.slots) (H : ∀ a, Go B Z a0 h0 Q (k + 1) (n + cap) (ds ++ [ar a (newarray.typeOf aty) (List.replicate x.toNatClampNeg (defaultValue (newarray.typeOf aty)))]) q ls (.ref a :: rest)) : Go B Z a0 h0 Q k n ds pc ls st := by
  subst hp hst
  intro p l e s m args below meth c T locs hs as Cc X N M R
  obtain ⟨T', h', cA, X', e', E', A', st'⟩ := newP X Cc.1 Cc.2.1 w rfl (g := mkF m pc ls (.int x :: rest)) rfl (hb Cc.2.2.1 hd) rfl hx hcap hbb hk hn
  refine (H T.heap.size p l e s m args below meth c T' locs hs as Cc X' N ?_ (by rw [e']; exact R.add E')).back st'
  rw [e']
  exact M.add E' ⟨_, A', by simp [newA], fun C q => by cases aty <;> cases q⟩
theorem go_getG {a : Addr} {O R0 nm d : String} {v : Value} {idx : Nat} {rest : List Value} (q : Nat) (hp : pc + 3 = q) (hd : decode B.2.1 pc = .ok (.getfield idx, 3)) (hst : st = .ref a :: rest) (w : (Jvm.Cond.fieldLink B.1.cls idx R0 nm d).before a0 Z = true) (via : Via Z R0 O nm d) (hF : ∀ h, Mo Z a0 h0 ds h → Fld Z h a O nm d v)
    (H : Go B Z a0 h0 Q k n ds q ls (v :: rest)) : Go B Z a0 h0 Q k n ds pc ls st := by
  subst hp hst
  intro p l e s m args below meth c T locs hs as Cc X N M R
  obtain ⟨T', X', e', st'⟩ := getF X Cc.1 Cc.2.1 Cc.2.2.2.2.1 (host := "") (Or.inl w) via rfl (hF _ M) (g := mkF m pc ls (.ref a :: rest)) rfl rfl (hb Cc.2.2.1 hd)
  exact (H p l e s m args below meth c T' locs hs as Cc X' N (by rw [e']; exact M) (by rw [e']; exact R)).back st'
theorem go_get {a : Addr} {C O nm d : String} {fs : Fds} {v : Value} {idx : Nat} {rest : List Value} (i j q : Nat) (hp : pc + 3 = q) (hd : decode B.2.1 pc = .ok (.getfield idx, 3)) (hst : st = .ref a :: rest) (hi : ds[i]? = some (ob a C fs)) (hj : fs[j]? = some (O, nm, d, v)) (w : (Jvm.Cond.fieldLink B.1.cls idx O nm d).before a0 Z = true)
    (H : Go B Z a0 h0 Q k n ds q ls (v :: rest)) : Go B Z a0 h0 Q k n ds pc ls st :=
  go_getG q hp hd hst w Via.refl (fun h M => ((M.at hi).2.1 _ (List.mem_of_getElem? hj)).1) H
theorem go_put {a : Addr} {C O nm d : String} {fs : Fds} {v old : Value} {idx kk : Nat} {rest : List Value} {ty : FieldType} (i j q : Nat) (hp : pc + 3 = q) (hd : decode B.2.1 pc = .ok (.putfield idx, 3)) (hst : st = v :: .ref a :: rest) (hi : ds[i]? = some (ob a C fs)) (hj : fs[j]? = some (O, nm, d, old))
    (w : (Jvm.Cond.fieldLink B.1.cls idx O nm d).before a0 Z = true) (L : (Jvm.Cond.lays C O nm d).before a0 Z = true ∨ ((Jvm.Cond.laysFinal C O nm d).before a0 Z = true ∧ B.1.cls = O ∧ B.1.name = "<init>")) (wi : (Jvm.Cond.instantiable C kk).before a0 Z = true)
    (hty : parseFieldDescriptor d = some ty) (hnn : narrow ty v = v) (hf : fits ty v = true) (H : Go B Z a0 h0 Q k n (ds.set i (ob a C (fs.set j (O, nm, d, v)))) q ls rest) : Go B Z a0 h0 Q k n ds pc ls st := by
  subst hp hst
  intro p l e s m args below meth c T locs hs as Cc X N M R
  have HA := M.at hi
  obtain ⟨F, La, -⟩ := HA.2.1 _ (List.mem_of_getElem? hj)
  have hown : s.vm.findClass B.1.cls = some m.cls := Cc.2.2.2.2.1
  obtain ⟨T', h', X', e', W', st'⟩ := putF X Cc.1 Cc.2.1 hown (host := "") (Or.inl w) Via.refl rfl F HA.1 (L.imp id fun q => ⟨q.1, q.2.1, Cc.2.2.2.2.2.2.2.trans q.2.2⟩) wi hty hnn hf (g := mkF m pc ls (v :: .ref a :: rest)) rfl rfl (hb Cc.2.2.1 hd)
  refine (H p l e s m args below meth c T' _ hs as Cc X' (Fr.snoc X' N (M.new hi id)) ?_ (by rw [e']; exact R.wr hi W')).back st'
  rw [e']
  refine M.wr hi id W' ⟨HA.1.wr W', fun f hf => ?_, ?_⟩
  · obtain ⟨j', hj'⟩ := List.getElem?_of_mem hf
    by_cases e : j = j'
    · subst e
      rw [List.getElem?_set_self (List.getElem?_eq_some_iff.mp hj).1] at hj'
      cases hj'; exact ⟨F.same W', La, ty, hty⟩
    · rw [List.getElem?_set_ne e] at hj'
      obtain ⟨F1, L1, ty1, ht1⟩ := HA.2.1 f (List.mem_of_getElem? hj')
      refine ⟨F1.other W' (Or.inr (slot_ne L1 La (fun q => ?_) ht1 hty)), L1, ty1, ht1⟩
      have P := List.pairwise_iff_getElem.mp HA.2.2
      obtain ⟨l1, e1⟩ := List.getElem?_eq_some_iff.mp hj
      obtain ⟨l2, e2⟩ := List.getElem?_eq_some_iff.mp hj'
      rcases Nat.lt_or_gt_of_ne e with r | r
      · have z := P j j' (by simpa using l1) (by simpa using l2) r
        simp only [List.getElem_map, e1, e2] at z; exact z q.symm
      · have z := P j' j (by simpa using l2) (by simpa using l1) r
        simp only [List.getElem_map, e1, e2] at z; exact z q
  · rw [List.map_set]
    have : (fs.map (·.2.1)).set j nm = fs.map (·.2.1) := by
      apply List.ext_getElem?
      intro t
      by_cases e : j = t
      · subst e; rw [List.getElem?_set_self (by simpa using (List.getElem?_eq_some_iff.mp hj).1)]; simp [hj]
      · rw [List.getElem?_set_ne e]
    show ((fs.map (·.2.1)).set j nm).Nodup
    rw [this]; exact HA.2.2
theorem go_putG {a : Addr} {C R0 O nm d : String} {fs : Fds} {v old : Value} {idx kk : Nat} {rest : List Value} {ty : FieldType} (i j q : Nat) (hp : pc + 3 = q) (hd : decode B.2.1 pc = .ok (.putfield idx, 3)) (hst : st = v :: .ref a :: rest) (hi : ds[i]? = some (ob a C fs)) (hj : fs[j]? = some (O, nm, d, old))
    (w : (Jvm.Cond.fieldLink B.1.cls idx R0 nm d).before a0 Z = true) (via : Via Z R0 O nm d) (L : (Jvm.Cond.lays C O nm d).before a0 Z = true ∨ ((Jvm.Cond.laysFinal C O nm d).before a0 Z = true ∧ B.1.cls = O ∧ B.1.name = "<init>")) (wi : (Jvm.Cond.instantiable C kk).before a0 Z = true)
    (hty : parseFieldDescriptor d = some ty) (hnn : narrow ty v = v) (hf : fits ty v = true) (H : Go B Z a0 h0 Q k n (ds.set i (ob a C (fs.set j (O, nm, d, v)))) q ls rest) : Go B Z a0 h0 Q k n ds pc ls st := by
  subst hp hst
  intro p l e s m args below meth c T locs hs as Cc X N M R
  have HA := M.at hi
  obtain ⟨F, La, -⟩ := HA.2.1 _ (List.mem_of_getElem? hj)
  have hown : s.vm.findClass B.1.cls = some m.cls := Cc.2.2.2.2.1
  obtain ⟨T', h', X', e', W', st'⟩ := putF X Cc.1 Cc.2.1 hown (host := "") (Or.inl w) via rfl F HA.1 (L.imp id fun q => ⟨q.1, q.2.1, Cc.2.2.2.2.2.2.2.trans q.2.2⟩) wi hty hnn hf (g := mkF m pc ls (v :: .ref a :: rest)) rfl rfl (hb Cc.2.2.1 hd)
  refine (H p l e s m args below meth c T' _ hs as Cc X' (Fr.snoc X' N (M.new hi id)) ?_ (by rw [e']; exact R.wr hi W')).back st'
  rw [e']
  refine M.wr hi id W' ⟨HA.1.wr W', fun f hf => ?_, ?_⟩
  · obtain ⟨j', hj'⟩ := List.getElem?_of_mem hf
    by_cases e : j = j'
    · subst e
      rw [List.getElem?_set_self (List.getElem?_eq_some_iff.mp hj).1] at hj'
      cases hj'; exact ⟨F.same W', La, ty, hty⟩
    · rw [List.getElem?_set_ne e] at hj'
      obtain ⟨F1, L1, ty1, ht1⟩ := HA.2.1 f (List.mem_of_getElem? hj')
      refine ⟨F1.other W' (Or.inr (slot_ne L1 La (fun q => ?_) ht1 hty)), L1, ty1, ht1⟩
      have P := List.pairwise_iff_getElem.mp HA.2.2
      obtain ⟨l1, e1⟩ := List.getElem?_eq_some_iff.mp hj
      obtain ⟨l2, e2⟩ := List.getElem?_eq_some_iff.mp hj'
      rcases Nat.lt_or_gt_of_ne e with r | r
      · have z := P j j' (by simpa using l1) (by simpa using l2) r
        simp only [List.getElem_map, e1, e2] at z; exact z q.symm
      · have z := P j' j (by simpa using l2) (by simpa using l1) r
        simp only [List.getElem_map, e1, e2] at z; exact z q
  · rw [List.map_set]
    have : (fs.map (·.2.1)).set j nm = fs.map (·.2.1) := by
      apply List.ext_getElem?
      intro t
      by_cases e : j = t
      · subst e; rw [List.getElem?_set_self (by simpa using (List.getElem?_eq_some_iff.mp hj).1)]; simp [hj]
      · rw [List.getElem?_set_ne e]
    show ((fs.map (·.2.1)).set j nm).Nodup
    rw [this]; exact HA.2.2
theorem go_getS {O nm d : String} {v : Value} {idx : Nat} (q : Nat) (hp : pc + 3 = q) (hd : decode B.2.1 pc = .ok (.getstatic idx, 3)) (w : (Jvm.Cond.fieldLink B.1.cls idx O nm d).before a0 Z = true) (F : Sta Z h0 O nm d v) (H : Go B Z a0 h0 Q k n ds q ls (v :: st)) : Go B Z a0 h0 Q k n ds pc ls st := by
  subst hp
  intro p l e s m args below meth c T locs hs as Cc X N M R
  obtain ⟨T', X', e', st'⟩ := getS X Cc.1 Cc.2.1 (host := "") Cc.2.2.2.2.1 w Via.refl rfl (F.ext M.1) (g := mkF m pc ls st) rfl (hb Cc.2.2.1 hd)
  exact (H p l e s m args below meth c T' locs hs as Cc X' N (by rw [e']; exact M) (by rw [e']; exact R)).back st'
/-! arrays -/
theorem Holds.arr {h : Heap} {a : Addr} {ty : FieldType} {vs : List Value} (H : Holds Z a0 h a (.inr (ty, vs))) : ∃ c : Cell, Arr Z h a c ty ∧ c.slots = vs.toArray ∧ (∀ C, ty = .object C → Ovr Z c.cls C) := by
  obtain ⟨c, A, e, r⟩ := H; exact ⟨c, A, by rw [← e], r⟩
theorem inb {c : Cell} {vs : List Value} {j : Int32} {v : Value} (e : c.slots = vs.toArray) (hj : ¬ j < 0) (hv : vs[j.toNatClampNeg]? = some v) : ¬ (j < 0 ∨ c.slots.size ≤ j.toNatClampNeg) ∧ c.slots[j.toNatClampNeg]? = some v := by
  have l1 := (List.getElem?_eq_some_iff.mp hv).1
  rw [e]; exact ⟨fun q => q.elim hj fun q => by simp at q; omega, by simpa using hv⟩
theorem go_alenG {a : Addr} {z : Int32} {ty : FieldType} {rest : List Value} (q : Nat) (hp : pc + 1 = q) (hd : decode B.2.1 pc = .ok (.arraylength, 1)) (hst : st = .ref a :: rest) (hA : ∀ h, Mo Z a0 h0 ds h → ∃ c : Cell, Arr Z h a c ty ∧ c.slots.size.toInt32 = z) (H : Go B Z a0 h0 Q k n ds q ls (.int z :: rest)) : Go B Z a0 h0 Q k n ds pc ls st := by
  subst hp hst
  refine H.step fun C X M t hr => ?_
  obtain ⟨cl, A, e⟩ := hA _ M
  exact X.arraylength C.1 A.1 (State.isArrayOf_alike C.2.1.alike A.2.1) (g := mkF _ pc ls (.ref a :: rest)) rfl rfl (hb C.2.2.1 hd) t (by rw [e]; exact hr)
theorem go_alen {a : Addr} {ty : FieldType} {vs : List Value} {rest : List Value} (i q : Nat) (hp : pc + 1 = q) (hd : decode B.2.1 pc = .ok (.arraylength, 1)) (hst : st = .ref a :: rest) (hi : ds[i]? = some (ar a ty vs)) (H : Go B Z a0 h0 Q k n ds q ls (.int vs.length.toInt32 :: rest)) : Go B Z a0 h0 Q k n ds pc ls st :=
  go_alenG q hp hd hst (fun h M => by obtain ⟨c, A, e, -⟩ := (M.at hi).arr; exact ⟨c, A, by rw [e]; simp⟩) H
def El (Z : State) (h : Heap) (a : Addr) (ty : FieldType) (j : Int32) (v : Value) : Prop := ∃ c : Cell, Arr Z h a c ty ∧ ¬ (j < 0 ∨ c.slots.size ≤ j.toNatClampNeg) ∧ c.slots[j.toNatClampNeg]? = some v
theorem El.ext {h h' : Heap} {a : Addr} {ty : FieldType} {j : Int32} {v : Value} (E : Ext h h') (F : El Z h a ty j v) : El Z h' a ty j v := by obtain ⟨c, A, r⟩ := F; exact ⟨c, A.ext E, r⟩
theorem Mo.el {a : Addr} {ty : FieldType} {vs : List Value} {i : Nat} {j : Int32} {v : Value} (hi : ds[i]? = some (ar a ty vs)) (hj : ¬ j < 0) (hv : vs[j.toNatClampNeg]? = some v) : ∀ h, Mo Z a0 h0 ds h → El Z h a ty j v := fun h M => by
  obtain ⟨c, A, e, -⟩ := (M.at hi).arr; exact ⟨c, A, inb e hj hv⟩
theorem go_iaload {a : Addr} {j : Int32} {v : Value} {rest : List Value} (q : Nat) (hp : pc + 1 = q) (hd : decode B.2.1 pc = .ok (.iaload, 1)) (hst : st = .int j :: .ref a :: rest) (hA : ∀ h, Mo Z a0 h0 ds h → El Z h a .int j v) (H : Go B Z a0 h0 Q k n ds q ls (v :: rest)) : Go B Z a0 h0 Q k n ds pc ls st := by
  subst hp hst
  refine H.step fun C X M t hr => ?_
  obtain ⟨cl, A, h1, h2⟩ := hA _ M
  exact X.iaload C.1 A.1 (State.isArrayOf_alike C.2.1.alike A.2.1) A.2.2 h1 h2 (g := mkF _ pc ls (.int j :: .ref a :: rest)) rfl rfl (hb C.2.2.1 hd) t hr
theorem go_baload {a : Addr} {j : Int32} {v : Value} {rest : List Value} (q : Nat) (hp : pc + 1 = q) (hd : decode B.2.1 pc = .ok (.baload, 1)) (hst : st = .int j :: .ref a :: rest) (hA : ∀ h, Mo Z a0 h0 ds h → El Z h a .byte j v) (H : Go B Z a0 h0 Q k n ds q ls (v :: rest)) : Go B Z a0 h0 Q k n ds pc ls st := by
  subst hp hst
  refine H.step fun C X M t hr => ?_
  obtain ⟨cl, A, h1, h2⟩ := hA _ M
  exact X.baloadBytes C.1 A.1 (State.isArrayOf_alike C.2.1.alike A.2.1) A.2.2 h1 h2 (g := mkF _ pc ls (.int j :: .ref a :: rest)) rfl rfl (hb C.2.2.1 hd) t hr
theorem Holds.set {h h' : Heap} {a : Addr} {ty : FieldType} {vs : List Value} {c : Cell} {j : Int32} {v : Value} (A : Arr Z h a c ty) (e : c.slots = vs.toArray) (O : ∀ C, ty = .object C → Ovr Z c.cls C) (W : Wr h h' a j.toNatClampNeg v) : Holds Z a0 h' a (.inr (ty, vs.set j.toNatClampNeg v)) :=
  ⟨_, A.same W, by simp [Cell.setSlot, e], O⟩
theorem go_castore {a : Addr} {j : Int32} {x : Int32} {vs rest : List Value} (i q : Nat) (hp : pc + 1 = q) (hd : decode B.2.1 pc = .ok (.castore, 1)) (hst : st = .int x :: .int j :: .ref a :: rest) (hi : ds[i]? = some (ar a .char vs)) (hj : ¬ j < 0) (hl : j.toNatClampNeg < vs.length) (H : Go B Z a0 h0 Q k n (ds.set i (ar a .char (vs.set j.toNatClampNeg (.int (nar .char x))))) q ls rest) : Go B Z a0 h0 Q k n ds pc ls st := by
  subst hp hst
  intro p l e s m args below meth c T locs hs as Cc X N M R
  obtain ⟨cl, A, ee, O⟩ := (M.at hi).arr
  obtain ⟨T', h', X', e', W', st'⟩ := stC X Cc.1 Cc.2.1 rfl A (inb ee hj (List.getElem?_eq_getElem hl)).1 (g := mkF m pc ls (.int x :: .int j :: .ref a :: rest)) rfl rfl (hb Cc.2.2.1 hd)
  refine (H p l e s m args below meth c T' _ hs as Cc X' (Fr.snoc X' N (M.new hi (nemp hl))) ?_ (by rw [e']; exact R.wr hi W')).back st'
  rw [e']; exact M.wr hi (nemp hl) W' (Holds.set A ee O W')
theorem Mo.sto {a y : Addr} {C : String} {vs : List Value} {i : Nat} (hi : ds[i]? = some (ar a (.object C) vs)) (hI : ∀ h, Mo Z a0 h0 ds h → Ins Z h y C true) : ∀ h, Mo Z a0 h0 ds h → Sto Z h a (.ref y) := fun h M => by
  obtain ⟨c, A, -, O⟩ := (M.at hi).arr; exact Sto.of A (O C rfl) (hI h M)
/-! the plain steps -/
theorem go_iloadN {j : Fin 4} {v : Int32} (q : Nat) (hp : pc + 1 = q) (hd : decode B.2.1 pc = .ok (.iload_n j, 1)) (hl : ls[j.val]? = some (.val (.int v))) (H : Go B Z a0 h0 Q k n ds q ls (.int v :: st)) : Go B Z a0 h0 Q k n ds pc ls st := by
  subst hp; exact H.step fun C X _ t hr => XS.iloadN X.here C.1 rfl (hb C.2.2.1 hd) hl hr
theorem go_iload {j : Nat} {v : Int32} (q : Nat) (hp : pc + 2 = q) (hd : decode B.2.1 pc = .ok (.iload j, 2)) (hl : ls[j]? = some (.val (.int v))) (H : Go B Z a0 h0 Q k n ds q ls (.int v :: st)) : Go B Z a0 h0 Q k n ds pc ls st := by
  subst hp; exact H.step fun C X _ t hr => XS.iload X.here C.1 rfl (hb C.2.2.1 hd) hl hr
theorem go_istoreN {j : Fin 4} {x : Int32} {rest : List Value} (l' : Array Slot) (q : Nat) (hp : pc + 1 = q) (hd : decode B.2.1 pc = .ok (.istore_n j, 1)) (hst : st = .int x :: rest) (hl : storeLocals ls j.val (.int x) = some l') (H : Go B Z a0 h0 Q k n ds q l' (rest)) : Go B Z a0 h0 Q k n ds pc ls st := by
  subst hp hst; exact H.step fun C X _ t hr => XS.istoreN X.here C.1 rfl (hb C.2.2.1 hd) rfl hl hr
theorem go_istore {j : Nat} {x : Int32} {rest : List Value} (l' : Array Slot) (q : Nat) (hp : pc + 2 = q) (hd : decode B.2.1 pc = .ok (.istore j, 2)) (hst : st = .int x :: rest) (hl : storeLocals ls j (.int x) = some l') (H : Go B Z a0 h0 Q k n ds q l' (rest)) : Go B Z a0 h0 Q k n ds pc ls st := by
  subst hp hst; exact H.step fun C X _ t hr => XS.istore X.here C.1 rfl (hb C.2.2.1 hd) rfl hl hr
theorem go_lloadN {j : Fin 4} {v : Int64} (q : Nat) (hp : pc + 1 = q) (hd : decode B.2.1 pc = .ok (.lload_n j, 1)) (hl : ls[j.val]? = some (.val (.long v))) (H : Go B Z a0 h0 Q k n ds q ls (.long v :: st)) : Go B Z a0 h0 Q k n ds pc ls st := by
  subst hp; exact H.step fun C X _ t hr => XS.lloadN X.here C.1 rfl (hb C.2.2.1 hd) hl hr
theorem go_lstoreN {j : Fin 4} {x : Int64} {rest : List Value} (l' : Array Slot) (q : Nat) (hp : pc + 1 = q) (hd : decode B.2.1 pc = .ok (.lstore_n j, 1)) (hst : st = .long x :: rest) (hl : storeLocals ls j.val (.long x) = some l') (H : Go B Z a0 h0 Q k n ds q l' (rest)) : Go B Z a0 h0 Q k n ds pc ls st := by
  subst hp hst; exact H.step fun C X _ t hr => XS.lstoreN X.here C.1 rfl (hb C.2.2.1 hd) rfl hl hr
theorem go_aloadN {j : Fin 4} {v : Value} (q : Nat) (hp : pc + 1 = q) (hd : decode B.2.1 pc = .ok (.aload_n j, 1)) (hl : ls[j.val]? = some (.val v)) (hv : v.isRef = true) (H : Go B Z a0 h0 Q k n ds q ls (v :: st)) : Go B Z a0 h0 Q k n ds pc ls st := by
  subst hp; exact H.step fun C X _ t hr => XS.aloadN X.here C.1 rfl (hb C.2.2.1 hd) hl hv hr
theorem go_astoreN {j : Fin 4} {x : Value} {rest : List Value} (l' : Array Slot) (q : Nat) (hp : pc + 1 = q) (hd : decode B.2.1 pc = .ok (.astore_n j, 1)) (hst : st = x :: rest) (hv : x.isRef = true) (hl : storeLocals ls j.val x = some l') (H : Go B Z a0 h0 Q k n ds q l' (rest)) : Go B Z a0 h0 Q k n ds pc ls st := by
  subst hp hst; exact H.step fun C X _ t hr => XS.astoreN X.here C.1 rfl (hb C.2.2.1 hd) rfl hv hl hr
theorem go_iconst {i : Int} (v : Int32) (q : Nat) (hp : pc + 1 = q) (hd : decode B.2.1 pc = .ok (.iconst i, 1)) (hv : Int32.ofInt i = v) (H : Go B Z a0 h0 Q k n ds q ls (.int v :: st)) : Go B Z a0 h0 Q k n ds pc ls st := by
  subst hp hv; exact H.step fun C X _ t hr => XS.iconst X.here C.1 rfl (hb C.2.2.1 hd) hr
theorem go_bipush {i : Int} (v : Int32) (q : Nat) (hp : pc + 2 = q) (hd : decode B.2.1 pc = .ok (.bipush i, 2)) (hv : (Int8.ofInt i).toInt32 = v) (H : Go B Z a0 h0 Q k n ds q ls (.int v :: st)) : Go B Z a0 h0 Q k n ds pc ls st := by
  subst hp hv; exact H.step fun C X _ t hr => XS.bipush X.here C.1 rfl (hb C.2.2.1 hd) hr
theorem go_sipush {i : Int} (v : Int32) (q : Nat) (hp : pc + 3 = q) (hd : decode B.2.1 pc = .ok (.sipush i, 3)) (hv : (Int16.ofInt i).toInt32 = v) (H : Go B Z a0 h0 Q k n ds q ls (.int v :: st)) : Go B Z a0 h0 Q k n ds pc ls st := by
  subst hp hv; exact H.step fun C X _ t hr => XS.sipush X.here C.1 rfl (hb C.2.2.1 hd) hr
theorem go_lconst {i : Fin 2} (v : Int64) (q : Nat) (hp : pc + 1 = q) (hd : decode B.2.1 pc = .ok (.lconst i, 1)) (hv : Int64.ofNat i.val = v) (H : Go B Z a0 h0 Q k n ds q ls (.long v :: st)) : Go B Z a0 h0 Q k n ds pc ls st := by
  subst hp hv; exact H.step fun C X _ t hr => XS.lconst X.here C.1 rfl (hb C.2.2.1 hd) hr
theorem go_iadd {x y : Int32} {rest : List Value} (q : Nat) (hp : pc + 1 = q) (hd : decode B.2.1 pc = .ok (.iadd, 1)) (hst : st = .int y :: .int x :: rest) (H : Go B Z a0 h0 Q k n ds q ls (.int (x + y) :: rest)) : Go B Z a0 h0 Q k n ds pc ls st := by
  subst hp hst; exact H.step fun C X _ t hr => XS.iadd X.here C.1 rfl (hb C.2.2.1 hd) rfl hr
theorem go_isub {x y : Int32} {rest : List Value} (q : Nat) (hp : pc + 1 = q) (hd : decode B.2.1 pc = .ok (.isub, 1)) (hst : st = .int y :: .int x :: rest) (H : Go B Z a0 h0 Q k n ds q ls (.int (x - y) :: rest)) : Go B Z a0 h0 Q k n ds pc ls st := by
  subst hp hst; exact H.step fun C X _ t hr => XS.isub X.here C.1 rfl (hb C.2.2.1 hd) rfl hr
theorem go_imul {x y : Int32} {rest : List Value} (q : Nat) (hp : pc + 1 = q) (hd : decode B.2.1 pc = .ok (.imul, 1)) (hst : st = .int y :: .int x :: rest) (H : Go B Z a0 h0 Q k n ds q ls (.int (x * y) :: rest)) : Go B Z a0 h0 Q k n ds pc ls st := by
  subst hp hst; exact H.step fun C X _ t hr => XS.imul X.here C.1 rfl (hb C.2.2.1 hd) rfl hr
theorem go_iand {x y : Int32} {rest : List Value} (q : Nat) (hp : pc + 1 = q) (hd : decode B.2.1 pc = .ok (.iand, 1)) (hst : st = .int y :: .int x :: rest) (H : Go B Z a0 h0 Q k n ds q ls (.int (x &&& y) :: rest)) : Go B Z a0 h0 Q k n ds pc ls st := by
  subst hp hst; exact H.step fun C X _ t hr => XS.iand X.here C.1 rfl (hb C.2.2.1 hd) rfl hr
theorem go_ishr {x y : Int32} {rest : List Value} (q : Nat) (hp : pc + 1 = q) (hd : decode B.2.1 pc = .ok (.ishr, 1)) (hst : st = .int y :: .int x :: rest) (H : Go B Z a0 h0 Q k n ds q ls (.int (x >>> (y &&& 31)) :: rest)) : Go B Z a0 h0 Q k n ds pc ls st := by
  subst hp hst; exact H.step fun C X _ t hr => XS.ishr X.here C.1 rfl (hb C.2.2.1 hd) rfl hr
theorem go_ladd {x y : Int64} {rest : List Value} (q : Nat) (hp : pc + 1 = q) (hd : decode B.2.1 pc = .ok (.ladd, 1)) (hst : st = .long y :: .long x :: rest) (H : Go B Z a0 h0 Q k n ds q ls (.long (x + y) :: rest)) : Go B Z a0 h0 Q k n ds pc ls st := by
  subst hp hst; exact H.step fun C X _ t hr => XS.ladd X.here C.1 rfl (hb C.2.2.1 hd) rfl hr
theorem go_lsub {x y : Int64} {rest : List Value} (q : Nat) (hp : pc + 1 = q) (hd : decode B.2.1 pc = .ok (.lsub, 1)) (hst : st = .long y :: .long x :: rest) (H : Go B Z a0 h0 Q k n ds q ls (.long (x - y) :: rest)) : Go B Z a0 h0 Q k n ds pc ls st := by
  subst hp hst; exact H.step fun C X _ t hr => XS.lsub X.here C.1 rfl (hb C.2.2.1 hd) rfl hr
theorem go_lmul {x y : Int64} {rest : List Value} (q : Nat) (hp : pc + 1 = q) (hd : decode B.2.1 pc = .ok (.lmul, 1)) (hst : st = .long y :: .long x :: rest) (H : Go B Z a0 h0 Q k n ds q ls (.long (x * y) :: rest)) : Go B Z a0 h0 Q k n ds pc ls st := by
  subst hp hst; exact H.step fun C X _ t hr => XS.lmul X.here C.1 rfl (hb C.2.2.1 hd) rfl hr
theorem go_ldiv {x y : Int64} {rest : List Value} (q : Nat) (hp : pc + 1 = q) (hd : decode B.2.1 pc = .ok (.ldiv, 1)) (hst : st = .long y :: .long x :: rest) (hy : y ≠ 0) (H : Go B Z a0 h0 Q k n ds q ls (.long (x / y) :: rest)) : Go B Z a0 h0 Q k n ds pc ls st := by
  subst hp hst; exact H.step fun C X _ t hr => XS.ldiv X.here C.1 rfl (hb C.2.2.1 hd) rfl hy hr
theorem go_irem {x y : Int32} {rest : List Value} (q : Nat) (hp : pc + 1 = q) (hd : decode B.2.1 pc = .ok (.irem, 1)) (hst : st = .int y :: .int x :: rest) (hy : y ≠ 0) (H : Go B Z a0 h0 Q k n ds q ls (.int (x % y) :: rest)) : Go B Z a0 h0 Q k n ds pc ls st := by
  subst hp hst; exact H.step fun C X _ t hr => iremM X C.1 rfl (hb C.2.2.1 hd) rfl hy hr
theorem go_lrem {x y : Int64} {rest : List Value} (q : Nat) (hp : pc + 1 = q) (hd : decode B.2.1 pc = .ok (.lrem, 1)) (hst : st = .long y :: .long x :: rest) (hy : y ≠ 0) (H : Go B Z a0 h0 Q k n ds q ls (.long (x % y) :: rest)) : Go B Z a0 h0 Q k n ds pc ls st := by
  subst hp hst; exact H.step fun C X _ t hr => XS.lrem X.here C.1 rfl (hb C.2.2.1 hd) rfl hy (by rw [lrem_mod]; exact hr)
theorem go_i2l {x : Int32} {rest : List Value} (q : Nat) (hp : pc + 1 = q) (hd : decode B.2.1 pc = .ok (.i2l, 1)) (hst : st = .int x :: rest) (H : Go B Z a0 h0 Q k n ds q ls (.long x.toInt64 :: rest)) : Go B Z a0 h0 Q k n ds pc ls st := by
  subst hp hst; exact H.step fun C X _ t hr => XS.i2l X.here C.1 rfl (hb C.2.2.1 hd) rfl hr
theorem go_l2i {x : Int64} {rest : List Value} (q : Nat) (hp : pc + 1 = q) (hd : decode B.2.1 pc = .ok (.l2i, 1)) (hst : st = .long x :: rest) (H : Go B Z a0 h0 Q k n ds q ls (.int x.toInt32 :: rest)) : Go B Z a0 h0 Q k n ds pc ls st := by
  subst hp hst; exact H.step fun C X _ t hr => XS.l2i X.here C.1 rfl (hb C.2.2.1 hd) rfl hr
theorem go_i2c {x : Int32} {rest : List Value} (q : Nat) (hp : pc + 1 = q) (hd : decode B.2.1 pc = .ok (.i2c, 1)) (hst : st = .int x :: rest) (H : Go B Z a0 h0 Q k n ds q ls (.int x.toUInt32.toUInt16.toUInt32.toInt32 :: rest)) : Go B Z a0 h0 Q k n ds pc ls st := by
  subst hp hst; exact H.step fun C X _ t hr => XS.i2c X.here C.1 rfl (hb C.2.2.1 hd) rfl hr
theorem go_lcmp {x y : Int64} {rest : List Value} (q : Nat) (hp : pc + 1 = q) (hd : decode B.2.1 pc = .ok (.lcmp, 1)) (hst : st = .long y :: .long x :: rest) (H : Go B Z a0 h0 Q k n ds q ls (.int (lcmpW x y) :: rest)) : Go B Z a0 h0 Q k n ds pc ls st := by
  subst hp hst; exact H.step fun C X _ t hr => XS.lcmp X.here C.1 rfl (hb C.2.2.1 hd) rfl hr
theorem go_iinc {j : Nat} {cst : Int} {x : Int32} (l' : Array Slot) (q : Nat) (hp : pc + 3 = q) (hd : decode B.2.1 pc = .ok (.iinc j cst, 3)) (hl : ls[j]? = some (.val (.int x))) (hl' : storeLocals ls j (.int (x + Int32.ofInt cst)) = some l') (H : Go B Z a0 h0 Q k n ds q l' (st)) : Go B Z a0 h0 Q k n ds pc ls st := by
  subst hp; exact H.step fun C X _ t hr => XS.iinc X.here C.1 rfl (hb C.2.2.1 hd) hl hl' hr
theorem go_pop {x : Value} {rest : List Value} (q : Nat) (hp : pc + 1 = q) (hd : decode B.2.1 pc = .ok (.pop, 1)) (hst : st = x :: rest) (hc : x.category = 1) (H : Go B Z a0 h0 Q k n ds q ls (rest)) : Go B Z a0 h0 Q k n ds pc ls st := by
  subst hp hst; exact H.step fun C X _ t hr => XS.pop X.here C.1 rfl (hb C.2.2.1 hd) rfl hc hr
/-! calls: the callee's Met pays -/
theorem go_initObj {a : Addr} {idx : Nat} {rest : List Value} (q : Nat) (hp : pc + 3 = q) (hd : decode B.2.1 pc = .ok (.invokespecial idx, 3)) (hst : st = .ref a :: rest) (w1 : (Jvm.Cond.methodLink B.1.cls idx Lib.objectInit).before a0 Z = true) (w2 : (Jvm.Cond.instanceMethod Lib.objectInit).before a0 Z = true) (w3 : (Jvm.Cond.code Lib.objectInit ⟨#[0xb1]⟩ 1 none).before a0 Z = true)
    (hsz : ls.size = B.2.2.1) (hf : 1 ≤ B.2.2.2.2.frames) (hl : (rest.map fun v => v.category).sum + 12 ≤ B.2.2.2.2.locals) (H : Go B Z a0 h0 Q k n ds q ls rest) : Go B Z a0 h0 Q k n ds pc ls st := by
  subst hp hst
  intro p l e s m args below meth c T locs hs as Cc X N M R
  obtain ⟨T', X', e', st'⟩ := initO X Cc.1 Cc.2.1 Cc.2.2.2.2.1 w1 w2 w3 rfl (g := mkF m pc ls (.ref a :: rest)) rfl (hsz.trans Cc.2.2.2.1.symm) rfl (hb Cc.2.2.1 hd) hf (W := (rest.map fun v => v.category).sum) (by show 2 * 0 + _ ≤ _; omega) hl
  exact (H p l e s m args below meth c T' locs hs as Cc X' N (by rw [e']; exact M) (by rw [e']; exact R)).back st'
variable {y z : MethodName} {bytes : ByteArray} {maxL : Nat} {ret : Option FieldType} {rm : Room} {idx : Nat} {argsL rest : List Value} {ps : List FieldType} {Q' : Option Value → Mem → Prop}
theorem go_callS (q : Nat) (hp : pc + 3 = q) (hd : decode B.2.1 pc = .ok (.invokestatic idx, 3)) (w1 : (Jvm.Cond.methodLink B.1.cls idx y).before a0 Z = true) (w2 : (Jvm.Cond.static y).before a0 Z = true) (w3 : (Jvm.Cond.initialized y.cls).before a0 Z = true) (w4 : (Jvm.Cond.code y bytes maxL ret).before a0 Z = true)
    (hy : y.cls ≠ "java/lang/invoke/MethodHandle" ∧ y.cls ≠ "java/lang/invoke/VarHandle") (hM : Met (y, bytes, maxL, ret, rm) Z a0 h0 argsL.toArray ds Q') (hst : st = argsL.reverse ++ rest) (hpd : parseMethodDescriptor y.desc = some ⟨ps, ret⟩) (hlen : argsL.length = ps.length)
    (hsz : ls.size = B.2.2.1) (W : Nat) (hW : (rest.map fun v => v.category).sum = W) (hf : rm.frames + 1 ≤ B.2.2.2.2.frames) (hl : W + (maxL + 11) + rm.locals ≤ B.2.2.2.2.locals) (hk : k + rm.cells ≤ B.2.2.2.2.cells) (hn : n + rm.slots ≤ B.2.2.2.2.slots)
    (H : ∀ v ds', Q' v ds' → Go B Z a0 h0 Q (k + rm.cells) (n + rm.slots) ds' q ls (v.toList ++ rest)) : Go B Z a0 h0 Q k n ds pc ls st := by
  subst hp hst
  intro p l e s m args below meth c T locs hs as Cc X N M R
  have hZ := Cc.2.1
  obtain ⟨v, _, ⟨T', L', k', n'⟩, -, X', ⟨Lc, hQ, l1, y1, z1⟩, st'⟩ := Jvm.LawKit.callS X Cc.1 (y := y) Cc.2.2.2.2.1 (mvT hZ w1) (mvT hZ w2) (mvT hZ w3) (mvT hZ w4) hy (backOf (W := W) (hM l [] T.heap M) hZ w4 w3 hf hl) (g := mkF m pc ls (argsL.reverse ++ rest)) rfl (hsz.trans Cc.2.2.2.1.symm) (argsL := argsL) (rest := rest) (lenOf hpd hlen) rfl (by show 2 * 0 + _ ≤ _; omega) (hb Cc.2.2.1 hd) (fun _ _ => ⟨rfl, rfl, hk, hn⟩)
  dsimp only [Pt.U, Pt.locs, Pt.cells, Pt.slots] at X' l1 y1 z1 st' hQ
  subst l1 y1 z1
  obtain ⟨N', ds', M', R', hq⟩ := hQ
  exact (H v ds' hq p l e s m args below meth c T' _ hs as Cc X' (Fr.app N N') M' (R.call R')).back st'
theorem go_callI {a : Addr} (q : Nat) (hp : pc + 3 = q) (hd : decode B.2.1 pc = .ok (.invokespecial idx, 3)) (hin : y.name = "<init>") (w1 : (Jvm.Cond.methodLink B.1.cls idx y).before a0 Z = true) (w2 : (Jvm.Cond.instanceMethod y).before a0 Z = true) (w3 : (Jvm.Cond.initialized y.cls).before a0 Z = true) (w4 : (Jvm.Cond.code y bytes maxL none).before a0 Z = true)
    (hy : y.cls ≠ "java/lang/invoke/MethodHandle" ∧ y.cls ≠ "java/lang/invoke/VarHandle") (hM : Met (y, bytes, maxL, none, rm) Z a0 h0 (.ref a :: argsL).toArray ds Q') (hst : st = argsL.reverse ++ .ref a :: rest) (hpd : parseMethodDescriptor y.desc = some ⟨ps, ret⟩) (hlen : argsL.length = ps.length)
    (hsz : ls.size = B.2.2.1) (W : Nat) (hW : (rest.map fun v => v.category).sum = W) (hf : rm.frames + 1 ≤ B.2.2.2.2.frames) (hl : W + (maxL + 11) + rm.locals ≤ B.2.2.2.2.locals) (hk : k + rm.cells ≤ B.2.2.2.2.cells) (hn : n + rm.slots ≤ B.2.2.2.2.slots)
    (H : ∀ v ds', Q' v ds' → Go B Z a0 h0 Q (k + rm.cells) (n + rm.slots) ds' q ls (v.toList ++ rest)) : Go B Z a0 h0 Q k n ds pc ls st := by
  subst hp hst
  intro p l e s m args below meth c T locs hs as Cc X N M R
  have hZ := Cc.2.1
  obtain ⟨v, _, ⟨T', L', k', n'⟩, -, X', ⟨Lc, hQ, l1, y1, z1⟩, st'⟩ := X.specialBack Cc.1 (y := y) hin Cc.2.2.2.2.1 (mvT hZ w1) (mvT hZ w2) (mvT hZ w4) hy (backOf (W := W) (hM l [] T.heap M) hZ w4 w3 hf hl) (g := mkF m pc ls (argsL.reverse ++ .ref a :: rest)) rfl (hsz.trans Cc.2.2.2.1.symm) (Steps.refl _) (a := a) (argsL := argsL) (rest := rest) (lenOf hpd hlen) rfl (by show 2 * 0 + _ ≤ _; omega) (hb Cc.2.2.1 hd) (fun _ _ => ⟨rfl, rfl, hk, hn⟩)
  dsimp only [Pt.U, Pt.locs, Pt.cells, Pt.slots] at X' l1 y1 z1 st' hQ
  subst l1 y1 z1
  obtain ⟨N', ds', M', R', hq⟩ := hQ
  exact (H v ds' hq p l e s m args below meth c T' _ hs as Cc X' (Fr.app N N') M' (R.call R')).back fun t hr => st'.trans hr
theorem go_callVz {a : Addr} {C : String} (q : Nat) (hp : pc + 3 = q) (hd : decode B.2.1 pc = .ok (.invokevirtual idx, 3)) (w1 : (Jvm.Cond.methodLink B.1.cls idx y).before a0 Z = true) (w2 : (Jvm.Cond.declares y).before a0 Z = true) (w3 : (Jvm.Cond.selects C y z).before a0 Z = true) (w4 : (Jvm.Cond.instanceMethod z).before a0 Z = true) (w5 : (Jvm.Cond.initialized z.cls).before a0 Z = true) (w6 : (Jvm.Cond.code z bytes maxL ret).before a0 Z = true)
    (hnf : ∀ s : State, Z.Warmed39 s.vm → NotFace s y) (hy : y.cls ≠ "java/lang/invoke/MethodHandle" ∧ y.cls ≠ "java/lang/invoke/VarHandle") (hE : ∀ h, Mo Z a0 h0 ds h → Exa Z h a C) (hM : Met (z, bytes, maxL, ret, rm) Z a0 h0 (.ref a :: argsL).toArray ds Q') (hst : st = argsL.reverse ++ .ref a :: rest) (hpd : parseMethodDescriptor y.desc = some ⟨ps, ret⟩) (hlen : argsL.length = ps.length)
    (hsz : ls.size = B.2.2.1) (W : Nat) (hW : (rest.map fun v => v.category).sum = W) (hf : rm.frames + 1 ≤ B.2.2.2.2.frames) (hl : W + (maxL + 11) + rm.locals ≤ B.2.2.2.2.locals) (hk : k + rm.cells ≤ B.2.2.2.2.cells) (hn : n + rm.slots ≤ B.2.2.2.2.slots)
    (H : ∀ v ds', Q' v ds' → Go B Z a0 h0 Q (k + rm.cells) (n + rm.slots) ds' q ls (v.toList ++ rest)) : Go B Z a0 h0 Q k n ds pc ls st := by
  subst hp hst
  intro p l e s m args below meth c T locs hs as Cc X N M R
  have hZ := Cc.2.1
  obtain ⟨cq, kq, qa, qb, qc⟩ := isOf hZ rfl (hE _ M)
  obtain ⟨v, _, ⟨T', L', k', n'⟩, -, X', ⟨Lc, hQ, l1, y1, z1⟩, st'⟩ := X.virtualBack Cc.1 (y := y) (z := z) Cc.2.2.2.2.1 (mvT hZ w1) (mvT hZ w2) (hnf _ hZ) (mvT hZ w3) (mvT hZ w4) hy (backOf (W := W) (hM l [] T.heap M) hZ w6 w5 hf hl) qa qc (g := mkF m pc ls (argsL.reverse ++ .ref a :: rest)) rfl (hsz.trans Cc.2.2.2.1.symm) (Steps.refl _) (argsL := argsL) (rest := rest) (lenOf hpd hlen) rfl (by show 2 * 0 + _ ≤ _; omega) (hb Cc.2.2.1 hd) (fun _ _ => ⟨rfl, rfl, hk, hn⟩)
  dsimp only [Pt.U, Pt.locs, Pt.cells, Pt.slots] at X' l1 y1 z1 st' hQ
  subst l1 y1 z1
  obtain ⟨N', ds', M', R', hq⟩ := hQ
  exact (H v ds' hq p l e s m args below meth c T' _ hs as Cc X' (Fr.app N N') M' (R.call R')).back fun t hr => st'.trans hr
theorem go_callV {a : Addr} {C : String} (q : Nat) (hp : pc + 3 = q) (hd : decode B.2.1 pc = .ok (.invokevirtual idx, 3)) (w1 : (Jvm.Cond.methodLink B.1.cls idx y).before a0 Z = true) (w2 : (Jvm.Cond.declares y).before a0 Z = true) (w3 : (Jvm.Cond.selects C y y).before a0 Z = true) (w4 : (Jvm.Cond.instanceMethod y).before a0 Z = true) (w5 : (Jvm.Cond.initialized y.cls).before a0 Z = true) (w6 : (Jvm.Cond.code y bytes maxL ret).before a0 Z = true)
    (hy : y.cls ≠ "java/lang/invoke/MethodHandle" ∧ y.cls ≠ "java/lang/invoke/VarHandle") (hE : ∀ h, Mo Z a0 h0 ds h → Exa Z h a C) (hM : Met (y, bytes, maxL, ret, rm) Z a0 h0 (.ref a :: argsL).toArray ds Q') (hst : st = argsL.reverse ++ .ref a :: rest) (hpd : parseMethodDescriptor y.desc = some ⟨ps, ret⟩) (hlen : argsL.length = ps.length)
    (hsz : ls.size = B.2.2.1) (W : Nat) (hW : (rest.map fun v => v.category).sum = W) (hf : rm.frames + 1 ≤ B.2.2.2.2.frames) (hl : W + (maxL + 11) + rm.locals ≤ B.2.2.2.2.locals) (hk : k + rm.cells ≤ B.2.2.2.2.cells) (hn : n + rm.slots ≤ B.2.2.2.2.slots)
    (H : ∀ v ds', Q' v ds' → Go B Z a0 h0 Q (k + rm.cells) (n + rm.slots) ds' q ls (v.toList ++ rest)) : Go B Z a0 h0 Q k n ds pc ls st :=
  go_callVz q hp hd w1 w2 w3 w4 w5 w6 (fun s hZ => notFace_of_selects (args := #[]) (mvT hZ w3)) hy hE hM hst hpd hlen hsz W hW hf hl hk hn H
theorem go_callF {a : Addr} {C : String} {cnt : Nat} (q : Nat) (hp : pc + 5 = q) (hd : decode B.2.1 pc = .ok (.invokeinterface idx cnt, 5)) (w1 : (Jvm.Cond.methodLink B.1.cls idx y).before a0 Z = true) (w2 : (Jvm.Cond.declares y).before a0 Z = true) (wf : (Jvm.Cond.interfaceMethod y.cls y.cls y.name y.desc).before a0 Z = true) (tf : ((Jvm.Cond.interfaceMethod y.cls y.cls y.name y.desc).onTables && (Jvm.Cond.interfaceMethod y.cls y.cls y.name y.desc).keepsFace) = true) (w3 : (Jvm.Cond.selects C y z).before a0 Z = true) (w4 : (Jvm.Cond.instanceMethod z).before a0 Z = true) (wp : (Jvm.Cond.publicMethod z).before a0 Z = true) (wu : (Jvm.Cond.unhidden C y.name y.desc).before a0 Z = true) (wc : (Jvm.Cond.castable C y.cls).before a0 Z = true) (w5 : (Jvm.Cond.initialized z.cls).before a0 Z = true) (w6 : (Jvm.Cond.code z bytes maxL ret).before a0 Z = true)
    (hy : y.cls ≠ "java/lang/invoke/MethodHandle" ∧ y.cls ≠ "java/lang/invoke/VarHandle") (hE : ∀ h, Mo Z a0 h0 ds h → Exa Z h a C) (hM : Met (z, bytes, maxL, ret, rm) Z a0 h0 (.ref a :: argsL).toArray ds Q') (hst : st = argsL.reverse ++ .ref a :: rest) (hpd : parseMethodDescriptor y.desc = some ⟨ps, ret⟩) (hlen : argsL.length = ps.length)
    (hsz : ls.size = B.2.2.1) (W : Nat) (hW : (rest.map fun v => v.category).sum = W) (hf : rm.frames + 1 ≤ B.2.2.2.2.frames) (hl : W + (maxL + 11) + rm.locals ≤ B.2.2.2.2.locals) (hk : k + rm.cells ≤ B.2.2.2.2.cells) (hn : n + rm.slots ≤ B.2.2.2.2.slots)
    (H : ∀ v ds', Q' v ds' → Go B Z a0 h0 Q (k + rm.cells) (n + rm.slots) ds' q ls (v.toList ++ rest)) : Go B Z a0 h0 Q k n ds pc ls st := by
  subst hp hst
  intro p l e s m args below meth c T locs hs as Cc X N M R
  have hZ := Cc.2.1
  obtain ⟨cq, kq, qa, qb, qc⟩ := isOf hZ rfl (hE _ M)
  obtain ⟨v, _, ⟨T', L', k', n'⟩, -, X', ⟨Lc, hQ, l1, y1, z1⟩, st'⟩ := X.interfaceBack Cc.1 (xi := y) (y := z) Cc.2.2.2.2.1 (mvT hZ w1) (mvT hZ w2) (mvT hZ wf (hd := tf)) (mvT hZ w3) (mvT hZ w4) (mvT hZ wp) (mvT hZ wu) (mvT hZ wc) hy (backOf (W := W) (hM l [] T.heap M) hZ w6 w5 hf hl) qa qb qc (g := mkF m pc ls (argsL.reverse ++ .ref a :: rest)) rfl (hsz.trans Cc.2.2.2.1.symm) (Steps.refl _) (argsL := argsL) (rest := rest) (lenOf hpd hlen) rfl (by show 2 * 0 + _ ≤ _; omega) (hb Cc.2.2.1 hd) (fun _ _ => ⟨rfl, rfl, hk, hn⟩)
  dsimp only [Pt.U, Pt.locs, Pt.cells, Pt.slots] at X' l1 y1 z1 st' hQ
  subst l1 y1 z1
  obtain ⟨N', ds', M', R', hq⟩ := hQ
  exact (H v ds' hq p l e s m args below meth c T' _ hs as Cc X' (Fr.app N N') M' (R.call R')).back fun t hr => st'.trans hr
theorem go_cast {a : Addr} {K : String} (q : Nat) (hp : pc + 3 = q) (hd : decode B.2.1 pc = .ok (.checkcast idx, 3)) (hst : st = .ref a :: rest) (w : (Jvm.Cond.classLink B.1.cls idx K).before a0 Z = true) (hI : ∀ h, Mo Z a0 h0 ds h → Ins Z h a K true) (H : Go B Z a0 h0 Q k n ds q ls st) : Go B Z a0 h0 Q k n ds pc ls st := by
  subst hp hst
  intro p l e s m args below meth c T locs hs as Cc X N M R
  obtain ⟨T', X', e', st'⟩ := castY X Cc.1 Cc.2.1 Cc.2.2.2.2.1 w rfl (hI _ M) (g := mkF m pc ls (.ref a :: rest)) rfl rfl (hb Cc.2.2.1 hd)
  exact (H p l e s m args below meth c T' locs hs as Cc X' N (by rw [e']; exact M) (by rw [e']; exact R)).back st'
theorem go_instY {a : Addr} {K : String} (q : Nat) (hp : pc + 3 = q) (hd : decode B.2.1 pc = .ok (.instanceof idx, 3)) (hst : st = .ref a :: rest) (w : (Jvm.Cond.classLink B.1.cls idx K).before a0 Z = true) (hI : ∀ h, Mo Z a0 h0 ds h → Ins Z h a K true) (H : Go B Z a0 h0 Q k n ds q ls (.int 1 :: rest)) : Go B Z a0 h0 Q k n ds pc ls st := by
  subst hp hst
  intro p l e s m args below meth c T locs hs as Cc X N M R
  obtain ⟨T', X', e', st'⟩ := instY X Cc.1 Cc.2.1 Cc.2.2.2.2.1 w rfl (hI _ M) (g := mkF m pc ls (.ref a :: rest)) rfl rfl (hb Cc.2.2.1 hd)
  exact (H p l e s m args below meth c T' locs hs as Cc X' N (by rw [e']; exact M) (by rw [e']; exact R)).back st'
end Core
section InstNo
variable {Z : State}
theorem nsRoot {a0 : Array Value} {O K : String} {sz : Nat} (w : (Jvm.Cond.noSuperclass O).before a0 Z = true) (wk : (Jvm.Cond.instantiable K sz).before a0 Z = true) (hn : O ≠ K) : NS Z O K := by
  obtain ⟨c, k, h1, h2, h3, -, -⟩ := Jvm.Cond.noSuperclass_spec w
  obtain ⟨t, kt, g1, -⟩ := Jvm.Cond.instantiable_spec wk
  have ne := ids_ne h1 g1 hn
  refine ⟨c, t, h1, g1, fun fuel => ?_⟩
  cases fuel with
  | zero => rfl
  | succ f => simp [Vm.isSubclassAux, ne, h2, h3]
theorem nsNo {a0 : Array Value} {C S K : String} {sz : Nat} (w : (Jvm.Cond.superclass C S).before a0 Z = true) (wk : (Jvm.Cond.instantiable K sz).before a0 Z = true) (n : NS Z C K) (hn : C ≠ K) : ∃ c t, Z.vm.findClass C = some c ∧ Z.vm.findClass K = some t ∧ Z.vm.assignable c t = false := by
  obtain ⟨c, t, h0, g0, n3⟩ := n
  obtain ⟨p, k, kp, h1, h2, h3, h4, h5, -, h7⟩ := Jvm.Cond.superclass_spec h0 w
  obtain ⟨t', k', g1, g2, g3, g4, -⟩ := Jvm.Cond.instantiable_spec wk
  cases g0.symm.trans g1
  have g7 : k'.isInterface = false := by cases hq : k'.isInterface <;> simp_all
  have ne := ids_ne h0 g0 hn
  refine ⟨c, t, h0, g0, ?_⟩
  show Z.vm.assignableAux (255 + 1) c t = false
  simp [Vm.assignableAux, ne, h2, g2, h5, g3, g7, Vm.isSubclass, n3]
end InstNo
section InstGo
variable {B : Bdy} {Z : State} {a0 : Array Value} {h0 : Heap} {Q : Option Value → Mem → Prop} {k n : Nat} {ds : Mem} {pc : Nat} {ls : Array Slot} {st rest : List Value} {idx : Nat}
theorem go_instN {a : Addr} {C K : String} (q : Nat) (hp : pc + 3 = q) (hd : decode B.2.1 pc = .ok (.instanceof idx, 3)) (hst : st = .ref a :: rest) (w : (Jvm.Cond.classLink B.1.cls idx K).before a0 Z = true) (hE : ∀ h, Mo Z a0 h0 ds h → Exa Z h a C) (F : ∃ c t, Z.vm.findClass C = some c ∧ Z.vm.findClass K = some t ∧ Z.vm.assignable c t = false) (H : Go B Z a0 h0 Q k n ds q ls (.int 0 :: rest)) : Go B Z a0 h0 Q k n ds pc ls st := by
  subst hp hst
  intro p l e s m args below meth c T locs hs as Cc X N M R
  obtain ⟨T', X', e', st'⟩ := instNo X Cc.1 Cc.2.1 Cc.2.2.2.2.1 w rfl (hE _ M) F (g := mkF m pc ls (.ref a :: rest)) rfl rfl (hb Cc.2.2.1 hd)
  exact (H p l e s m args below meth c T' locs hs as Cc X' N (by rw [e']; exact M) (by rw [e']; exact R)).back st'
theorem go_inst0 (q : Nat) (hp : pc + 3 = q) (hd : decode B.2.1 pc = .ok (.instanceof idx, 3)) (hst : st = .null :: rest) (H : Go B Z a0 h0 Q k n ds q ls (.int 0 :: rest)) : Go B Z a0 h0 Q k n ds pc ls st := by
  subst hp hst
  exact H.step fun C X _ t hr => X.instanceofNull C.1 (g := mkF _ pc ls (.null :: rest)) rfl rfl (hb C.2.2.1 hd) t hr
end InstGo
/-! THE WIDE LAYER: as the layer, but the walk's Stand is over 's0.setVm vm0': what was loaded since is booked; J is what is still known of the tables -/
def RelJ (J : Vm → Prop) (s0 s : State) (kz : Nat) : Prop := J s.vm ∧ ∃ (vm0 : Vm) (k0 : Nat), s = s0.setVm vm0 ∧ s0.Since vm0 k0 ∧ k0 ≤ kz
def TrW (kz : Nat) (hs : Heap) (as : List Addr) (ds : Mem) (h : Heap) : Prop := kz ≤ h.size ∧ Tr hs as ds h
section TrWs
variable {kz : Nat} {hs : Heap} {as : List Addr} {ds ds' : Mem} {h h' : Heap} {a : Addr} {D D' : Desc} {i sl : Nat} {v : Value}
theorem TrW.add (R : TrW kz hs as ds h) (E : Ext h h') : TrW kz hs as (ds ++ [(h.size, D)]) h' := ⟨Nat.le_trans R.1 E.1, R.2.add E⟩
theorem TrW.wr (R : TrW kz hs as ds h) (hi : ds[i]? = some (a, D)) (W : Wr h h' a sl v) : TrW kz hs as (ds.set i (a, D')) h' := ⟨by rw [W.size]; exact R.1, R.2.wr hi W⟩
theorem TrW.call (R : TrW kz hs as ds h) (R' : Tr h (ds.map (·.1)) ds' h') : TrW kz hs as ds' h' := ⟨Nat.le_trans R.1 R'.1, R.2.call R'⟩
end TrWs
def EndsW (B : Bdy) (Z : State) (a0 : Array Value) (h0 : Heap) (hs : Heap) (as : List Addr) (Q : Option Value → Mem → Prop) (p : Program) (e : Env) (below : List Frame) (s u : State) : Prop :=
  ∃ s₂ v L ds, Steps p.tables e below u s₂ ∧ s₂.status = .running ∧ Ended s₂ below (.returned v) ∧ Mo Z a0 h0 ds s₂.heap ∧ Tr hs as ds s₂.heap ∧ Q v ds ∧ Fr h0.size L ∧ ReturnedEndW s (.returned v) s₂ L B.2.2.2.2.cells B.2.2.2.2.slots
def GoW (J : Vm → Prop) (B : Bdy) (Z : State) (a0 : Array Value) (h0 : Heap) (Q : Option Value → Mem → Prop) (k n : Nat) (ds : Mem) (pc : Nat) (ls : Array Slot) (st : List Value) : Prop :=
  ∀ (p : Program) (l : Launch) (e : Env) (kz : Nat) (s0 s : State) (rl : RelJ J s0 s kz) (m : MethodId) (args : Array Value) (below : List Frame) (meth : Method) (c : Code) (T : State) (locs : List Loc) (hs : Heap) (as : List Addr),
    Cx B Z p s m meth c → Stand p l e B.2.2.2.2 s m args below meth c T locs k n → Fr h0.size locs → Mo Z a0 h0 ds T.heap → TrW kz hs as ds T.heap → EndsW B Z a0 h0 hs as Q p e below s0 (T.setTop (mkF m pc ls st))
def MetW (J : Vm → Prop) (B : Bdy) (Z : State) (a0 : Array Value) (h0 : Heap) (as : Array Value) (ds : Mem) (Q : Option Value → Mem → Prop) : Prop :=
  ∀ (l : Launch) (ws : List Jvm.Cond) (h : Heap), Mo Z a0 h0 ds h → MetFree l B.1 (head1 (Jvm.Cond.code B.1 B.2.1 B.2.2.1 B.2.2.2.1 :: ws) B.2.2.2.2) (fun a U => a = as ∧ Z.Warmed39 U.vm ∧ U.heap = h ∧ J U.vm) (fun _ _ _ _ _ => True)
    (fun _ U o U' => ∃ v L, o = .returned v ∧ MQ Z a0 h0 h (ds.map (·.1)) Q v U'.heap L ∧ ReturnedEndW U o U' L B.2.2.2.2.cells B.2.2.2.2.slots)
section CoreW
variable {B : Bdy} {Z : State} {a0 : Array Value} {h0 : Heap} {Q : Option Value → Mem → Prop} {k n : Nat} {ds : Mem} {pc : Nat} {ls : Array Slot} {st : List Value} {J : Vm → Prop}
theorem EndsW.back {hs : Heap} {as : List Addr} {p : Program} {e : Env} {below : List Frame} {s u u' : State} (F : EndsW B Z a0 h0 hs as Q p e below s u') (hst : ∀ t, Steps p.tables e below u' t → Steps p.tables e below u t) : EndsW B Z a0 h0 hs as Q p e below s u := by
  obtain ⟨s₂, v, L, ds, h1, r⟩ := F; exact ⟨s₂, v, L, ds, hst _ h1, r⟩
theorem GoW.step {pc' : Nat} {ls' : Array Slot} {st' : List Value} (H : GoW J B Z a0 h0 Q k n ds pc' ls' st')
    (hs : ∀ {p : Program} {l : Launch} {e : Env} {s : State} {m : MethodId} {args : Array Value} {below : List Frame} {meth : Method} {c : Code} {T : State} {locs : List Loc}, Cx B Z p s m meth c → Stand p l e B.2.2.2.2 s m args below meth c T locs k n → Mo Z a0 h0 ds T.heap → ∀ t, Steps p.tables e below (T.setTop (mkF m pc' ls' st')) t → Steps p.tables e below (T.setTop (mkF m pc ls st)) t) :
    GoW J B Z a0 h0 Q k n ds pc ls st := fun p l e kz s0 s rl m args below meth c T locs h1 as C X N M R => (H p l e kz s0 s rl m args below meth c T locs h1 as C X N M R).back (hs C X M)
theorem GoW.mono {Q' : Option Value → Mem → Prop} (H : GoW J B Z a0 h0 Q k n ds pc ls st) (hq : ∀ v ds', Q v ds' → Q' v ds') : GoW J B Z a0 h0 Q' k n ds pc ls st := fun p l e kz s0 s rl m args below meth c T locs hs as C X N M R => by
  obtain ⟨s₂, v, L, ds', h1, h2, h3, h4, h4', h5, r⟩ := H p l e kz s0 s rl m args below meth c T locs hs as C X N M R
  exact ⟨s₂, v, L, ds', h1, h2, h3, h4, h4', hq _ _ h5, r⟩
theorem GoW.know {P : Prop} (hP : ∀ h, Mo Z a0 h0 ds h → P) (H : P → GoW J B Z a0 h0 Q k n ds pc ls st) : GoW J B Z a0 h0 Q k n ds pc ls st := fun p l e kz s0 s rl m args below meth c T locs hs as C X N M R => H (hP _ M) p l e kz s0 s rl m args below meth c T locs hs as C X N M R
theorem GoW.more {k' n' : Nat} (H : GoW J B Z a0 h0 Q k' n' ds pc ls st) (hk : k ≤ k') (hn : n ≤ n') : GoW J B Z a0 h0 Q k n ds pc ls st := fun p l e kz s0 s rl m args below meth c T locs hs as C X N M R => H p l e kz s0 s rl m args below meth c T locs hs as C (X.more hk hn) N M R
theorem GoW.sub {ds' : Mem} (hs : List.Sublist ds' ds) (H : GoW J B Z a0 h0 Q k n ds' pc ls st) : GoW J B Z a0 h0 Q k n ds pc ls st := fun p l e kz s0 s rl m args below meth c T locs h1 as C X N M R =>
  H p l e kz s0 s rl m args below meth c T locs h1 as C X N ⟨M.1, fun q hq => M.2.1 q (hs.subset hq), M.2.2.sublist hs⟩ ⟨R.1, R.2.1, R.2.2.1, fun q hq => R.2.2.2 q (hs.subset hq)⟩
theorem GoW.perm {ds' : Mem} (hp : List.Perm ds' ds) (H : GoW J B Z a0 h0 Q k n ds' pc ls st) : GoW J B Z a0 h0 Q k n ds pc ls st := fun p l e kz s0 s rl m args below meth c T locs hs as C X N M R =>
  H p l e kz s0 s rl m args below meth c T locs hs as C X N (M.perm hp) ⟨R.1, R.2.1, R.2.2.1, fun q hq => R.2.2.2 q (hp.mem_iff.mp hq)⟩
theorem GoW.forget (H : GoW (fun _ => True) B Z a0 h0 Q k n ds pc ls st) : GoW J B Z a0 h0 Q k n ds pc ls st := fun p l e kz s0 s rl m args below meth c T locs hs as C X N M R =>
  H p l e kz s0 s ⟨trivial, rl.2⟩ m args below meth c T locs hs as C X N M R
theorem GoW.front (i : Nat) (hi : i < ds.length) (H : GoW J B Z a0 h0 Q k n (ds[i] :: ds.eraseIdx i) pc ls st) : GoW J B Z a0 h0 Q k n ds pc ls st := GoW.perm (by
  have e : ds = ds.take i ++ ds[i] :: ds.drop (i + 1) := by rw [List.getElem_cons_drop, List.take_append_drop]
  rw [List.eraseIdx_eq_take_drop_succ]
  exact (List.perm_middle.symm).trans (by rw [← e])) H
theorem MetW.of {as : Array Value} (hp : plainFor B.1 = true) (he : ∀ m, entryFrame m as B.2.2.1 = mkF m 0 ls []) (H : GoW J B Z a0 h0 Q 0 0 ds 0 ls []) : MetW J B Z a0 h0 as ds Q := by
  intro l ws h M
  refine MetFree.of_bodySF hp hisR ?_
  intro p e s m args below meth c s₁ Bd hml hP _
  obtain ⟨rfl, hZ, hh, hJ⟩ := hP
  have hown : s.vm.findClass B.1.cls = some m.cls := findClass_of_methodNamed Bd.named
  have hnm := (name_of_methodNamed Bd.named Bd.method).1
  have e0 : s₁.heap = h := by rw [← hh, Bd.state]; rfl
  obtain ⟨s₂, v, L, ds', h1, h2, h3, h4, h4', h5, h6, h7⟩ := H p l e s₁.heap.size s s ⟨hJ, s.vm, s.heap.size, rfl, (State.WarmedH.refl s).since _, by rw [e0, ← hh]; exact Nat.le_refl _⟩ m args below meth c s₁ [] h (ds.map (·.1)) ⟨Bd.exec, hZ, Bd.bytes, hml, hown, Bd.returns, Bd.notSynchronized, hnm⟩ (Stand.of_body Bd) (Fr.nil _) (by rw [e0]; exact M) ⟨Nat.le_refl _, by rw [e0]; exact Tr.start h ds⟩
  exact ⟨s₂, _, castTop (he m) h1, h2, h3, v, L, rfl, ⟨h6, ds', h4, h4', h5⟩, h7⟩
theorem MetW.mono {as : Array Value} {Q' : Option Value → Mem → Prop} (H : MetW J B Z a0 h0 as ds Q) (hq : ∀ v ds', Q v ds' → Q' v ds') : MetW J B Z a0 h0 as ds Q' := by
  intro l ws h M p e h1 h2 h3 s m args below h4 h5 h6 h7
  obtain ⟨n, o, g1, g2, g3, v, L, g4, ⟨g5, ds', g6, g6', g7⟩, g8⟩ := H l ws h M p e h1 h2 h3 s m args below h4 h5 h6 h7
  exact ⟨n, o, g1, g2, g3, v, L, g4, ⟨g5, ds', g6, g6', hq _ _ g7⟩, g8⟩
theorem MetW.frame {as : Array Value} (rest : Mem) (H : MetW J B Z a0 h0 as ds Q) : MetW J B Z a0 h0 as (ds ++ rest) (fun v D => ∃ ds', Q v ds' ∧ D = ds' ++ rest) := by
  intro l ws h M p e h1 h2 h3 s m args below h4 h5 h6 h7
  have M1 : Mo Z a0 h0 ds h := ⟨M.1, fun q hq => M.2.1 q (List.mem_append_left _ hq), (List.pairwise_append.mp M.2.2).1⟩
  obtain ⟨n, o, g1, g2, g3, v, L, g4, ⟨g5, ds', g6, g6', g7⟩, g8⟩ := H l ws h M1 p e h1 h2 h3 s m args below h4 h5 h6 h7
  have nin : ∀ q ∈ rest, q.1 ∉ ds.map (·.1) := fun q hq m => by
    obtain ⟨r, hr, e⟩ := List.mem_map.mp m
    exact (List.pairwise_append.mp M.2.2).2.2 r hr q hq e
  refine ⟨n, o, g1, g2, g3, v, L, g4, ⟨g5, ds' ++ rest, ⟨g6.1, fun q hq => ?_, List.pairwise_append.mpr ⟨g6.2.2, (List.pairwise_append.mp M.2.2).2.1, fun q hq r hr => ?_⟩⟩, ⟨g6'.1, fun x c q r => g6'.2.1 x c q fun m => r ?_, fun q hq => ?_⟩, ds', g7, rfl⟩, g8⟩
  · rcases List.mem_append.mp hq with hq | hq
    · exact g6.2.1 q hq
    · obtain ⟨m1, m2⟩ := M.2.1 q (List.mem_append_right _ hq)
      exact ⟨m1, m2.frame g6'.2.1 (nin q hq)⟩
  · intro e
    rcases g6'.2.2 q hq with m | m
    · exact nin r hr (e ▸ m)
    · exact absurd (M.2.1 r (List.mem_append_right _ hr)).2.lt (Nat.not_lt.mpr (e ▸ m))
  · rw [List.map_append]; exact List.mem_append_left _ m
  · rcases List.mem_append.mp hq with hq | hq
    · rcases g6'.2.2 q hq with m | m
      · exact Or.inl (by rw [List.map_append]; exact List.mem_append_left _ m)
      · exact Or.inr m
    · exact Or.inl (List.mem_map.mpr ⟨q, List.mem_append_right _ hq, rfl⟩)
theorem gw_end {v : Option Value} (hk : k ≤ B.2.2.2.2.cells) (hn : n ≤ B.2.2.2.2.slots) (hv : B.2.2.2.1 = none → v = none) (HQ : Q v ds)
    (hs : ∀ {p : Program} {l : Launch} {e : Env} {s : State} {m : MethodId} {args : Array Value} {below : List Frame} {meth : Method} {c : Code} {T : State} {locs : List Loc}, Cx B Z p s m meth c → Stand p l e B.2.2.2.2 s m args below meth c T locs k n → ∀ {fs : List Frame}, (∀ (f : JFrame) (acts : List Action), f.method = m → f.locked = none → f.entered = [] → (doReturn e (T.setTop f) acts v).1 = T.setFrames fs) → Steps p.tables e below (T.setTop (mkF m pc ls st)) (T.setFrames fs)) :
    GoW J B Z a0 h0 Q k n ds pc ls st := by
  intro p l e kz s0 s rl m args below meth c T locs h1 as C X N M R
  obtain ⟨-, vm0, k0, rfl, hS, hk0⟩ := rl
  obtain ⟨fs, hr, hrun, hended, hEnd⟩ := X.leaveW hS (Nat.le_trans hk0 R.1) (v := v) (fun q => hv (C.2.2.2.2.2.1.symm.trans q)) C.2.2.2.2.2.2.1
  exact ⟨_, v, locs, ds, hs C X hr, hrun, hended, M, R.2, HQ, N, hEnd.1, hEnd.2.1, hEnd.2.2.1, hEnd.2.2.2.mono hk hn⟩
theorem gw_return (hd : decode B.2.1 pc = .ok (.return_, 1)) (hret : B.2.2.2.1 = none) (hst : st = []) (hk : k ≤ B.2.2.2.2.cells) (hn : n ≤ B.2.2.2.2.slots) (HQ : Q none ds) : GoW J B Z a0 h0 Q k n ds pc ls st := by
  subst hst
  exact gw_end hk hn (fun _ => rfl) HQ fun C X _ hr => X.returnOut C.1 (C.2.2.2.2.2.1.trans hret) (hb C.2.2.1 hd) hr
theorem gw_ireturn {z : Int32} {rest : List Value} {t : FieldType} (hd : decode B.2.1 pc = .ok (.ireturn, 1)) (hret : B.2.2.2.1 = some t) (ht : t = .int ∨ t = .boolean ∨ t = .byte ∨ t = .char ∨ t = .short) (hst : st = .int z :: rest) (hz : narrow t (.int z) = .int z) (hk : k ≤ B.2.2.2.2.cells) (hn : n ≤ B.2.2.2.2.slots) (HQ : Q (some (.int z)) ds) : GoW J B Z a0 h0 Q k n ds pc ls st := by
  subst hst
  exact gw_end hk hn (fun q => by rw [hret] at q; cases q) HQ fun C X _ hr => retOut X C.1 (C.2.2.2.2.2.1.trans hret) hz (Or.inl ⟨rfl, ht, _, rfl⟩) (hb C.2.2.1 hd) hr
theorem gw_lreturn {z : Int64} {rest : List Value} (hd : decode B.2.1 pc = .ok (.lreturn, 1)) (hret : B.2.2.2.1 = some .long) (hst : st = .long z :: rest) (hk : k ≤ B.2.2.2.2.cells) (hn : n ≤ B.2.2.2.2.slots) (HQ : Q (some (.long z)) ds) : GoW J B Z a0 h0 Q k n ds pc ls st := by
  subst hst
  exact gw_end hk hn (fun q => by rw [hret] at q; cases q) HQ fun C X _ hr => retOut X C.1 (C.2.2.2.2.2.1.trans hret) rfl (Or.inr (Or.inl ⟨rfl, rfl, _, rfl⟩)) (hb C.2.2.1 hd) hr
theorem gw_if {cd : ClassFile.Cond} {x : Int32} {rest : List Value} {o : Int} (q1 q2 : Nat) (hp : pc + 3 = q2) (ho : 0 ≤ (pc : Int) + o) (hq : ((pc : Int) + o).toNat = q1) (hd : decode B.2.1 pc = .ok (.ifCond cd o, 3)) (hst : st = .int x :: rest)
    (H1 : cmpZ cd x → GoW J B Z a0 h0 Q k n ds q1 ls rest) (H2 : ¬ cmpZ cd x → GoW J B Z a0 h0 Q k n ds q2 ls rest) : GoW J B Z a0 h0 Q k n ds pc ls st := by
  subst hst hp
  cases hc : ifCond.holds cd x
  · exact (H2 fun q => by rw [(cmpZ_iff cd x).mpr q] at hc; cases hc).step fun C X _ t hr => XS.ifNo X.here C.1 rfl (hb C.2.2.1 hd) rfl hc hr
  · exact (H1 ((cmpZ_iff cd x).mp hc)).step fun C X _ t hr => XS.ifYes X.here C.1 rfl rfl (hb C.2.2.1 hd) rfl hc ho hq hr
theorem gw_icmp {cd : ClassFile.Cond} {x y : Int32} {rest : List Value} {o : Int} (q1 q2 : Nat) (hp : pc + 3 = q2) (ho : 0 ≤ (pc : Int) + o) (hq : ((pc : Int) + o).toNat = q1) (hd : decode B.2.1 pc = .ok (.if_icmp cd o, 3)) (hst : st = .int y :: .int x :: rest)
    (H1 : cmpP cd x y → GoW J B Z a0 h0 Q k n ds q1 ls rest) (H2 : ¬ cmpP cd x y → GoW J B Z a0 h0 Q k n ds q2 ls rest) : GoW J B Z a0 h0 Q k n ds pc ls st := by
  subst hst hp
  cases hc : if_icmp.holds cd x y
  · exact (H2 fun q => by rw [(cmpP_iff cd x y).mpr q] at hc; cases hc).step fun C X _ t hr => XS.icmpNo X.here C.1 rfl (hb C.2.2.1 hd) rfl hc hr
  · exact (H1 ((cmpP_iff cd x y).mp hc)).step fun C X _ t hr => XS.icmpYes X.here C.1 rfl rfl (hb C.2.2.1 hd) rfl hc ho hq hr
theorem gw_goto {o : Int} (q : Nat) (ho : 0 ≤ (pc : Int) + o) (hq : ((pc : Int) + o).toNat = q) (hd : decode B.2.1 pc = .ok (.goto o, 3)) (H : GoW J B Z a0 h0 Q k n ds q ls st) : GoW J B Z a0 h0 Q k n ds pc ls st :=
  H.step fun C X _ t hr => XS.goto X.here C.1 rfl rfl (hb C.2.2.1 hd) ho hq hr
theorem gw_ldc2 {idx : Nat} {v : Int64} (q : Nat) (hp : pc + 3 = q) (hd : decode B.2.1 pc = .ok (.ldc2_w idx, 3)) (w : (Jvm.Cond.constantLong B.1.cls idx v).before a0 Z = true) (H : GoW J B Z a0 h0 Q k n ds q ls (.long v :: st)) : GoW J B Z a0 h0 Q k n ds pc ls st := by
  subst hp; exact H.step fun C X _ t hr => X.ldc2Long C.1 C.2.2.2.2.1 (mvT C.2.1 w) (g := mkF _ pc ls st) rfl (hb C.2.2.1 hd) t hr
theorem gw_new {C : String} {idx sz : Nat} (q : Nat) (hp : pc + 3 = q) (hd : decode B.2.1 pc = .ok (.new idx, 3)) (w : (Jvm.Cond.classLink B.1.cls idx C).before a0 Z = true) (wi : (Jvm.Cond.instantiable C sz).before a0 Z = true) (wz : (Jvm.Cond.initialized C).before a0 Z = true)
    (hk : k + 1 ≤ B.2.2.2.2.cells) (hn : n + sz ≤ B.2.2.2.2.slots) (fs : Fds) (hfs : LaidL Z a0 C fs) (hnd : (fs.map (·.2.1)).Nodup) (H : ∀ a, GoW J B Z a0 h0 Q (k + 1) (n + sz) (ds ++ [ob a C fs]) q ls (.ref a :: st)) : GoW J B Z a0 h0 Q k n ds pc ls st := by
  subst hp
  intro p l e kz s0 s rl m args below meth c T locs hs as Cc X N M R
  obtain ⟨T', h', X', e', E', A', D', -, st'⟩ := newO X Cc.1 Cc.2.1 Cc.2.2.2.2.1 w wi wz rfl (g := mkF m pc ls st) rfl (hb Cc.2.2.1 hd) hk hn
  refine (H T.heap.size p l e kz s0 s rl m args below meth c T' locs hs as Cc X' N ?_ (by rw [e']; exact R.add E')).back st'
  rw [e']
  refine M.add E' ⟨A', fun f hf => ?_, hnd⟩
  obtain ⟨L, ty, h1, h2⟩ := hfs.mem f hf
  exact ⟨h2 ▸ D' L h1, L, ty, h1⟩
theorem gw_getS {O nm d : String} {v : Value} {idx : Nat} (q : Nat) (hp : pc + 3 = q) (hd : decode B.2.1 pc = .ok (.getstatic idx, 3)) (w : (Jvm.Cond.fieldLink B.1.cls idx O nm d).before a0 Z = true) (F : Sta Z h0 O nm d v) (H : GoW J B Z a0 h0 Q k n ds q ls (v :: st)) : GoW J B Z a0 h0 Q k n ds pc ls st := by
  subst hp
  intro p l e kz s0 s rl m args below meth c T locs hs as Cc X N M R
  obtain ⟨T', X', e', st'⟩ := getS X Cc.1 Cc.2.1 (host := "") Cc.2.2.2.2.1 w Via.refl rfl (F.ext M.1) (g := mkF m pc ls st) rfl (hb Cc.2.2.1 hd)
  exact (H p l e kz s0 s rl m args below meth c T' locs hs as Cc X' N (by rw [e']; exact M) (by rw [e']; exact R)).back st'
theorem gw_iloadN {j : Fin 4} {v : Int32} (q : Nat) (hp : pc + 1 = q) (hd : decode B.2.1 pc = .ok (.iload_n j, 1)) (hl : ls[j.val]? = some (.val (.int v))) (H : GoW J B Z a0 h0 Q k n ds q ls (.int v :: st)) : GoW J B Z a0 h0 Q k n ds pc ls st := by
  subst hp; exact H.step fun C X _ t hr => XS.iloadN X.here C.1 rfl (hb C.2.2.1 hd) hl hr
theorem gw_iload {j : Nat} {v : Int32} (q : Nat) (hp : pc + 2 = q) (hd : decode B.2.1 pc = .ok (.iload j, 2)) (hl : ls[j]? = some (.val (.int v))) (H : GoW J B Z a0 h0 Q k n ds q ls (.int v :: st)) : GoW J B Z a0 h0 Q k n ds pc ls st := by
  subst hp; exact H.step fun C X _ t hr => XS.iload X.here C.1 rfl (hb C.2.2.1 hd) hl hr
theorem gw_istoreN {j : Fin 4} {x : Int32} {rest : List Value} (l' : Array Slot) (q : Nat) (hp : pc + 1 = q) (hd : decode B.2.1 pc = .ok (.istore_n j, 1)) (hst : st = .int x :: rest) (hl : storeLocals ls j.val (.int x) = some l') (H : GoW J B Z a0 h0 Q k n ds q l' (rest)) : GoW J B Z a0 h0 Q k n ds pc ls st := by
  subst hp hst; exact H.step fun C X _ t hr => XS.istoreN X.here C.1 rfl (hb C.2.2.1 hd) rfl hl hr
theorem gw_istore {j : Nat} {x : Int32} {rest : List Value} (l' : Array Slot) (q : Nat) (hp : pc + 2 = q) (hd : decode B.2.1 pc = .ok (.istore j, 2)) (hst : st = .int x :: rest) (hl : storeLocals ls j (.int x) = some l') (H : GoW J B Z a0 h0 Q k n ds q l' (rest)) : GoW J B Z a0 h0 Q k n ds pc ls st := by
  subst hp hst; exact H.step fun C X _ t hr => XS.istore X.here C.1 rfl (hb C.2.2.1 hd) rfl hl hr
theorem gw_lloadN {j : Fin 4} {v : Int64} (q : Nat) (hp : pc + 1 = q) (hd : decode B.2.1 pc = .ok (.lload_n j, 1)) (hl : ls[j.val]? = some (.val (.long v))) (H : GoW J B Z a0 h0 Q k n ds q ls (.long v :: st)) : GoW J B Z a0 h0 Q k n ds pc ls st := by
  subst hp; exact H.step fun C X _ t hr => XS.lloadN X.here C.1 rfl (hb C.2.2.1 hd) hl hr
theorem gw_lload {j : Nat} {v : Int64} (q : Nat) (hp : pc + 2 = q) (hd : decode B.2.1 pc = .ok (.lload j, 2)) (hl : ls[j]? = some (.val (.long v))) (H : GoW J B Z a0 h0 Q k n ds q ls (.long v :: st)) : GoW J B Z a0 h0 Q k n ds pc ls st := by
  subst hp; exact H.step fun C X _ t hr => XS.lload X.here C.1 rfl (hb C.2.2.1 hd) hl hr
theorem gw_lstoreN {j : Fin 4} {x : Int64} {rest : List Value} (l' : Array Slot) (q : Nat) (hp : pc + 1 = q) (hd : decode B.2.1 pc = .ok (.lstore_n j, 1)) (hst : st = .long x :: rest) (hl : storeLocals ls j.val (.long x) = some l') (H : GoW J B Z a0 h0 Q k n ds q l' (rest)) : GoW J B Z a0 h0 Q k n ds pc ls st := by
  subst hp hst; exact H.step fun C X _ t hr => XS.lstoreN X.here C.1 rfl (hb C.2.2.1 hd) rfl hl hr
theorem gw_lstore {j : Nat} {x : Int64} {rest : List Value} (l' : Array Slot) (q : Nat) (hp : pc + 2 = q) (hd : decode B.2.1 pc = .ok (.lstore j, 2)) (hst : st = .long x :: rest) (hl : storeLocals ls j (.long x) = some l') (H : GoW J B Z a0 h0 Q k n ds q l' (rest)) : GoW J B Z a0 h0 Q k n ds pc ls st := by
  subst hp hst; exact H.step fun C X _ t hr => XS.lstore X.here C.1 rfl (hb C.2.2.1 hd) rfl hl hr
theorem gw_aloadN {j : Fin 4} {v : Value} (q : Nat) (hp : pc + 1 = q) (hd : decode B.2.1 pc = .ok (.aload_n j, 1)) (hl : ls[j.val]? = some (.val v)) (hv : v.isRef = true) (H : GoW J B Z a0 h0 Q k n ds q ls (v :: st)) : GoW J B Z a0 h0 Q k n ds pc ls st := by
  subst hp; exact H.step fun C X _ t hr => XS.aloadN X.here C.1 rfl (hb C.2.2.1 hd) hl hv hr
theorem gw_aload {j : Nat} {v : Value} (q : Nat) (hp : pc + 2 = q) (hd : decode B.2.1 pc = .ok (.aload j, 2)) (hl : ls[j]? = some (.val v)) (hv : v.isRef = true) (H : GoW J B Z a0 h0 Q k n ds q ls (v :: st)) : GoW J B Z a0 h0 Q k n ds pc ls st := by
  subst hp; exact H.step fun C X _ t hr => XS.aload X.here C.1 rfl (hb C.2.2.1 hd) hl hv hr
theorem gw_astore {j : Nat} {x : Value} {rest : List Value} (l' : Array Slot) (q : Nat) (hp : pc + 2 = q) (hd : decode B.2.1 pc = .ok (.astore j, 2)) (hst : st = x :: rest) (hv : x.isRef = true) (hl : storeLocals ls j x = some l') (H : GoW J B Z a0 h0 Q k n ds q l' (rest)) : GoW J B Z a0 h0 Q k n ds pc ls st := by
  subst hp hst; exact H.step fun C X _ t hr => XS.astore X.here C.1 rfl (hb C.2.2.1 hd) rfl hv hl hr
theorem gw_iconst {i : Int} (v : Int32) (q : Nat) (hp : pc + 1 = q) (hd : decode B.2.1 pc = .ok (.iconst i, 1)) (hv : Int32.ofInt i = v) (H : GoW J B Z a0 h0 Q k n ds q ls (.int v :: st)) : GoW J B Z a0 h0 Q k n ds pc ls st := by
  subst hp hv; exact H.step fun C X _ t hr => XS.iconst X.here C.1 rfl (hb C.2.2.1 hd) hr
theorem gw_bipush {i : Int} (v : Int32) (q : Nat) (hp : pc + 2 = q) (hd : decode B.2.1 pc = .ok (.bipush i, 2)) (hv : (Int8.ofInt i).toInt32 = v) (H : GoW J B Z a0 h0 Q k n ds q ls (.int v :: st)) : GoW J B Z a0 h0 Q k n ds pc ls st := by
  subst hp hv; exact H.step fun C X _ t hr => XS.bipush X.here C.1 rfl (hb C.2.2.1 hd) hr
theorem gw_lconst {i : Fin 2} (v : Int64) (q : Nat) (hp : pc + 1 = q) (hd : decode B.2.1 pc = .ok (.lconst i, 1)) (hv : Int64.ofNat i.val = v) (H : GoW J B Z a0 h0 Q k n ds q ls (.long v :: st)) : GoW J B Z a0 h0 Q k n ds pc ls st := by
  subst hp hv; exact H.step fun C X _ t hr => XS.lconst X.here C.1 rfl (hb C.2.2.1 hd) hr
theorem gw_aconstNull  (q : Nat) (hp : pc + 1 = q) (hd : decode B.2.1 pc = .ok (.aconst_null, 1)) (H : GoW J B Z a0 h0 Q k n ds q ls (.null :: st)) : GoW J B Z a0 h0 Q k n ds pc ls st := by
  subst hp; exact H.step fun C X _ t hr => XS.aconstNull X.here C.1 rfl (hb C.2.2.1 hd)  hr
theorem gw_iand {x y : Int32} {rest : List Value} (q : Nat) (hp : pc + 1 = q) (hd : decode B.2.1 pc = .ok (.iand, 1)) (hst : st = .int y :: .int x :: rest) (H : GoW J B Z a0 h0 Q k n ds q ls (.int (x &&& y) :: rest)) : GoW J B Z a0 h0 Q k n ds pc ls st := by
  subst hp hst; exact H.step fun C X _ t hr => XS.iand X.here C.1 rfl (hb C.2.2.1 hd) rfl hr
theorem gw_iushr {x y : Int32} {rest : List Value} (q : Nat) (hp : pc + 1 = q) (hd : decode B.2.1 pc = .ok (.iushr, 1)) (hst : st = .int y :: .int x :: rest) (H : GoW J B Z a0 h0 Q k n ds q ls (.int ((x.toUInt32 >>> (y &&& 31).toUInt32).toInt32) :: rest)) : GoW J B Z a0 h0 Q k n ds pc ls st := by
  subst hp hst; exact H.step fun C X _ t hr => XS.iushr X.here C.1 rfl (hb C.2.2.1 hd) rfl hr
theorem gw_ladd {x y : Int64} {rest : List Value} (q : Nat) (hp : pc + 1 = q) (hd : decode B.2.1 pc = .ok (.ladd, 1)) (hst : st = .long y :: .long x :: rest) (H : GoW J B Z a0 h0 Q k n ds q ls (.long (x + y) :: rest)) : GoW J B Z a0 h0 Q k n ds pc ls st := by
  subst hp hst; exact H.step fun C X _ t hr => XS.ladd X.here C.1 rfl (hb C.2.2.1 hd) rfl hr
theorem gw_lsub {x y : Int64} {rest : List Value} (q : Nat) (hp : pc + 1 = q) (hd : decode B.2.1 pc = .ok (.lsub, 1)) (hst : st = .long y :: .long x :: rest) (H : GoW J B Z a0 h0 Q k n ds q ls (.long (x - y) :: rest)) : GoW J B Z a0 h0 Q k n ds pc ls st := by
  subst hp hst; exact H.step fun C X _ t hr => XS.lsub X.here C.1 rfl (hb C.2.2.1 hd) rfl hr
theorem gw_lmul {x y : Int64} {rest : List Value} (q : Nat) (hp : pc + 1 = q) (hd : decode B.2.1 pc = .ok (.lmul, 1)) (hst : st = .long y :: .long x :: rest) (H : GoW J B Z a0 h0 Q k n ds q ls (.long (x * y) :: rest)) : GoW J B Z a0 h0 Q k n ds pc ls st := by
  subst hp hst; exact H.step fun C X _ t hr => XS.lmul X.here C.1 rfl (hb C.2.2.1 hd) rfl hr
theorem gw_land {x y : Int64} {rest : List Value} (q : Nat) (hp : pc + 1 = q) (hd : decode B.2.1 pc = .ok (.land, 1)) (hst : st = .long y :: .long x :: rest) (H : GoW J B Z a0 h0 Q k n ds q ls (.long (x &&& y) :: rest)) : GoW J B Z a0 h0 Q k n ds pc ls st := by
  subst hp hst; exact H.step fun C X _ t hr => XS.land X.here C.1 rfl (hb C.2.2.1 hd) rfl hr
theorem gw_irem {x y : Int32} {rest : List Value} (q : Nat) (hp : pc + 1 = q) (hd : decode B.2.1 pc = .ok (.irem, 1)) (hst : st = .int y :: .int x :: rest) (hy : y ≠ 0) (H : GoW J B Z a0 h0 Q k n ds q ls (.int (x % y) :: rest)) : GoW J B Z a0 h0 Q k n ds pc ls st := by
  subst hp hst; exact H.step fun C X _ t hr => iremM X C.1 rfl (hb C.2.2.1 hd) rfl hy hr
theorem gw_lrem {x y : Int64} {rest : List Value} (q : Nat) (hp : pc + 1 = q) (hd : decode B.2.1 pc = .ok (.lrem, 1)) (hst : st = .long y :: .long x :: rest) (hy : y ≠ 0) (H : GoW J B Z a0 h0 Q k n ds q ls (.long (x % y) :: rest)) : GoW J B Z a0 h0 Q k n ds pc ls st := by
  subst hp hst; exact H.step fun C X _ t hr => XS.lrem X.here C.1 rfl (hb C.2.2.1 hd) rfl hy (by rw [lrem_mod]; exact hr)
theorem gw_i2l {x : Int32} {rest : List Value} (q : Nat) (hp : pc + 1 = q) (hd : decode B.2.1 pc = .ok (.i2l, 1)) (hst : st = .int x :: rest) (H : GoW J B Z a0 h0 Q k n ds q ls (.long x.toInt64 :: rest)) : GoW J B Z a0 h0 Q k n ds pc ls st := by
  subst hp hst; exact H.step fun C X _ t hr => XS.i2l X.here C.1 rfl (hb C.2.2.1 hd) rfl hr
theorem gw_lcmp {x y : Int64} {rest : List Value} (q : Nat) (hp : pc + 1 = q) (hd : decode B.2.1 pc = .ok (.lcmp, 1)) (hst : st = .long y :: .long x :: rest) (H : GoW J B Z a0 h0 Q k n ds q ls (.int (lcmpW x y) :: rest)) : GoW J B Z a0 h0 Q k n ds pc ls st := by
  subst hp hst; exact H.step fun C X _ t hr => XS.lcmp X.here C.1 rfl (hb C.2.2.1 hd) rfl hr
theorem gw_iinc {j : Nat} {cst : Int} {x : Int32} (l' : Array Slot) (q : Nat) (hp : pc + 3 = q) (hd : decode B.2.1 pc = .ok (.iinc j cst, 3)) (hl : ls[j]? = some (.val (.int x))) (hl' : storeLocals ls j (.int (x + Int32.ofInt cst)) = some l') (H : GoW J B Z a0 h0 Q k n ds q l' (st)) : GoW J B Z a0 h0 Q k n ds pc ls st := by
  subst hp; exact H.step fun C X _ t hr => XS.iinc X.here C.1 rfl (hb C.2.2.1 hd) hl hl' hr
theorem gw_dup {x : Value} {rest : List Value} (q : Nat) (hp : pc + 1 = q) (hd : decode B.2.1 pc = .ok (.dup, 1)) (hst : st = x :: rest) (hc : x.category = 1) (H : GoW J B Z a0 h0 Q k n ds q ls (x :: x :: rest)) : GoW J B Z a0 h0 Q k n ds pc ls st := by
  subst hp hst; exact H.step fun C X _ t hr => XS.dup X.here C.1 rfl (hb C.2.2.1 hd) rfl hc hr
variable {y z : MethodName} {bytes : ByteArray} {maxL : Nat} {ret : Option FieldType} {rm : Room} {idx : Nat} {argsL rest : List Value} {ps : List FieldType} {Q' : Option Value → Mem → Prop}
theorem gw_callS (q : Nat) (hp : pc + 3 = q) (hd : decode B.2.1 pc = .ok (.invokestatic idx, 3)) (w1 : (Jvm.Cond.methodLink B.1.cls idx y).before a0 Z = true) (w2 : (Jvm.Cond.static y).before a0 Z = true) (w3 : (Jvm.Cond.initialized y.cls).before a0 Z = true) (w4 : (Jvm.Cond.code y bytes maxL ret).before a0 Z = true)
    (hy : y.cls ≠ "java/lang/invoke/MethodHandle" ∧ y.cls ≠ "java/lang/invoke/VarHandle") (hM : Met (y, bytes, maxL, ret, rm) Z a0 h0 argsL.toArray ds Q') (hst : st = argsL.reverse ++ rest) (hpd : parseMethodDescriptor y.desc = some ⟨ps, ret⟩) (hlen : argsL.length = ps.length)
    (hsz : ls.size = B.2.2.1) (W : Nat) (hW : (rest.map fun v => v.category).sum = W) (hf : rm.frames + 1 ≤ B.2.2.2.2.frames) (hl : W + (maxL + 11) + rm.locals ≤ B.2.2.2.2.locals) (hk : k + rm.cells ≤ B.2.2.2.2.cells) (hn : n + rm.slots ≤ B.2.2.2.2.slots)
    (H : ∀ v ds', Q' v ds' → GoW J B Z a0 h0 Q (k + rm.cells) (n + rm.slots) ds' q ls (v.toList ++ rest)) : GoW J B Z a0 h0 Q k n ds pc ls st := by
  subst hp hst
  intro p l e kz s0 s rl m args below meth c T locs hs as Cc X N M R
  have hZ := Cc.2.1
  obtain ⟨v, _, ⟨T', L', k', n'⟩, -, X', ⟨Lc, hQ, l1, y1, z1⟩, st'⟩ := Jvm.LawKit.callS X Cc.1 (y := y) Cc.2.2.2.2.1 (mvT hZ w1) (mvT hZ w2) (mvT hZ w3) (mvT hZ w4) hy (backOf (W := W) (hM l [] T.heap M) hZ w4 w3 hf hl) (g := mkF m pc ls (argsL.reverse ++ rest)) rfl (hsz.trans Cc.2.2.2.1.symm) (argsL := argsL) (rest := rest) (lenOf hpd hlen) rfl (by show 2 * 0 + _ ≤ _; omega) (hb Cc.2.2.1 hd) (fun _ _ => ⟨rfl, rfl, hk, hn⟩)
  dsimp only [Pt.U, Pt.locs, Pt.cells, Pt.slots] at X' l1 y1 z1 st' hQ
  subst l1 y1 z1
  obtain ⟨N', ds', M', R', hq⟩ := hQ
  exact (H v ds' hq p l e kz s0 s rl m args below meth c T' _ hs as Cc X' (Fr.app N N') M' (R.call R')).back st'
theorem gw_callI {a : Addr} (q : Nat) (hp : pc + 3 = q) (hd : decode B.2.1 pc = .ok (.invokespecial idx, 3)) (hin : y.name = "<init>") (w1 : (Jvm.Cond.methodLink B.1.cls idx y).before a0 Z = true) (w2 : (Jvm.Cond.instanceMethod y).before a0 Z = true) (w3 : (Jvm.Cond.initialized y.cls).before a0 Z = true) (w4 : (Jvm.Cond.code y bytes maxL none).before a0 Z = true)
    (hy : y.cls ≠ "java/lang/invoke/MethodHandle" ∧ y.cls ≠ "java/lang/invoke/VarHandle") (hM : Met (y, bytes, maxL, none, rm) Z a0 h0 (.ref a :: argsL).toArray ds Q') (hst : st = argsL.reverse ++ .ref a :: rest) (hpd : parseMethodDescriptor y.desc = some ⟨ps, ret⟩) (hlen : argsL.length = ps.length)
    (hsz : ls.size = B.2.2.1) (W : Nat) (hW : (rest.map fun v => v.category).sum = W) (hf : rm.frames + 1 ≤ B.2.2.2.2.frames) (hl : W + (maxL + 11) + rm.locals ≤ B.2.2.2.2.locals) (hk : k + rm.cells ≤ B.2.2.2.2.cells) (hn : n + rm.slots ≤ B.2.2.2.2.slots)
    (H : ∀ v ds', Q' v ds' → GoW J B Z a0 h0 Q (k + rm.cells) (n + rm.slots) ds' q ls (v.toList ++ rest)) : GoW J B Z a0 h0 Q k n ds pc ls st := by
  subst hp hst
  intro p l e kz s0 s rl m args below meth c T locs hs as Cc X N M R
  have hZ := Cc.2.1
  obtain ⟨v, _, ⟨T', L', k', n'⟩, -, X', ⟨Lc, hQ, l1, y1, z1⟩, st'⟩ := X.specialBack Cc.1 (y := y) hin Cc.2.2.2.2.1 (mvT hZ w1) (mvT hZ w2) (mvT hZ w4) hy (backOf (W := W) (hM l [] T.heap M) hZ w4 w3 hf hl) (g := mkF m pc ls (argsL.reverse ++ .ref a :: rest)) rfl (hsz.trans Cc.2.2.2.1.symm) (Steps.refl _) (a := a) (argsL := argsL) (rest := rest) (lenOf hpd hlen) rfl (by show 2 * 0 + _ ≤ _; omega) (hb Cc.2.2.1 hd) (fun _ _ => ⟨rfl, rfl, hk, hn⟩)
  dsimp only [Pt.U, Pt.locs, Pt.cells, Pt.slots] at X' l1 y1 z1 st' hQ
  subst l1 y1 z1
  obtain ⟨N', ds', M', R', hq⟩ := hQ
  exact (H v ds' hq p l e kz s0 s rl m args below meth c T' _ hs as Cc X' (Fr.app N N') M' (R.call R')).back fun t hr => st'.trans hr
theorem gw_callVz {a : Addr} {C : String} (q : Nat) (hp : pc + 3 = q) (hd : decode B.2.1 pc = .ok (.invokevirtual idx, 3)) (w1 : (Jvm.Cond.methodLink B.1.cls idx y).before a0 Z = true) (w2 : (Jvm.Cond.declares y).before a0 Z = true) (w3 : (Jvm.Cond.selects C y z).before a0 Z = true) (w4 : (Jvm.Cond.instanceMethod z).before a0 Z = true) (w5 : (Jvm.Cond.initialized z.cls).before a0 Z = true) (w6 : (Jvm.Cond.code z bytes maxL ret).before a0 Z = true)
    (hnf : ∀ s : State, Z.Warmed39 s.vm → NotFace s y) (hy : y.cls ≠ "java/lang/invoke/MethodHandle" ∧ y.cls ≠ "java/lang/invoke/VarHandle") (hE : ∀ h, Mo Z a0 h0 ds h → Exa Z h a C) (hM : Met (z, bytes, maxL, ret, rm) Z a0 h0 (.ref a :: argsL).toArray ds Q') (hst : st = argsL.reverse ++ .ref a :: rest) (hpd : parseMethodDescriptor y.desc = some ⟨ps, ret⟩) (hlen : argsL.length = ps.length)
    (hsz : ls.size = B.2.2.1) (W : Nat) (hW : (rest.map fun v => v.category).sum = W) (hf : rm.frames + 1 ≤ B.2.2.2.2.frames) (hl : W + (maxL + 11) + rm.locals ≤ B.2.2.2.2.locals) (hk : k + rm.cells ≤ B.2.2.2.2.cells) (hn : n + rm.slots ≤ B.2.2.2.2.slots)
    (H : ∀ v ds', Q' v ds' → GoW J B Z a0 h0 Q (k + rm.cells) (n + rm.slots) ds' q ls (v.toList ++ rest)) : GoW J B Z a0 h0 Q k n ds pc ls st := by
  subst hp hst
  intro p l e kz s0 s rl m args below meth c T locs hs as Cc X N M R
  have hZ := Cc.2.1
  obtain ⟨cq, kq, qa, qb, qc⟩ := isOf hZ rfl (hE _ M)
  obtain ⟨v, _, ⟨T', L', k', n'⟩, -, X', ⟨Lc, hQ, l1, y1, z1⟩, st'⟩ := X.virtualBack Cc.1 (y := y) (z := z) Cc.2.2.2.2.1 (mvT hZ w1) (mvT hZ w2) (hnf _ hZ) (mvT hZ w3) (mvT hZ w4) hy (backOf (W := W) (hM l [] T.heap M) hZ w6 w5 hf hl) qa qc (g := mkF m pc ls (argsL.reverse ++ .ref a :: rest)) rfl (hsz.trans Cc.2.2.2.1.symm) (Steps.refl _) (argsL := argsL) (rest := rest) (lenOf hpd hlen) rfl (by show 2 * 0 + _ ≤ _; omega) (hb Cc.2.2.1 hd) (fun _ _ => ⟨rfl, rfl, hk, hn⟩)
  dsimp only [Pt.U, Pt.locs, Pt.cells, Pt.slots] at X' l1 y1 z1 st' hQ
  subst l1 y1 z1
  obtain ⟨N', ds', M', R', hq⟩ := hQ
  exact (H v ds' hq p l e kz s0 s rl m args below meth c T' _ hs as Cc X' (Fr.app N N') M' (R.call R')).back fun t hr => st'.trans hr
theorem gw_callV {a : Addr} {C : String} (q : Nat) (hp : pc + 3 = q) (hd : decode B.2.1 pc = .ok (.invokevirtual idx, 3)) (w1 : (Jvm.Cond.methodLink B.1.cls idx y).before a0 Z = true) (w2 : (Jvm.Cond.declares y).before a0 Z = true) (w3 : (Jvm.Cond.selects C y y).before a0 Z = true) (w4 : (Jvm.Cond.instanceMethod y).before a0 Z = true) (w5 : (Jvm.Cond.initialized y.cls).before a0 Z = true) (w6 : (Jvm.Cond.code y bytes maxL ret).before a0 Z = true)
    (hy : y.cls ≠ "java/lang/invoke/MethodHandle" ∧ y.cls ≠ "java/lang/invoke/VarHandle") (hE : ∀ h, Mo Z a0 h0 ds h → Exa Z h a C) (hM : Met (y, bytes, maxL, ret, rm) Z a0 h0 (.ref a :: argsL).toArray ds Q') (hst : st = argsL.reverse ++ .ref a :: rest) (hpd : parseMethodDescriptor y.desc = some ⟨ps, ret⟩) (hlen : argsL.length = ps.length)
    (hsz : ls.size = B.2.2.1) (W : Nat) (hW : (rest.map fun v => v.category).sum = W) (hf : rm.frames + 1 ≤ B.2.2.2.2.frames) (hl : W + (maxL + 11) + rm.locals ≤ B.2.2.2.2.locals) (hk : k + rm.cells ≤ B.2.2.2.2.cells) (hn : n + rm.slots ≤ B.2.2.2.2.slots)
    (H : ∀ v ds', Q' v ds' → GoW J B Z a0 h0 Q (k + rm.cells) (n + rm.slots) ds' q ls (v.toList ++ rest)) : GoW J B Z a0 h0 Q k n ds pc ls st :=
  gw_callVz q hp hd w1 w2 w3 w4 w5 w6 (fun s hZ => notFace_of_selects (args := #[]) (mvT hZ w3)) hy hE hM hst hpd hlen hsz W hW hf hl hk hn H
theorem gw_callF {a : Addr} {C : String} {cnt : Nat} (q : Nat) (hp : pc + 5 = q) (hd : decode B.2.1 pc = .ok (.invokeinterface idx cnt, 5)) (w1 : (Jvm.Cond.methodLink B.1.cls idx y).before a0 Z = true) (w2 : (Jvm.Cond.declares y).before a0 Z = true) (wf : (Jvm.Cond.interfaceMethod y.cls y.cls y.name y.desc).before a0 Z = true) (tf : ((Jvm.Cond.interfaceMethod y.cls y.cls y.name y.desc).onTables && (Jvm.Cond.interfaceMethod y.cls y.cls y.name y.desc).keepsFace) = true) (w3 : (Jvm.Cond.selects C y z).before a0 Z = true) (w4 : (Jvm.Cond.instanceMethod z).before a0 Z = true) (wp : (Jvm.Cond.publicMethod z).before a0 Z = true) (wu : (Jvm.Cond.unhidden C y.name y.desc).before a0 Z = true) (wc : (Jvm.Cond.castable C y.cls).before a0 Z = true) (w5 : (Jvm.Cond.initialized z.cls).before a0 Z = true) (w6 : (Jvm.Cond.code z bytes maxL ret).before a0 Z = true)
    (hy : y.cls ≠ "java/lang/invoke/MethodHandle" ∧ y.cls ≠ "java/lang/invoke/VarHandle") (hE : ∀ h, Mo Z a0 h0 ds h → Exa Z h a C) (hM : Met (z, bytes, maxL, ret, rm) Z a0 h0 (.ref a :: argsL).toArray ds Q') (hst : st = argsL.reverse ++ .ref a :: rest) (hpd : parseMethodDescriptor y.desc = some ⟨ps, ret⟩) (hlen : argsL.length = ps.length)
    (hsz : ls.size = B.2.2.1) (W : Nat) (hW : (rest.map fun v => v.category).sum = W) (hf : rm.frames + 1 ≤ B.2.2.2.2.frames) (hl : W + (maxL + 11) + rm.locals ≤ B.2.2.2.2.locals) (hk : k + rm.cells ≤ B.2.2.2.2.cells) (hn : n + rm.slots ≤ B.2.2.2.2.slots)
    (H : ∀ v ds', Q' v ds' → GoW J B Z a0 h0 Q (k + rm.cells) (n + rm.slots) ds' q ls (v.toList ++ rest)) : GoW J B Z a0 h0 Q k n ds pc ls st := by
  subst hp hst
  intro p l e kz s0 s rl m args below meth c T locs hs as Cc X N M R
  have hZ := Cc.2.1
  obtain ⟨cq, kq, qa, qb, qc⟩ := isOf hZ rfl (hE _ M)
  obtain ⟨v, _, ⟨T', L', k', n'⟩, -, X', ⟨Lc, hQ, l1, y1, z1⟩, st'⟩ := X.interfaceBack Cc.1 (xi := y) (y := z) Cc.2.2.2.2.1 (mvT hZ w1) (mvT hZ w2) (mvT hZ wf (hd := tf)) (mvT hZ w3) (mvT hZ w4) (mvT hZ wp) (mvT hZ wu) (mvT hZ wc) hy (backOf (W := W) (hM l [] T.heap M) hZ w6 w5 hf hl) qa qb qc (g := mkF m pc ls (argsL.reverse ++ .ref a :: rest)) rfl (hsz.trans Cc.2.2.2.1.symm) (Steps.refl _) (argsL := argsL) (rest := rest) (lenOf hpd hlen) rfl (by show 2 * 0 + _ ≤ _; omega) (hb Cc.2.2.1 hd) (fun _ _ => ⟨rfl, rfl, hk, hn⟩)
  dsimp only [Pt.U, Pt.locs, Pt.cells, Pt.slots] at X' l1 y1 z1 st' hQ
  subst l1 y1 z1
  obtain ⟨N', ds', M', R', hq⟩ := hQ
  exact (H v ds' hq p l e kz s0 s rl m args below meth c T' _ hs as Cc X' (Fr.app N N') M' (R.call R')).back fun t hr => st'.trans hr
end CoreW

section WideCalls
variable {B : Bdy} {Z : State} {a0 : Array Value} {h0 : Heap} {Q : Option Value → Mem → Prop} {k n : Nat} {ds : Mem} {pc : Nat} {ls : Array Slot} {st : List Value} {J : Vm → Prop}
variable {y z : MethodName} {bytes : ByteArray} {maxL : Nat} {ret : Option FieldType} {rm : Room} {idx : Nat} {argsL rest : List Value} {ps : List FieldType} {Q' : Option Value → Mem → Prop}
/-- what J must bear: the tables warmed, nothing interned -/
def Keeps (Z : State) (J : Vm → Prop) : Prop := ∀ (s : State) (vm₁ : Vm), Z.Warmed39 s.vm → s.WarmedH vm₁ → J s.vm → J vm₁
theorem backOfJ {l : Launch} {R : Room} {p : Program} {e : Env} {below : List Frame} {s : State} {args : Array Value} {h : Heap} {len W : Nat} {as' : Array Value} {Qh : Option Value → Heap → List Loc → Prop} (KJ : Keeps Z J)
    (hM : MetFree l y (head1 [Jvm.Cond.code y bytes maxL ret] rm) (fun a U => a = as' ∧ Z.Warmed39 U.vm ∧ U.heap = h ∧ J U.vm) (fun _ _ _ _ _ => True) (fun _ U o U' => ∃ v L, o = .returned v ∧ Qh v U'.heap L ∧ ReturnedEndW U o U' L rm.cells rm.slots))
    (hZ : Z.Warmed39 s.vm) (hJ : J s.vm) (wc : (Jvm.Cond.code y bytes maxL ret).before a0 Z = true) (wz : (Jvm.Cond.initialized y.cls).before a0 Z = true) (hf : rm.frames + 1 ≤ R.frames) (hl : W + (maxL + 11) + rm.locals ≤ R.locals) :
    BackS l R p e below s args y len W (fun A a => a = as' ∧ A.U.heap = h ∧ A.cells + rm.cells ≤ R.cells ∧ A.slots + rm.slots ≤ R.slots)
      (fun A _ v B => ∃ L, Qh v B.U.heap L ∧ B.locs = A.locs ++ L ∧ B.cells = A.cells + rm.cells ∧ B.slots = A.slots + rm.slots) :=
  BackS.of_freeW (bytes := bytes) (maxL := maxL) (ret := ret) (E := fun _ _ o t L k n => k = rm.cells ∧ n = rm.slots ∧ ∃ v, o = .returned v ∧ Qh v t.heap L) hM hf hl
    (fun m meth c A a Y hp => have hU : Z.Warmed39 A.U.vm := wtrans hZ Y.warmed
      ⟨by show (Jvm.Cond.and _ .tt).before a A.U = true; rw [Jvm.Cond.before_and, mv hU wc]; rfl, mv hU wc, mv hU wz, hp.2.2.1, hp.2.2.2⟩)
    (fun m meth c A a g mk Y hp => ⟨hp.1, wtrans hZ Y.warmed, hp.2.1, KJ s _ hZ Y.warmed hJ⟩) (fun _ _ _ _ _ _ _ _ _ => trivial)
    (fun _ _ _ _ ⟨v, L, h1, h2, h3⟩ => ⟨L, _, _, h3, rfl, rfl, v, h1, h2⟩)
    (fun m meth c A a g mk v t L k n Y hp _ _ ⟨e1, e2, v', e3, e4⟩ => by cases e3; subst e1 e2; exact ⟨L, e4, rfl, rfl, rfl⟩)
/-- behind a wide call: the walk goes on over the new tables -/
theorem wideOn {J' : Vm → Prop} {p : Program} {l : Launch} {e : Env} {kz : Nat} {s0 s : State} {m : MethodId} {args : Array Value} {below : List Frame} {meth : Method} {c : Code} {T U : State} {locs : List Loc} {hs : Heap} {as : List Addr} {u : State} {ds' : Mem} {k' n' : Nat}
    (H : GoW J' B Z a0 h0 Q k' n' ds' pc ls st) (hJ' : J' U.vm) (rl : RelJ J s0 s kz) (Cc : Cx B Z p s m meth c) (R : TrW kz hs as ds T.heap) (X : Stand p l e B.2.2.2.2 (s.setVm U.vm) m args below meth c U locs k' n') (hS : s.Since U.vm U.heap.size) (hg : T.heap.size ≤ U.heap.size)
    (N : Fr h0.size locs) (M : Mo Z a0 h0 ds' U.heap) (R' : Tr hs as ds' U.heap) (st' : ∀ t, Steps p.tables e below (U.setTop (mkF m pc ls st)) t → Steps p.tables e below u t) : EndsW B Z a0 h0 hs as Q p e below s0 u := by
  obtain ⟨-, vm0, k0, rfl, hS0, hk0⟩ := rl
  have hS2 : s0.Since U.vm U.heap.size := hS0.trans hS (Nat.le_trans hk0 (Nat.le_trans R.1 hg))
  have hZ2 : Z.Warmed39 U.vm := State.Warmed39.trans (t := s0.setVm vm0) Cc.2.1 hS.1
  have hf : (s0.setVm U.vm).vm.findClass B.1.cls = some m.cls := by
    show U.vm.findClass _ = _
    rw [hS.1.alike.findClass]; exact Cc.2.2.2.2.1
  exact (H p l e U.heap.size s0 (s0.setVm U.vm) ⟨hJ', U.vm, _, rfl, hS2, Nat.le_refl _⟩ m args below meth c U locs hs as ⟨Cc.1, hZ2, Cc.2.2.1, Cc.2.2.2.1, hf, Cc.2.2.2.2.2⟩ X N M ⟨Nat.le_refl _, R'⟩).back st'
theorem gw_wcallI {a : Addr} (KJ : Keeps Z J) (q : Nat) (hp : pc + 3 = q) (hd : decode B.2.1 pc = .ok (.invokespecial idx, 3)) (hin : y.name = "<init>") (w1 : (Jvm.Cond.methodLink B.1.cls idx y).before a0 Z = true) (w2 : (Jvm.Cond.instanceMethod y).before a0 Z = true) (w3 : (Jvm.Cond.initialized y.cls).before a0 Z = true) (w4 : (Jvm.Cond.code y bytes maxL none).before a0 Z = true)
    (hy : y.cls ≠ "java/lang/invoke/MethodHandle" ∧ y.cls ≠ "java/lang/invoke/VarHandle") (hM : MetW J (y, bytes, maxL, none, rm) Z a0 h0 (.ref a :: argsL).toArray ds Q') (hst : st = argsL.reverse ++ .ref a :: rest) (hpd : parseMethodDescriptor y.desc = some ⟨ps, ret⟩) (hlen : argsL.length = ps.length)
    (hsz : ls.size = B.2.2.1) (W : Nat) (hW : (rest.map fun v => v.category).sum = W) (hf : rm.frames + 1 ≤ B.2.2.2.2.frames) (hl : W + (maxL + 11) + rm.locals ≤ B.2.2.2.2.locals) (hk : k + rm.cells ≤ B.2.2.2.2.cells) (hn : n + rm.slots ≤ B.2.2.2.2.slots)
    (H : ∀ v ds', Q' v ds' → GoW (fun _ => True) B Z a0 h0 Q (k + rm.cells) (n + rm.slots) ds' q ls (v.toList ++ rest)) : GoW J B Z a0 h0 Q k n ds pc ls st := by
  subst hp hst
  intro p l e kz s0 s rl m args below meth c T locs hs as Cc X N M R
  have hZ := Cc.2.1
  obtain ⟨v, _, ⟨T', L', k', n'⟩, -, X', hS, hg, ⟨Lc, hQ, l1, y1, z1⟩, st'⟩ := X.specialBackS Cc.1 (y := y) hin Cc.2.2.2.2.1 (mvT hZ w1) (mvT hZ w2) (mvT hZ w4) hy (backOfJ (W := W) KJ (hM l [] T.heap M) hZ rl.1 w4 w3 hf hl) (g := mkF m pc ls (argsL.reverse ++ .ref a :: rest)) rfl (hsz.trans Cc.2.2.2.1.symm) (Steps.refl _) (a := a) (argsL := argsL) (rest := rest) (lenOf hpd hlen) rfl (by show 2 * 0 + _ ≤ _; omega) (hb Cc.2.2.1 hd) (fun _ _ => ⟨rfl, rfl, hk, hn⟩)
  dsimp only [Pt.U, Pt.locs, Pt.cells, Pt.slots] at X' l1 y1 z1 st' hQ hS hg
  subst l1 y1 z1
  obtain ⟨N', ds', M', R', hq⟩ := hQ
  exact wideOn (H v ds' hq) trivial rl Cc R X' hS hg (Fr.app N N') M' (R.2.call R') fun t hr => st'.trans hr
theorem gw_wcallS (KJ : Keeps Z J) (q : Nat) (hp : pc + 3 = q) (hd : decode B.2.1 pc = .ok (.invokestatic idx, 3)) (w1 : (Jvm.Cond.methodLink B.1.cls idx y).before a0 Z = true) (w2 : (Jvm.Cond.static y).before a0 Z = true) (w3 : (Jvm.Cond.initialized y.cls).before a0 Z = true) (w4 : (Jvm.Cond.code y bytes maxL ret).before a0 Z = true)
    (hy : y.cls ≠ "java/lang/invoke/MethodHandle" ∧ y.cls ≠ "java/lang/invoke/VarHandle") (hM : MetW J (y, bytes, maxL, ret, rm) Z a0 h0 argsL.toArray ds Q') (hst : st = argsL.reverse ++ rest) (hpd : parseMethodDescriptor y.desc = some ⟨ps, ret⟩) (hlen : argsL.length = ps.length)
    (hsz : ls.size = B.2.2.1) (W : Nat) (hW : (rest.map fun v => v.category).sum = W) (hf : rm.frames + 1 ≤ B.2.2.2.2.frames) (hl : W + (maxL + 11) + rm.locals ≤ B.2.2.2.2.locals) (hk : k + rm.cells ≤ B.2.2.2.2.cells) (hn : n + rm.slots ≤ B.2.2.2.2.slots)
    (H : ∀ v ds', Q' v ds' → GoW (fun _ => True) B Z a0 h0 Q (k + rm.cells) (n + rm.slots) ds' q ls (v.toList ++ rest)) : GoW J B Z a0 h0 Q k n ds pc ls st := by
  subst hp hst
  intro p l e kz s0 s rl m args below meth c T locs hs as Cc X N M R
  have hZ := Cc.2.1
  obtain ⟨v, _, ⟨T', L', k', n'⟩, -, X', hS, hg, ⟨Lc, hQ, l1, y1, z1⟩, st'⟩ := callSS X Cc.1 (y := y) Cc.2.2.2.2.1 (mvT hZ w1) (mvT hZ w2) (mvT hZ w3) (mvT hZ w4) hy (backOfJ (W := W) KJ (hM l [] T.heap M) hZ rl.1 w4 w3 hf hl) (g := mkF m pc ls (argsL.reverse ++ rest)) rfl (hsz.trans Cc.2.2.2.1.symm) (argsL := argsL) (rest := rest) (lenOf hpd hlen) rfl (by show 2 * 0 + _ ≤ _; omega) (hb Cc.2.2.1 hd) (fun _ _ => ⟨rfl, rfl, hk, hn⟩)
  dsimp only [Pt.U, Pt.locs, Pt.cells, Pt.slots] at X' l1 y1 z1 st' hQ hS hg
  subst l1 y1 z1
  obtain ⟨N', ds', M', R', hq⟩ := hQ
  exact wideOn (H v ds' hq) trivial rl Cc R X' hS hg (Fr.app N N') M' (R.2.call R') fun t hr => st'.trans hr
end WideCalls
section WideEnd
variable {B : Bdy} {Z : State} {a0 : Array Value} {h0 : Heap} {Q : Option Value → Mem → Prop} {ds : Mem} {J : Vm → Prop}
theorem Met.wide {as : Array Value} (H : Met B Z a0 h0 as ds Q) : MetW J B Z a0 h0 as ds Q := by
  intro l ws h M p e h1 h2 h3 s m args below h4 h5 h6 h7
  obtain ⟨n, o, g1, g2, g3, v, L, g4, g5, g8⟩ := H l ws h M p e h1 h2 h3 s m args below h4 h5 ⟨h6.1, h6.2.1, h6.2.2.1⟩ h7
  exact ⟨n, o, g1, g2, g3, v, L, g4, g5, Jvm.RoadKit.wide g8⟩
theorem keepsC {EL : List (String × Nat)} (hEL : EW Z a0 EL) : Keeps Z (fun vm => CHv Z EL vm h0) := fun s vm₁ hZ hW H =>
  (CHv.later (h' := h0) hZ (hW := (show (Wst Z s.vm h0).Warmed39 vm₁ from hW.wide)) hEL ⟨Nat.le_refl _, fun _ _ q => q⟩ (Or.inl hW.interned_eq) H).1
end WideEnd
section WideLdc
variable {B : Bdy} {Z : State} {a0 : Array Value} {h0 : Heap} {Q : Option Value → Mem → Prop} {k n : Nat} {ds : Mem} {pc : Nat} {ls : Array Slot} {st : List Value} {J : Vm → Prop}
/-- ldc of a String constant, opaque -/
theorem gw_ldcO {idx : Nat} {text : String} (q : Nat) (hp : pc + 2 = q) (hd : decode B.2.1 pc = .ok (.ldc idx, 2)) (w : (Jvm.Cond.stringLink B.1.cls idx text).before a0 Z = true) (wS : ∀ a ∈ Bundle.stringAtoms, a.before a0 Z = true) (c4 : Nat) (hc4 : 4 * text.toList.length ≤ c4) (hbig : c4 ≤ 536870912) (hk : k + 2 ≤ B.2.2.2.2.cells) (hn : n + (c4 + 4) ≤ B.2.2.2.2.slots)
    (H : ∀ a, GoW (fun _ => True) B Z a0 h0 Q (k + 2) (n + (c4 + 4)) ds q ls (.ref a :: st)) : GoW J B Z a0 h0 Q k n ds pc ls st := by
  subst hp
  intro p l e kz s0 s rl m args below meth c T locs hs as Cc X N M R
  have hZ := Cc.2.1
  obtain ⟨a, T', X', hS', -, hb', -, st'⟩ := X.ldcStringCold Cc.1 (own := B.1.cls) Cc.2.2.2.2.1 (mvS hZ w) (fun d hd => by
    have q := wS d hd
    simp only [Bundle.stringAtoms, List.mem_cons, List.not_mem_nil, or_false] at hd
    rcases hd with rfl | rfl | rfl | rfl | rfl | rfl | rfl
    · exact mv hZ q
    · exact mv hZ q
    · exact mvA hZ q
    · exact mv hZ q
    · exact mv hZ q
    · exact mv hZ q
    · exact mv hZ q) (g := mkF m pc ls st) rfl (hb Cc.2.2.1 hd) hc4 hbig hk hn
  have E := ext_of hb'
  exact wideOn (H a) trivial rl Cc R X' hS' E.1 N (M.ext E) (R.2.ext E) st'
end WideLdc

end Jvm.OwnW

/- laws to paste: Road.backV (cut by pick.py; bodies as the Statement names them) -/
namespace Jvm.Pilot.@@N@@
namespace StrChars
open Jvm Sem ClassFile Op Lib Jvm.Stand Jvm.Free.XT Jvm.Free.ALB Jvm.Free.JM Jvm.Free
open Jvm.Lib.Cold (StaticIs)
/-- a char array whose places are chars -/
def Ch (a : Addr) (A : Cell) (U : State) : Prop := Arr .char a A U ∧ Typed .char A
theorem Ch.mv {a : Addr} {A : Cell} {U U' : State} (h : Ch a A U) (hal : U.vm.Alike U'.vm) (hh : U'.heap = U.heap) : Ch a A U' := ⟨h.1.mv hal hh, h.2⟩
theorem Ch.keep {a : Addr} {A : Cell} {U U' : State} (h : Ch a A U) (hal : U.vm.Alike U'.vm) (hk : U'.heap[a]? = some A) : Ch a A U' := ⟨h.1.keep hal hk, h.2⟩
/-- what place i of a char[]'s cell holds -/
def cv (A : Cell) (i : Nat) : Int32 := match A.slots[i]? with | some (.int x) => x | _ => 0
theorem Ch.get {a : Addr} {A : Cell} {U : State} (h : Ch a A U) {i : Nat} (hi : i < A.slots.size) : A.slots[i]? = some (.int (cv A i)) := by
  have e := Array.getElem?_eq_getElem hi
  have f := h.2 i _ e
  unfold cv; rw [e]
  generalize A.slots[i] = v at f
  cases v <;> simp [fits] at f ⊢
/-- the byte that i2b leaves of a char -/
def lo8 (x : Int32) : Int32 := x.toInt8.toInt32
theorem fits_lo8 (y : Int32) : fits .byte (.int (lo8 y)) = true := by
  have h1 := y.toInt8.le_toInt
  have h2 := y.toInt8.toInt_lt
  simp only [lo8, fits, Bool.and_eq_true, decide_eq_true_eq, Int32.le_iff_toInt_le, Int8.toInt_toInt32, show (-128 : Int32).toInt = -128 from by decide, show (127 : Int32).toInt = 127 from by decide]
  omega
/-- A' is A but that each place j of lo .. hi - 1 holds f j -/
def Laid (A A' : Cell) (lo hi : Nat) (f : Nat → Value) : Prop := A'.cls = A.cls ∧ A'.vm = A.vm ∧ A'.slots.size = A.slots.size ∧ ∀ i, A'.slots[i]? = if lo ≤ i ∧ i < hi then some (f i) else A.slots[i]?
theorem Laid.zero (A : Cell) (lo : Nat) (f : Nat → Value) : Laid A A lo (lo + 0) f := ⟨rfl, rfl, rfl, fun i => by rw [if_neg (by omega)]⟩
theorem Laid.step {A Ak : Cell} {lo k : Nat} {f : Nat → Value} {v : Value} (h : Laid A Ak lo k f) (hlo : lo ≤ k) (hk : k < Ak.slots.size) (hv : v = f k) : Laid A (Ak.setSlot k v) lo (k + 1) f := by
  refine ⟨h.1, h.2.1, by simpa [Cell.setSlot] using h.2.2.1, fun i => ?_⟩
  by_cases e : k = i
  · subst e; rw [Cell.slots_setSlot_self v hk, if_pos (by omega), hv]
  · rw [Cell.slots_setSlot_ne v e, h.2.2.2 i]
    by_cases q : lo ≤ i ∧ i < k
    · rw [if_pos q, if_pos (by omega)]
    · rw [if_neg q, if_neg (by omega)]
def U16 : String := "java/lang/StringUTF16"
namespace Cmp5
def yN : MethodName := ⟨"java/lang/StringUTF16", "compress", "([CI[BII)I"⟩
abbrev yB : ByteArray := jdk_52_method_21_code
theorem d0 : decode yB 0 = .ok (.iconst 0, 1) := by decide +kernel
theorem d1 : decode yB 1 = .ok (.istore 5, 2) := by decide +kernel
theorem d3 : decode yB 3 = .ok (.iload 5, 2) := by decide +kernel
theorem d5 : decode yB 5 = .ok (.iload 4, 2) := by decide +kernel
theorem d7 : decode yB 7 = .ok (.if_icmp (.ge) 37, 3) := by decide +kernel
theorem d10 : decode yB 10 = .ok (.aload_n 0, 1) := by decide +kernel
theorem d11 : decode yB 11 = .ok (.iload_n 1, 1) := by decide +kernel
theorem d12 : decode yB 12 = .ok (.caload, 1) := by decide +kernel
theorem d13 : decode yB 13 = .ok (.istore 6, 2) := by decide +kernel
theorem d15 : decode yB 15 = .ok (.iload 6, 2) := by decide +kernel
theorem d17 : decode yB 17 = .ok (.sipush 255, 3) := by decide +kernel
theorem d20 : decode yB 20 = .ok (.if_icmp (.le) 6, 3) := by decide +kernel
theorem d26 : decode yB 26 = .ok (.aload_n 2, 1) := by decide +kernel
theorem d27 : decode yB 27 = .ok (.iload_n 3, 1) := by decide +kernel
theorem d28 : decode yB 28 = .ok (.iload 6, 2) := by decide +kernel
theorem d30 : decode yB 30 = .ok (.i2b, 1) := by decide +kernel
theorem d31 : decode yB 31 = .ok (.bastore, 1) := by decide +kernel
theorem d32 : decode yB 32 = .ok (.iinc 1 1, 3) := by decide +kernel
theorem d35 : decode yB 35 = .ok (.iinc 3 1, 3) := by decide +kernel
theorem d38 : decode yB 38 = .ok (.iinc 5 1, 3) := by decide +kernel
theorem d41 : decode yB 41 = .ok (.goto (-38), 3) := by decide +kernel
theorem d44 : decode yB 44 = .ok (.iload 4, 2) := by decide +kernel
theorem d46 : decode yB 46 = .ok (.ireturn, 1) := by decide +kernel
def site : List Cond := []
def tab : Cond := tabOf yN yB 7 (some .int) site
def P (b : Addr) (A : Cell) (d : Addr) (B : Cell) (o q len : Nat) (args : Array Value) (s : State) : Prop := args = #[.ref b, .int (Int32.ofNat o), .ref d, .int (Int32.ofNat q), .int (Int32.ofNat len)] ∧ Ch b A s ∧ Arr .byte d B s ∧ b ≠ d ∧ o + len ≤ A.slots.size ∧ q + len ≤ B.slots.size ∧ ∀ i, i < len → ¬ 255 < cv A (o + i)
def E (b : Addr) (A : Cell) (d : Addr) (B : Cell) (o q len : Nat) (r : Option Value) (s u : State) : Prop := r = some (.int (Int32.ofNat len)) ∧ ∃ B', Put d B' s u ∧ Laid B B' q (q + len) (fun j => Value.int (lo8 (cv A (o + (j - q)))))
/-- no char of the range above 255: len; the places written hold each char's low byte -/
theorem law (l : Launch) (b : Addr) (A : Cell) (d : Addr) (B : Cell) (o q len : Nat) : Law l yN 5 5 0 0 yB 7 (some .int) site (P b A d B o q len) (E b A d B o q len) (copyLocs d q len) 0 0 := by
  refine Law.of_walk (plainFor_of_name (by decide +kernel)) (by decide +kernel) (by decide +kernel) (by decide) (fun _ _ h => by rw [h.1]; rfl) (fun _ U U' hal hh h => ⟨h.1, h.2.1.mv hal hh, h.2.2.1.mv hal hh, h.2.2.2⟩) (fun r U U' V V' h1 hal h2 h => ⟨h.1, h.2.elim fun B' q => ⟨B', q.1.mv h1 h2, q.2⟩⟩) ?_
  intro p e s m args below meth c s₁ X0 hexec hbytes hml hret hlk hnm hown hh0 W hP
  obtain ⟨rfl, hA, hB, hne, l1, l2, hp⟩ := hP
  have c1 : Steps p.tables e below (s₁.setTop (entryFrame m #[.ref b, .int (Int32.ofNat o), .ref d, .int (Int32.ofNat q), .int (Int32.ofNat len)] 7)) (s₁.setTop (mkF m 0 #[.val (.ref b), .val (.int (Int32.ofNat o)), .val (.ref d), .val (.int (Int32.ofNat q)), .val (.int (Int32.ofNat len)), .unset, .unset] [])) := entry rfl
  have hA0 := hA.1.mv X0.warmed.alike hh0
  have hB0 := hB.mv X0.warmed.alike hh0
  have a31 := hA.1.2.2.2
  have c2 : Steps p.tables e below (s₁.setTop (entryFrame m #[.ref b, .int (Int32.ofNat o), .ref d, .int (Int32.ofNat q), .int (Int32.ofNat len)] 7)) (s₁.setTop (mkF m 3 #[.val (.ref b), .val (.int (Int32.ofNat o)), .val (.ref d), .val (.int (Int32.ofNat q)), .val (.int (Int32.ofNat len)), .val (.int 0), .unset] [])) := c1.trans (by
    refine iconstV X0.here hexec rfl 0 (hb hbytes d0) (by decide) ?_
    refine XS.istore X0.here hexec rfl (hb hbytes d1) rfl rfl ?_
    exact Steps.refl _)
  have loop : ∀ (r i : Nat), i + r = len → ∀ (z : Slot), (z = .unset ∨ ∃ w, z = .val w ∧ w.category = 1) → ∀ (Tl : State) (Bk : Cell), Stand p l e { frames := 0, locals := 0, cells := 0, slots := 0 } s m #[.ref b, .int (Int32.ofNat o), .ref d, .int (Int32.ofNat q), .int (Int32.ofNat len)] below meth c Tl ([] ++ copyLocs d q i) 0 0 → Put d Bk s₁ Tl → Laid B Bk q (q + i) (fun j => Value.int (lo8 (cv A (o + (j - q))))) →
      Steps p.tables e below (s₁.setTop (entryFrame m #[.ref b, .int (Int32.ofNat o), .ref d, .int (Int32.ofNat q), .int (Int32.ofNat len)] 7)) (Tl.setTop (mkF m 3 #[.val (.ref b), .val (.int (Int32.ofNat (o + i))), .val (.ref d), .val (.int (Int32.ofNat (q + i))), .val (.int (Int32.ofNat len)), .val (.int (Int32.ofNat i)), z] [])) → ∃ (T' : State) (B' : Cell) (z' : Slot), Stand p l e { frames := 0, locals := 0, cells := 0, slots := 0 } s m #[.ref b, .int (Int32.ofNat o), .ref d, .int (Int32.ofNat q), .int (Int32.ofNat len)] below meth c T' ([] ++ copyLocs d q len) 0 0 ∧ Put d B' s₁ T' ∧ Laid B B' q (q + len) (fun j => Value.int (lo8 (cv A (o + (j - q))))) ∧
      Steps p.tables e below (s₁.setTop (entryFrame m #[.ref b, .int (Int32.ofNat o), .ref d, .int (Int32.ofNat q), .int (Int32.ofNat len)] 7)) (T'.setTop (mkF m 3 #[.val (.ref b), .val (.int (Int32.ofNat (o + len))), .val (.ref d), .val (.int (Int32.ofNat (q + len))), .val (.int (Int32.ofNat len)), .val (.int (Int32.ofNat len)), z'] [])) := by
    intro r
    induction r with
    | zero =>
      intro i hi z hz Tl Bk Xl pl fl cl
      have hil : i = len := by omega
      rw [hil] at Xl fl cl
      exact ⟨Tl, Bk, z, Xl, pl, fl, cl⟩
    | succ r ih =>
      intro i hi z hz Tl Bk Xl pl fl cl
      have all := X0.warmed.alike.symm.trans Xl.warmed.alike
      have hAl := hA0.keep all (pl.other hne hA0.1)
      have hBk := hB0.like all pl.1 fl.1 fl.2.1 fl.2.2.1
      have hlt : q + i < Bk.slots.size := by rw [fl.2.2.1]; omega
      have c3 : Steps p.tables e below (s₁.setTop (entryFrame m #[.ref b, .int (Int32.ofNat o), .ref d, .int (Int32.ofNat q), .int (Int32.ofNat len)] 7)) (Tl.setTop (mkF m 12 #[.val (.ref b), .val (.int (Int32.ofNat (o + i))), .val (.ref d), .val (.int (Int32.ofNat (q + i))), .val (.int (Int32.ofNat len)), .val (.int (Int32.ofNat i)), z] [.int (Int32.ofNat (o + i)), .ref b])) := cl.trans (by
        refine XS.iload Xl.here hexec rfl (hb hbytes d3) rfl ?_
        refine XS.iload Xl.here hexec rfl (hb hbytes d5) rfl ?_
        refine XS.icmpNo Xl.here hexec rfl (hb hbytes d7) rfl (ii_ge_f (lt32 (by omega) (by omega))) ?_
        refine XS.aloadN Xl.here hexec rfl (hb hbytes d10) rfl rfl ?_
        refine XS.iloadN Xl.here hexec rfl (hb hbytes d11) rfl ?_
        exact Steps.refl _)
      have c4 : Steps p.tables e below (s₁.setTop (entryFrame m #[.ref b, .int (Int32.ofNat o), .ref d, .int (Int32.ofNat q), .int (Int32.ofNat len)] 7)) (Tl.setTop (mkF m 13 #[.val (.ref b), .val (.int (Int32.ofNat (o + i))), .val (.ref d), .val (.int (Int32.ofNat (q + i))), .val (.int (Int32.ofNat len)), .val (.int (Int32.ofNat i)), z] [.int (cv A (o + i))])) := c3.trans (by
        refine Xl.aget hexec hAl rfl (hA.get (i := o + i) (by omega)) rfl rfl (hb hbytes d12) ?_
        exact Steps.refl _)
      have c5 : Steps p.tables e below (s₁.setTop (entryFrame m #[.ref b, .int (Int32.ofNat o), .ref d, .int (Int32.ofNat q), .int (Int32.ofNat len)] 7)) (Tl.setTop (mkF m 15 #[.val (.ref b), .val (.int (Int32.ofNat (o + i))), .val (.ref d), .val (.int (Int32.ofNat (q + i))), .val (.int (Int32.ofNat len)), .val (.int (Int32.ofNat i)), .val (.int (cv A (o + i)))] [])) := c4.trans (by
        refine XS.istoreS Xl.here hexec rfl (hb hbytes d13) rfl rfl hz ?_
        exact Steps.refl _)
      have c6 : Steps p.tables e below (s₁.setTop (entryFrame m #[.ref b, .int (Int32.ofNat o), .ref d, .int (Int32.ofNat q), .int (Int32.ofNat len)] 7)) (Tl.setTop (mkF m 31 #[.val (.ref b), .val (.int (Int32.ofNat (o + i))), .val (.ref d), .val (.int (Int32.ofNat (q + i))), .val (.int (Int32.ofNat len)), .val (.int (Int32.ofNat i)), .val (.int (cv A (o + i)))] [.int (lo8 (cv A (o + i))), .int (Int32.ofNat (q + i)), .ref d])) := c5.trans (by
        refine XS.iload Xl.here hexec rfl (hb hbytes d15) rfl ?_
        refine sipushV Xl.here hexec rfl 255 (hb hbytes d17) (by decide) ?_
        refine XS.icmpYes Xl.here hexec rfl (pc0 := 20) rfl (hb hbytes d20) rfl (ii_le_t (hp i (by omega))) (by decide) rfl ?_
        refine XS.aloadN Xl.here hexec rfl (hb hbytes d26) rfl rfl ?_
        refine XS.iloadN Xl.here hexec rfl (hb hbytes d27) rfl ?_
        refine XS.iload Xl.here hexec rfl (hb hbytes d28) rfl ?_
        refine i2b Xl.here hexec rfl (hb hbytes d30) rfl ?_
        exact Steps.refl _)
      obtain ⟨T7, X7, p7, st7⟩ := Xl.aput hexec hBk rfl hlt rfl (fits_lo8 (cv A (o + i))) (g := (mkF m 31 #[.val (.ref b), .val (.int (Int32.ofNat (o + i))), .val (.ref d), .val (.int (Int32.ofNat (q + i))), .val (.int (Int32.ofNat len)), .val (.int (Int32.ofNat i)), .val (.int (cv A (o + i)))] [.int (lo8 (cv A (o + i))), .int (Int32.ofNat (q + i)), .ref d])) rfl (rest := []) rfl (hb hbytes d31)
      have c8 : Steps p.tables e below (s₁.setTop (entryFrame m #[.ref b, .int (Int32.ofNat o), .ref d, .int (Int32.ofNat q), .int (Int32.ofNat len)] 7)) (T7.setTop (mkF m 32 #[.val (.ref b), .val (.int (Int32.ofNat (o + i))), .val (.ref d), .val (.int (Int32.ofNat (q + i))), .val (.int (Int32.ofNat len)), .val (.int (Int32.ofNat i)), .val (.int (cv A (o + i)))] [])) := c6.trans (st7 _ (Steps.refl _))
      have c9 : Steps p.tables e below (s₁.setTop (entryFrame m #[.ref b, .int (Int32.ofNat o), .ref d, .int (Int32.ofNat q), .int (Int32.ofNat len)] 7)) (T7.setTop (mkF m 3 #[.val (.ref b), .val (.int (Int32.ofNat (o + i) + 1)), .val (.ref d), .val (.int (Int32.ofNat (q + i) + 1)), .val (.int (Int32.ofNat len)), .val (.int (Int32.ofNat i + 1)), .val (.int (cv A (o + i)))] [])) := c8.trans (by
        refine iincV X7.here hexec rfl 1 (hb hbytes d32) (by decide) rfl rfl ?_
        refine iincV X7.here hexec rfl 1 (hb hbytes d35) (by decide) rfl rfl ?_
        refine iincV X7.here hexec rfl 1 (hb hbytes d38) (by decide) rfl rfl ?_
        refine XS.goto X7.here hexec rfl (pc0 := 41) rfl (hb hbytes d41) (by decide) rfl ?_
        exact Steps.refl _)
      have c10 : Steps p.tables e below (s₁.setTop (entryFrame m #[.ref b, .int (Int32.ofNat o), .ref d, .int (Int32.ofNat q), .int (Int32.ofNat len)] 7)) (T7.setTop (mkF m 3 #[.val (.ref b), .val (.int (Int32.ofNat (o + (i + 1)))), .val (.ref d), .val (.int (Int32.ofNat (q + (i + 1)))), .val (.int (Int32.ofNat len)), .val (.int (Int32.ofNat (i + 1))), .val (.int (cv A (o + i)))] [])) := by
        have := c9
        rw [succ32, succ32, succ32] at this
        exact this
      exact ih (i + 1) (by omega) _ (Or.inr ⟨_, rfl, rfl⟩) T7 _ (by rw [copyLocs_step, ← List.append_assoc]; exact X7) (pl.trans p7) (fl.step (by omega) hlt (by simp)) c10
  obtain ⟨T9, B9, z9, X9, p9, f9, g9⟩ := loop len 0 (by omega) .unset (Or.inl rfl) s₁ B (by simpa [copyLocs] using X0) ⟨hB0.1, fun _ _ => rfl, rfl⟩ (Laid.zero _ _ _) c2
  have c11 : Steps p.tables e below (s₁.setTop (entryFrame m #[.ref b, .int (Int32.ofNat o), .ref d, .int (Int32.ofNat q), .int (Int32.ofNat len)] 7)) (T9.setTop (mkF m 46 #[.val (.ref b), .val (.int (Int32.ofNat (o + len))), .val (.ref d), .val (.int (Int32.ofNat (q + len))), .val (.int (Int32.ofNat len)), .val (.int (Int32.ofNat len)), z9] [.int (Int32.ofNat len)])) := g9.trans (by
    refine XS.iload X9.here hexec rfl (hb hbytes d3) rfl ?_
    refine XS.iload X9.here hexec rfl (hb hbytes d5) rfl ?_
    refine XS.icmpYes X9.here hexec rfl (pc0 := 7) rfl (hb hbytes d7) rfl (ii_ge_t (nlt32 (by omega) (Nat.le_refl _))) (by decide) rfl ?_
    refine XS.iload X9.here hexec rfl (hb hbytes d44) rfl ?_
    exact Steps.refl _)
  exact ⟨T9, some (.int (Int32.ofNat len)), _, _, _, X9, by simp, rfl, rfl, (fun h => by cases h), ⟨rfl, B9, p9.from hh0, f9⟩, fun fs hl => c11.trans (X9.ireturnOut hexec hret rfl (Or.inl rfl) (hb hbytes d46) hl)⟩
end Cmp5
namespace Cmp3
def yN : MethodName := ⟨"java/lang/StringUTF16", "compress", "([CII)[B"⟩
abbrev yB : ByteArray := jdk_52_method_16_code
theorem d0 : decode yB 0 = .ok (.iload_n 2, 1) := by decide +kernel
theorem d1 : decode yB 1 = .ok (.newarray .byte, 2) := by decide +kernel
theorem d3 : decode yB 3 = .ok (.astore_n 3, 1) := by decide +kernel
theorem d4 : decode yB 4 = .ok (.aload_n 0, 1) := by decide +kernel
theorem d5 : decode yB 5 = .ok (.iload_n 1, 1) := by decide +kernel
theorem d6 : decode yB 6 = .ok (.aload_n 3, 1) := by decide +kernel
theorem d7 : decode yB 7 = .ok (.iconst 0, 1) := by decide +kernel
theorem d8 : decode yB 8 = .ok (.iload_n 2, 1) := by decide +kernel
theorem d9 : decode yB 9 = .ok (.invokestatic 115, 3) := by decide +kernel
theorem d12 : decode yB 12 = .ok (.istore 4, 2) := by decide +kernel
theorem d14 : decode yB 14 = .ok (.iload 4, 2) := by decide +kernel
theorem d16 : decode yB 16 = .ok (.iload_n 2, 1) := by decide +kernel
theorem d17 : decode yB 17 = .ok (.if_icmp (.eq) 40, 3) := by decide +kernel
theorem d57 : decode yB 57 = .ok (.aload_n 3, 1) := by decide +kernel
theorem d58 : decode yB 58 = .ok (.areturn, 1) := by decide +kernel
def site : List Cond := [.arrayClass .byte, Cmp5.tab] ++ staticW U16 115 Cmp5.yN
def tab : Cond := tabOf yN yB 6 (some (.array .byte)) site
def P (b : Addr) (A : Cell) (o len : Nat) (args : Array Value) (s : State) : Prop := args = #[.ref b, .int (Int32.ofNat o), .int (Int32.ofNat len)] ∧ Ch b A s ∧ o + len ≤ A.slots.size ∧ len ≤ 536870912 ∧ ∀ i, i < len → ¬ 255 < cv A (o + i)
def E (b : Addr) (A : Cell) (o len : Nat) (r : Option Value) (s u : State) : Prop := NewArr .byte "[B" len (fun j => .int (lo8 (cv A (o + j)))) r s u ∧ u.heap.size = s.heap.size + 1
/-- no char of the range above 255: a new byte[] of their low bytes -/
theorem law (l : Launch) (b : Addr) (A : Cell) (o len : Nat) : Law l yN 3 3 1 18 yB 6 (some (.array .byte)) site (P b A o len) (E b A o len) [] 1 len := by
  refine Law.of_walk (plainFor_of_name (by decide +kernel)) (by decide +kernel) (by decide +kernel) (by decide) (fun _ _ h => by rw [h.1]; rfl) (fun _ U U' hal hh h => ⟨h.1, h.2.1.mv hal hh, h.2.2⟩) (fun r U U' V V' h1 hal h2 h => ⟨NewArr.mv r U U' V V' h1 hal h2 h.1, by rw [h1, h2]; exact h.2⟩) ?_
  intro p e s m args below meth c s₁ X0 hexec hbytes hml hret hlk hnm hown hh0 W hP
  obtain ⟨rfl, hA, l1, l2, hp⟩ := hP
  have a31 := hA.1.2.2.2
  have c1 : Steps p.tables e below (s₁.setTop (entryFrame m #[.ref b, .int (Int32.ofNat o), .int (Int32.ofNat len)] 6)) (s₁.setTop (mkF m 0 #[.val (.ref b), .val (.int (Int32.ofNat o)), .val (.int (Int32.ofNat len)), .unset, .unset, .unset] [])) := entry rfl
  have c2 : Steps p.tables e below (s₁.setTop (entryFrame m #[.ref b, .int (Int32.ofNat o), .int (Int32.ofNat len)] 6)) (s₁.setTop (mkF m 1 #[.val (.ref b), .val (.int (Int32.ofNat o)), .val (.int (Int32.ofNat len)), .unset, .unset, .unset] [.int (Int32.ofNat len)])) := c1.trans (by
    refine XS.iloadN X0.here hexec rfl (hb hbytes d0) rfl ?_
    exact Steps.refl _)
  obtain ⟨T3, B3, X3, ba3, bs3, bv3, bh3, bf3, st3⟩ := X0.anew hexec (atype := .byte) (wk W (.arrayClass .byte)) rfl (by show len * 1 ≤ _; omega) (by omega) (g := (mkF m 1 #[.val (.ref b), .val (.int (Int32.ofNat o)), .val (.int (Int32.ofNat len)), .unset, .unset, .unset] [.int (Int32.ofNat len)])) rfl (hb hbytes d1) (rest := []) rfl (Nat.le_refl _) (by show 0 + len ≤ len; omega)
  rw [hh0] at ba3 st3
  have kp3 : XT.Kept s T3 := (XT.Kept.of_eq hh0).push bh3
  have hA3 := hA.keep X3.warmed.alike (kp3 _ _ hA.1.1)
  have hne : b ≠ s.heap.size := hA.1.ne
  have c4 : Steps p.tables e below (s₁.setTop (entryFrame m #[.ref b, .int (Int32.ofNat o), .int (Int32.ofNat len)] 6)) (T3.setTop (mkF m 3 #[.val (.ref b), .val (.int (Int32.ofNat o)), .val (.int (Int32.ofNat len)), .unset, .unset, .unset] [.ref s.heap.size])) := c2.trans (st3 _ (Steps.refl _))
  have c5 : Steps p.tables e below (s₁.setTop (entryFrame m #[.ref b, .int (Int32.ofNat o), .int (Int32.ofNat len)] 6)) (T3.setTop (mkF m 9 #[.val (.ref b), .val (.int (Int32.ofNat o)), .val (.int (Int32.ofNat len)), .val (.ref s.heap.size), .unset, .unset] [.int (Int32.ofNat len), .int 0, .ref s.heap.size, .int (Int32.ofNat o), .ref b])) := c4.trans (by
    refine XS.astoreN X3.here hexec rfl (hb hbytes d3) rfl rfl rfl ?_
    refine XS.aloadN X3.here hexec rfl (hb hbytes d4) rfl rfl ?_
    refine XS.iloadN X3.here hexec rfl (hb hbytes d5) rfl ?_
    refine XS.aloadN X3.here hexec rfl (hb hbytes d6) rfl rfl ?_
    refine iconstV X3.here hexec rfl 0 (hb hbytes d7) (by decide) ?_
    refine XS.iloadN X3.here hexec rfl (hb hbytes d8) rfl ?_
    exact Steps.refl _)
  obtain ⟨v6, T6, X6, E6, g6⟩ := X3.callS hexec (Cmp5.law l b A s.heap.size B3 o 0 len) hown (wks W (staticW U16 115 Cmp5.yN)) (wk W Cmp5.tab) (W := 0) (Nat.le_of_ble_eq_true rfl) (Nat.le_of_ble_eq_true rfl) (Nat.le_refl _) (by show 0 + len + 0 ≤ len; omega) (g := (mkF m 9 #[.val (.ref b), .val (.int (Int32.ofNat o)), .val (.int (Int32.ofNat len)), .val (.ref s.heap.size), .unset, .unset] [.int (Int32.ofNat len), .int (Int32.ofNat 0), .ref s.heap.size, .int (Int32.ofNat o), .ref b])) rfl (by rw [hml]; rfl) c5 (argsL := [.ref b, .int (Int32.ofNat o), .ref s.heap.size, .int (Int32.ofNat 0), .int (Int32.ofNat len)]) (rest := []) rfl rfl (by show 2 * 0 + 0 ≤ _; decide) (hb hbytes d9) (⟨rfl, hA3, ba3, hne, l1, by rw [bs3]; simp, hp⟩)
  obtain ⟨rfl, B6, p6, f6⟩ := E6
  have c7 : Steps p.tables e below (s₁.setTop (entryFrame m #[.ref b, .int (Int32.ofNat o), .int (Int32.ofNat len)] 6)) (T6.setTop (mkF m 12 #[.val (.ref b), .val (.int (Int32.ofNat o)), .val (.int (Int32.ofNat len)), .val (.ref s.heap.size), .unset, .unset] [.int (Int32.ofNat len)])) := g6
  have c8 : Steps p.tables e below (s₁.setTop (entryFrame m #[.ref b, .int (Int32.ofNat o), .int (Int32.ofNat len)] 6)) (T6.setTop (mkF m 58 #[.val (.ref b), .val (.int (Int32.ofNat o)), .val (.int (Int32.ofNat len)), .val (.ref s.heap.size), .val (.int (Int32.ofNat len)), .unset] [.ref s.heap.size])) := c7.trans (by
    refine XS.istore X6.here hexec rfl (hb hbytes d12) rfl rfl ?_
    refine XS.iload X6.here hexec rfl (hb hbytes d14) rfl ?_
    refine XS.iloadN X6.here hexec rfl (hb hbytes d16) rfl ?_
    refine XS.icmpYes X6.here hexec rfl (pc0 := 17) rfl (hb hbytes d17) rfl (ii_eq_t rfl) (by decide) rfl ?_
    refine XS.aloadN X6.here hexec rfl (hb hbytes d57) rfl rfl ?_
    exact Steps.refl _)
  have X8 := X6.wide (L' := []) (cells' := 1) (slots' := len) (fun x hx hlt => by
    simp only [List.nil_append, copyLocs, List.mem_map, List.mem_range] at hx
    obtain ⟨i, -, rfl⟩ := hx
    exact absurd hlt (Nat.lt_irrefl _)) (Nat.le_refl _) (by omega)
  exact ⟨T6, some (.ref s.heap.size), _, _, _, X8, rfl, rfl, rfl, (fun h => by cases h), ⟨⟨rfl, B6, ba3.like (X3.warmed.alike.symm.trans X6.warmed.alike) p6.1 f6.1 f6.2.1 f6.2.2.1, f6.2.1.trans bv3, by rw [X6.warmed.alike.findClass, f6.1]; exact bf3, by rw [f6.2.2.1, bs3]; simp, fun j hj => by rw [f6.2.2.2 j, if_pos (by omega)]; rfl, kp3.put p6 (Nat.le_refl _)⟩, by rw [p6.2.2, bh3, hh0]; simp⟩, fun fs hl => c8.trans (X8.areturnOut hexec rfl hret rfl (hb hbytes d58) hl)⟩
end Cmp3
namespace CodL
def yN : MethodName := ⟨"java/lang/StringUTF16", "coderFromArrayLen", "([BI)B"⟩
abbrev yB : ByteArray := jdk_52_method_15_code
theorem d0 : decode yB 0 = .ok (.iload_n 1, 1) := by decide +kernel
theorem d1 : decode yB 1 = .ok (.aload_n 0, 1) := by decide +kernel
theorem d2 : decode yB 2 = .ok (.arraylength, 1) := by decide +kernel
theorem d3 : decode yB 3 = .ok (.isub, 1) := by decide +kernel
theorem d4 : decode yB 4 = .ok (.bipush 31, 2) := by decide +kernel
theorem d6 : decode yB 6 = .ok (.iushr, 1) := by decide +kernel
theorem d7 : decode yB 7 = .ok (.i2b, 1) := by decide +kernel
theorem d8 : decode yB 8 = .ok (.ireturn, 1) := by decide +kernel
def site : List Cond := []
def tab : Cond := tabOf yN yB 2 (some .byte) site
def P (d : Addr) (B : Cell) (args : Array Value) (s : State) : Prop := args = #[.ref d, .int (Int32.ofNat B.slots.size)] ∧ Arr .byte d B s
def E (r : Option Value) (s u : State) : Prop := XT.PureE (some (.int 0)) r s u
/-- an array as long as the number of chars: LATIN1 -/
theorem law (l : Launch) (d : Addr) (B : Cell) : Law l yN 2 2 0 0 yB 2 (some .byte) site (P d B) E [] 0 0 := by
  refine Law.of_walk (plainFor_of_name (by decide +kernel)) (by decide +kernel) (by decide +kernel) (by decide) (fun _ _ h => by rw [h.1]; rfl) (fun _ U U' hal hh h => ⟨h.1, h.2.mv hal hh⟩) (fun r U U' V V' h1 hal h2 h => XT.PureE.mv r U U' V V' h1 hal h2 h) ?_
  intro p e s m args below meth c s₁ X0 hexec hbytes hml hret hlk hnm hown hh0 W hP
  obtain ⟨rfl, hB⟩ := hP
  have hB0 := hB.mv X0.warmed.alike hh0
  have c1 : Steps p.tables e below (s₁.setTop (entryFrame m #[.ref d, .int (Int32.ofNat B.slots.size)] 2)) (s₁.setTop (mkF m 0 #[.val (.ref d), .val (.int (Int32.ofNat B.slots.size))] [])) := entry rfl
  have c2 : Steps p.tables e below (s₁.setTop (entryFrame m #[.ref d, .int (Int32.ofNat B.slots.size)] 2)) (s₁.setTop (mkF m 2 #[.val (.ref d), .val (.int (Int32.ofNat B.slots.size))] [.ref d, .int (Int32.ofNat B.slots.size)])) := c1.trans (by
    refine XS.iloadN X0.here hexec rfl (hb hbytes d0) rfl ?_
    refine XS.aloadN X0.here hexec rfl (hb hbytes d1) rfl rfl ?_
    exact Steps.refl _)
  have c3 : Steps p.tables e below (s₁.setTop (entryFrame m #[.ref d, .int (Int32.ofNat B.slots.size)] 2)) (s₁.setTop (mkF m 8 #[.val (.ref d), .val (.int (Int32.ofNat B.slots.size))] [.int (lo8 (ushr (Int32.ofNat B.slots.size - Int32.ofNat B.slots.size) 31))])) := c2.trans (by
    refine X0.alen hexec hB0 rfl rfl (hb hbytes d2) ?_
    refine XS.isub X0.here hexec rfl (hb hbytes d3) rfl ?_
    refine bipushV X0.here hexec rfl 31 (hb hbytes d4) (by decide) ?_
    refine iushr X0.here hexec rfl (hb hbytes d6) rfl ?_
    refine i2b X0.here hexec rfl (hb hbytes d7) rfl ?_
    exact Steps.refl _)
  have e0 : lo8 (ushr (Int32.ofNat B.slots.size - Int32.ofNat B.slots.size) 31) = 0 := by rw [Int32.sub_self]; decide
  rw [e0] at c3
  exact ⟨s₁, some (.int 0), _, _, _, X0, rfl, rfl, rfl, (fun h => by cases h), ⟨rfl, hh0⟩, fun fs hl => c3.trans (X0.ireturnOut hexec hret rfl (Or.inr (Or.inr (Or.inl rfl))) (hb hbytes d8) hl)⟩
end CodL
/-- the String at a is Latin-1 over a new byte[] (the heap's one new cell): the low bytes of the len chars of A from o on; every cell but a is kept -/
def Got (a : Addr) (D : Cell) (fV fC : Field) (A : Cell) (o len : Nat) (r : Option Value) (s u : State) : Prop := r = none ∧ ∃ D' V : Cell, Blank "java/lang/String" a D' u ∧ Same D D' [fV.slot, fC.slot] ∧ D'.slots[fV.slot]? = some (.ref s.heap.size) ∧ D'.slots[fC.slot]? = some (.int 0) ∧ Arr .byte s.heap.size V u ∧ V.vm = .none ∧ u.vm.findClass "[B" = some V.cls ∧ V.slots.size = len ∧ (∀ j, j < len → V.slots[j]? = some (.int (lo8 (cv A (o + j))))) ∧ (∀ (y : Addr) (c : Cell), y ≠ a → s.heap[y]? = some c → u.heap[y]? = some c) ∧ u.heap.size = s.heap.size + 1
theorem Got.mv {a : Addr} {D A : Cell} {fV fC : Field} {o len : Nat} : ∀ r (U U' V V' : State), U'.heap = U.heap → V.vm.Alike V'.vm → V'.heap = V.heap → Got a D fV fC A o len r U V → Got a D fV fC A o len r U' V' :=
  fun r U U' V V' h1 hal h2 ⟨e0, D', X, a1, a2, a3, a4, a5, a6, a7, a8, a9, a10, a11⟩ => ⟨e0, D', X, a1.mv hal h2, a2, by rw [h1]; exact a3, a4, by rw [h1]; exact a5.mv hal h2, a6, by rw [hal.findClass]; exact a7, a8, a9, by rw [h1, h2]; exact a10, by rw [h1, h2]; exact a11⟩
namespace New4
def yN : MethodName := ⟨"java/lang/String", "<init>", "([CIILjava/lang/Void;)V"⟩
abbrev yB : ByteArray := jdk_42_method_149_code
theorem d0 : decode yB 0 = .ok (.aload_n 0, 1) := by decide +kernel
theorem d1 : decode yB 1 = .ok (.invokespecial 1, 3) := by decide +kernel
theorem d4 : decode yB 4 = .ok (.iload_n 3, 1) := by decide +kernel
theorem d5 : decode yB 5 = .ok (.ifCond (.ne) 22, 3) := by decide +kernel
theorem d27 : decode yB 27 = .ok (.getstatic 38, 3) := by decide +kernel
theorem d30 : decode yB 30 = .ok (.ifCond (.eq) 28, 3) := by decide +kernel
theorem d33 : decode yB 33 = .ok (.aload_n 1, 1) := by decide +kernel
theorem d34 : decode yB 34 = .ok (.iload_n 2, 1) := by decide +kernel
theorem d35 : decode yB 35 = .ok (.iload_n 3, 1) := by decide +kernel
theorem d36 : decode yB 36 = .ok (.invokestatic 177, 3) := by decide +kernel
theorem d39 : decode yB 39 = .ok (.astore 5, 2) := by decide +kernel
theorem d41 : decode yB 41 = .ok (.aload_n 0, 1) := by decide +kernel
theorem d42 : decode yB 42 = .ok (.aload 5, 2) := by decide +kernel
theorem d44 : decode yB 44 = .ok (.iload_n 3, 1) := by decide +kernel
theorem d45 : decode yB 45 = .ok (.invokestatic 47, 3) := by decide +kernel
theorem d48 : decode yB 48 = .ok (.putfield 15, 3) := by decide +kernel
theorem d51 : decode yB 51 = .ok (.aload_n 0, 1) := by decide +kernel
theorem d52 : decode yB 52 = .ok (.aload 5, 2) := by decide +kernel
theorem d54 : decode yB 54 = .ok (.putfield 9, 3) := by decide +kernel
theorem d57 : decode yB 57 = .ok (.return_, 1) := by decide +kernel
def site : List Cond := [.fieldLink "java/lang/String" 38 "java/lang/String" "COMPACT_STRINGS" "Z", Cmp3.tab, CodL.tab, .laysFinal "java/lang/String" "java/lang/String" "value" "[B", .fieldLink "java/lang/String" 9 "java/lang/String" "value" "[B", .laysFinal "java/lang/String" "java/lang/String" "coder" "B", .fieldLink "java/lang/String" 15 "java/lang/String" "coder" "B"] ++ objW "java/lang/String" 1 ++ staticW "java/lang/String" 177 Cmp3.yN ++ staticW "java/lang/String" 47 CodL.yN
def tab : Cond := tabOf yN yB 6 none site
def P (a : Addr) (D : Cell) (fV fC : Field) (b : Addr) (A : Cell) (z : Int32) (o len : Nat) (args : Array Value) (s : State) : Prop := args = #[.ref a, .ref b, .int (Int32.ofNat o), .int (Int32.ofNat len), .null] ∧ Blank "java/lang/String" a D s ∧ Found "java/lang/String" "value" "[B" fV s ∧ Found "java/lang/String" "coder" "B" fC s ∧ Ch b A s ∧ StaticIs s "java/lang/String" "COMPACT_STRINGS" "Z" (.int z) ∧ ¬ z = 0 ∧ 0 < len ∧ o + len ≤ A.slots.size ∧ len ≤ 536870912 ∧ ∀ i, i < len → ¬ 255 < cv A (o + i)
def E (a : Addr) (D : Cell) (fV fC : Field) (A : Cell) (o len : Nat) (r : Option Value) (s u : State) : Prop := Got a D fV fC A o len r s u
/-- len > 0, no char of the range above 255: a Latin-1 String of their low bytes -/
theorem law (l : Launch) (a : Addr) (D : Cell) (fV fC : Field) (b : Addr) (A : Cell) (z : Int32) (o len : Nat) : Law l yN 5 4 2 35 yB 6 none site (P a D fV fC b A z o len) (E a D fV fC A o len) [⟨a, fC.slot⟩, ⟨a, fV.slot⟩] 1 len := by
  refine Law.of_walk (plainFor_of_name (by decide +kernel)) (by decide +kernel) (by decide +kernel) (by decide) (fun _ _ h => by rw [h.1]; rfl) (fun _ U U' hal hh h => ⟨h.1, h.2.1.mv hal hh, h.2.2.1.al hal, h.2.2.2.1.al hal, h.2.2.2.2.1.mv hal hh, h.2.2.2.2.2.1.there hal hh, h.2.2.2.2.2.2⟩) (fun r U U' V V' h1 hal h2 h => Got.mv r U U' V V' h1 hal h2 h) ?_
  intro p e s m args below meth c s₁ X0 hexec hbytes hml hret hlk hnm hown hh0 W hP
  obtain ⟨rfl, hB, f1, f2, hA, s1, hz, l0, l1, l2, hp⟩ := hP
  have a31 := hA.1.2.2.2
  have c1 : Steps p.tables e below (s₁.setTop (entryFrame m #[.ref a, .ref b, .int (Int32.ofNat o), .int (Int32.ofNat len), .null] 6)) (s₁.setTop (mkF m 0 #[.val (.ref a), .val (.ref b), .val (.int (Int32.ofNat o)), .val (.int (Int32.ofNat len)), .val .null, .unset] [])) := entry rfl
  have c2 : Steps p.tables e below (s₁.setTop (entryFrame m #[.ref a, .ref b, .int (Int32.ofNat o), .int (Int32.ofNat len), .null] 6)) (s₁.setTop (mkF m 1 #[.val (.ref a), .val (.ref b), .val (.int (Int32.ofNat o)), .val (.int (Int32.ofNat len)), .val .null, .unset] [.ref a])) := c1.trans (by
    refine XS.aloadN X0.here hexec rfl (hb hbytes d0) rfl rfl ?_
    exact Steps.refl _)
  obtain ⟨T3, X3, q3, st3⟩ := X0.oinit hexec hown (wks W (objW "java/lang/String" 1)) (g := (mkF m 1 #[.val (.ref a), .val (.ref b), .val (.int (Int32.ofNat o)), .val (.int (Int32.ofNat len)), .val .null, .unset] [.ref a])) rfl (by rw [hml]; rfl) (rest := []) rfl (hb hbytes d1) (W := 0) (by show 2 * 0 + 0 ≤ _; decide) (Nat.le_of_ble_eq_true rfl) (Nat.le_of_ble_eq_true rfl)
  have hh3 := q3.trans hh0
  have c4 : Steps p.tables e below (s₁.setTop (entryFrame m #[.ref a, .ref b, .int (Int32.ofNat o), .int (Int32.ofNat len), .null] 6)) (T3.setTop (mkF m 27 #[.val (.ref a), .val (.ref b), .val (.int (Int32.ofNat o)), .val (.int (Int32.ofNat len)), .val .null, .unset] [])) := (c2.trans (st3 _ (Steps.refl _))).trans (by
    refine XS.iloadN X3.here hexec rfl (hb hbytes d4) rfl ?_
    refine XS.ifYes X3.here hexec rfl (pc0 := 5) rfl (hb hbytes d5) rfl (i0_ne_t (nz32 (by omega) l0)) (by decide) rfl ?_
    exact Steps.refl _)
  obtain ⟨T5, X5, q5, st5⟩ := X3.sget hexec hown (wk W (.fieldLink "java/lang/String" 38 "java/lang/String" "COMPACT_STRINGS" "Z")) s1 (fun _ _ h => by rw [hh3]; exact h) (g := (mkF m 27 #[.val (.ref a), .val (.ref b), .val (.int (Int32.ofNat o)), .val (.int (Int32.ofNat len)), .val .null, .unset] [])) rfl (hb hbytes d27)
  have hh5 := q5.trans hh3
  have c6 : Steps p.tables e below (s₁.setTop (entryFrame m #[.ref a, .ref b, .int (Int32.ofNat o), .int (Int32.ofNat len), .null] 6)) (T5.setTop (mkF m 30 #[.val (.ref a), .val (.ref b), .val (.int (Int32.ofNat o)), .val (.int (Int32.ofNat len)), .val .null, .unset] [.int z])) := c4.trans (st5 _ (Steps.refl _))
  have c7 : Steps p.tables e below (s₁.setTop (entryFrame m #[.ref a, .ref b, .int (Int32.ofNat o), .int (Int32.ofNat len), .null] 6)) (T5.setTop (mkF m 36 #[.val (.ref a), .val (.ref b), .val (.int (Int32.ofNat o)), .val (.int (Int32.ofNat len)), .val .null, .unset] [.int (Int32.ofNat len), .int (Int32.ofNat o), .ref b])) := c6.trans (by
    refine XS.ifNo X5.here hexec rfl (hb hbytes d30) rfl (i0_eq_f hz) ?_
    refine XS.aloadN X5.here hexec rfl (hb hbytes d33) rfl rfl ?_
    refine XS.iloadN X5.here hexec rfl (hb hbytes d34) rfl ?_
    refine XS.iloadN X5.here hexec rfl (hb hbytes d35) rfl ?_
    exact Steps.refl _)
  obtain ⟨v8, T8, X8, E8, g8⟩ := X5.callS hexec (Cmp3.law l b A o len) hown (wks W (staticW "java/lang/String" 177 Cmp3.yN)) (wk W Cmp3.tab) (W := 0) (Nat.le_of_ble_eq_true rfl) (Nat.le_of_ble_eq_true rfl) (Nat.le_refl _) (by show 0 + len ≤ len; omega) (g := (mkF m 36 #[.val (.ref a), .val (.ref b), .val (.int (Int32.ofNat o)), .val (.int (Int32.ofNat len)), .val .null, .unset] [.int (Int32.ofNat len), .int (Int32.ofNat o), .ref b])) rfl (by rw [hml]; rfl) c7 (argsL := [.ref b, .int (Int32.ofNat o), .int (Int32.ofNat len)]) (rest := []) rfl rfl (by show 2 * 0 + 0 ≤ _; decide) (hb hbytes d36) (⟨rfl, hA.mv X5.warmed.alike hh5, l1, l2, hp⟩)
  obtain ⟨e8, z8⟩ := E8
  obtain ⟨rfl, N, n1, n2, n3, n4, n5, n6⟩ := NewArr.mv _ T5 s _ _ hh5.symm (Vm.Alike.refl _) rfl e8
  rw [hh5] at z8
  have hB1 := hB.keep X8.warmed.alike (n6 _ _ hB.1)
  have hne : s.heap.size ≠ a := (Nat.ne_of_lt (Array.getElem?_eq_some_iff.mp hB.1).1).symm
  have c9 : Steps p.tables e below (s₁.setTop (entryFrame m #[.ref a, .ref b, .int (Int32.ofNat o), .int (Int32.ofNat len), .null] 6)) (T8.setTop (mkF m 39 #[.val (.ref a), .val (.ref b), .val (.int (Int32.ofNat o)), .val (.int (Int32.ofNat len)), .val .null, .unset] [.ref s.heap.size])) := g8
  have c10 : Steps p.tables e below (s₁.setTop (entryFrame m #[.ref a, .ref b, .int (Int32.ofNat o), .int (Int32.ofNat len), .null] 6)) (T8.setTop (mkF m 45 #[.val (.ref a), .val (.ref b), .val (.int (Int32.ofNat o)), .val (.int (Int32.ofNat len)), .val .null, .val (.ref s.heap.size)] [.int (Int32.ofNat N.slots.size), .ref s.heap.size, .ref a])) := by
    have hc : Steps p.tables e below (s₁.setTop (entryFrame m #[.ref a, .ref b, .int (Int32.ofNat o), .int (Int32.ofNat len), .null] 6)) (T8.setTop (mkF m 45 #[.val (.ref a), .val (.ref b), .val (.int (Int32.ofNat o)), .val (.int (Int32.ofNat len)), .val .null, .val (.ref s.heap.size)] [.int (Int32.ofNat len), .ref s.heap.size, .ref a])) := c9.trans (by
      refine XS.astore X8.here hexec rfl (hb hbytes d39) rfl rfl rfl ?_
      refine XS.aloadN X8.here hexec rfl (hb hbytes d41) rfl rfl ?_
      refine XS.aload X8.here hexec rfl (hb hbytes d42) rfl rfl ?_
      refine XS.iloadN X8.here hexec rfl (hb hbytes d44) rfl ?_
      exact Steps.refl _)
    rw [n4]; exact hc
  obtain ⟨v11, T11, X11, E11, g11⟩ := X8.callS hexec (CodL.law l s.heap.size N) hown (wks W (staticW "java/lang/String" 47 CodL.yN)) (wk W CodL.tab) (W := 1) (Nat.le_of_ble_eq_true rfl) (Nat.le_of_ble_eq_true rfl) (Nat.le_refl _) (by show 0 + len + 0 ≤ len; omega) (g := (mkF m 45 #[.val (.ref a), .val (.ref b), .val (.int (Int32.ofNat o)), .val (.int (Int32.ofNat len)), .val .null, .val (.ref s.heap.size)] [.int (Int32.ofNat N.slots.size), .ref s.heap.size, .ref a])) rfl (by rw [hml]; rfl) c10 (argsL := [.ref s.heap.size, .int (Int32.ofNat N.slots.size)]) (rest := [.ref a]) rfl rfl (by show 2 * 0 + (1 + 0) ≤ _; decide) (hb hbytes d45) (⟨rfl, n1⟩)
  obtain ⟨rfl, q11⟩ := E11
  have hB11 := hB1.mv (X8.warmed.alike.symm.trans X11.warmed.alike) q11
  have c12 : Steps p.tables e below (s₁.setTop (entryFrame m #[.ref a, .ref b, .int (Int32.ofNat o), .int (Int32.ofNat len), .null] 6)) (T11.setTop (mkF m 48 #[.val (.ref a), .val (.ref b), .val (.int (Int32.ofNat o)), .val (.int (Int32.ofNat len)), .val .null, .val (.ref s.heap.size)] [.int 0, .ref a])) := g11
  obtain ⟨T13, X13, p13, bl13, sl13, st13⟩ := X11.finit hexec hown (wk W (.fieldLink "java/lang/String" 15 "java/lang/String" "coder" "B")) (Or.inr ⟨_, (wk W (.laysFinal "java/lang/String" "java/lang/String" "coder" "B"))⟩) (Or.inl ⟨rfl, hnm⟩) f2 (Or.inl rfl) hB11 (t := .byte) (by decide +kernel) rfl (g := (mkF m 48 #[.val (.ref a), .val (.ref b), .val (.int (Int32.ofNat o)), .val (.int (Int32.ofNat len)), .val .null, .val (.ref s.heap.size)] [.int 0, .ref a])) rfl (rest := []) rfl (hb hbytes d48)
  have c14 : Steps p.tables e below (s₁.setTop (entryFrame m #[.ref a, .ref b, .int (Int32.ofNat o), .int (Int32.ofNat len), .null] 6)) (T13.setTop (mkF m 54 #[.val (.ref a), .val (.ref b), .val (.int (Int32.ofNat o)), .val (.int (Int32.ofNat len)), .val .null, .val (.ref s.heap.size)] [.ref s.heap.size, .ref a])) := (c12.trans (st13 _ (Steps.refl _))).trans (by
    refine XS.aloadN X13.here hexec rfl (hb hbytes d51) rfl rfl ?_
    refine XS.aload X13.here hexec rfl (hb hbytes d52) rfl rfl ?_
    exact Steps.refl _)
  obtain ⟨T15, X15, p15, bl15, sl15, st15⟩ := X13.finit hexec hown (wk W (.fieldLink "java/lang/String" 9 "java/lang/String" "value" "[B")) (Or.inr ⟨_, (wk W (.laysFinal "java/lang/String" "java/lang/String" "value" "[B"))⟩) (Or.inl ⟨rfl, hnm⟩) f1 (Or.inl rfl) bl13 (t := (.array .byte)) (by decide +kernel) rfl (g := (mkF m 54 #[.val (.ref a), .val (.ref b), .val (.int (Int32.ofNat o)), .val (.int (Int32.ofNat len)), .val .null, .val (.ref s.heap.size)] [.ref s.heap.size, .ref a])) rfl (rest := []) rfl (hb hbytes d54)
  have c16 : Steps p.tables e below (s₁.setTop (entryFrame m #[.ref a, .ref b, .int (Int32.ofNat o), .int (Int32.ofNat len), .null] 6)) (T15.setTop (mkF m 57 #[.val (.ref a), .val (.ref b), .val (.int (Int32.ofNat o)), .val (.int (Int32.ofNat len)), .val .null, .val (.ref s.heap.size)] [])) := c14.trans (st15 _ (Steps.refl _))
  have ap := apart (Or.inr ⟨_, (wk W (.laysFinal "java/lang/String" "java/lang/String" "value" "[B"))⟩) (Or.inr ⟨_, (wk W (.laysFinal "java/lang/String" "java/lang/String" "coder" "B"))⟩) f1 f2 (t₁ := .array .byte) (t₂ := .byte) (by decide +kernel) (by decide +kernel) (by decide)
  have al := X8.warmed.alike.symm.trans X15.warmed.alike
  have n7 : T11.heap[s.heap.size]? = some N := by rw [q11]; exact n1.1
  exact ⟨T15, none, _, _, _, X15, by simp, rfl, by omega, (fun _ => rfl), ⟨rfl, _, N, bl15, ((Same.refl D _).set _ (by simp)).set _ (by simp), sl15, (Cell.slots_setSlot_ne _ ap).trans sl13, n1.keep al (p15.other hne (p13.other hne n7)), n2, by rw [al.findClass]; exact n3, n4, n5, fun y c h1 h2 => p15.other h1 (p13.other h1 (by rw [q11]; exact n6 y c h2)), by rw [p15.2.2, p13.2.2, q11]; exact z8⟩, fun fs hl => c16.trans (X15.returnOut hexec hret (hb hbytes d57) hl)⟩
end New4
namespace New1
def yN : MethodName := ⟨"java/lang/String", "<init>", "([C)V"⟩
abbrev yB : ByteArray := jdk_42_method_3_code
theorem d0 : decode yB 0 = .ok (.aload_n 0, 1) := by decide +kernel
theorem d1 : decode yB 1 = .ok (.aload_n 1, 1) := by decide +kernel
theorem d2 : decode yB 2 = .ok (.iconst 0, 1) := by decide +kernel
theorem d3 : decode yB 3 = .ok (.aload_n 1, 1) := by decide +kernel
theorem d4 : decode yB 4 = .ok (.arraylength, 1) := by decide +kernel
theorem d5 : decode yB 5 = .ok (.aconst_null, 1) := by decide +kernel
theorem d6 : decode yB 6 = .ok (.invokespecial 27, 3) := by decide +kernel
theorem d9 : decode yB 9 = .ok (.return_, 1) := by decide +kernel
def site : List Cond := [New4.tab] ++ initW "java/lang/String" 27 New4.yN
def tab : Cond := tabOf yN yB 2 none site
def P (a : Addr) (D : Cell) (fV fC : Field) (b : Addr) (A : Cell) (z : Int32) (args : Array Value) (s : State) : Prop := args = #[.ref a, .ref b] ∧ Blank "java/lang/String" a D s ∧ Found "java/lang/String" "value" "[B" fV s ∧ Found "java/lang/String" "coder" "B" fC s ∧ Ch b A s ∧ StaticIs s "java/lang/String" "COMPACT_STRINGS" "Z" (.int z) ∧ ¬ z = 0 ∧ 0 < A.slots.size ∧ A.slots.size ≤ 536870912 ∧ ∀ i, i < A.slots.size → ¬ 255 < cv A i
def E (a : Addr) (D : Cell) (fV fC : Field) (A : Cell) (r : Option Value) (s u : State) : Prop := Got a D fV fC A 0 A.slots.size r s u
/-- new String(chars), not empty, no char above 255: a Latin-1 String of their low bytes -/
theorem law (l : Launch) (a : Addr) (D : Cell) (fV fC : Field) (b : Addr) (A : Cell) (z : Int32) : Law l yN 2 1 3 52 yB 2 none site (P a D fV fC b A z) (E a D fV fC A) [⟨a, fC.slot⟩, ⟨a, fV.slot⟩] 1 A.slots.size := by
  refine Law.of_walk (plainFor_of_name (by decide +kernel)) (by decide +kernel) (by decide +kernel) (by decide) (fun _ _ h => by rw [h.1]; rfl) (fun _ U U' hal hh h => ⟨h.1, h.2.1.mv hal hh, h.2.2.1.al hal, h.2.2.2.1.al hal, h.2.2.2.2.1.mv hal hh, h.2.2.2.2.2.1.there hal hh, h.2.2.2.2.2.2⟩) (fun r U U' V V' h1 hal h2 h => Got.mv r U U' V V' h1 hal h2 h) ?_
  intro p e s m args below meth c s₁ X0 hexec hbytes hml hret hlk hnm hown hh0 W hP
  obtain ⟨rfl, hB, f1, f2, hA, s1, hz, l0, l2, hp⟩ := hP
  have c1 : Steps p.tables e below (s₁.setTop (entryFrame m #[.ref a, .ref b] 2)) (s₁.setTop (mkF m 0 #[.val (.ref a), .val (.ref b)] [])) := entry rfl
  have c2 : Steps p.tables e below (s₁.setTop (entryFrame m #[.ref a, .ref b] 2)) (s₁.setTop (mkF m 6 #[.val (.ref a), .val (.ref b)] [.null, .int (Int32.ofNat A.slots.size), .int 0, .ref b, .ref a])) := c1.trans (by
    refine XS.aloadN X0.here hexec rfl (hb hbytes d0) rfl rfl ?_
    refine XS.aloadN X0.here hexec rfl (hb hbytes d1) rfl rfl ?_
    refine iconstV X0.here hexec rfl 0 (hb hbytes d2) (by decide) ?_
    refine XS.aloadN X0.here hexec rfl (hb hbytes d3) rfl rfl ?_
    refine X0.alen hexec (hA.1.mv X0.warmed.alike hh0) rfl rfl (hb hbytes d4) ?_
    refine XS.aconstNull X0.here hexec rfl (hb hbytes d5) ?_
    exact Steps.refl _)
  obtain ⟨v3, T3, X3, E3, g3⟩ := X0.callN hexec (New4.law l a D fV fC b A z 0 A.slots.size) rfl hown (wks W (initW "java/lang/String" 27 New4.yN)) (W New4.tab (by simp only [site, List.mem_cons, List.mem_append, true_or, or_true])) (W := 0) (Nat.le_of_ble_eq_true rfl) (Nat.le_of_ble_eq_true rfl) (Nat.le_refl _) (by show 0 + A.slots.size ≤ A.slots.size; omega) (g := (mkF m 6 #[.val (.ref a), .val (.ref b)] [.null, .int (Int32.ofNat A.slots.size), .int (Int32.ofNat 0), .ref b, .ref a])) rfl (by rw [hml]; rfl) c2 (argsL := [.ref b, .int (Int32.ofNat 0), .int (Int32.ofNat A.slots.size), .null]) (rest := []) rfl rfl (by show 2 * 0 + 0 ≤ _; decide) (hb hbytes d6) (⟨rfl, hB.mv X0.warmed.alike hh0, f1.al X0.warmed.alike, f2.al X0.warmed.alike, hA.mv X0.warmed.alike hh0, s1.there X0.warmed.alike hh0, hz, l0, by omega, l2, fun i hi => by rw [Nat.zero_add]; exact hp i hi⟩)
  have e0 := Got.mv _ s₁ s _ _ hh0.symm (Vm.Alike.refl _) rfl E3
  obtain rfl := e0.1
  have c4 : Steps p.tables e below (s₁.setTop (entryFrame m #[.ref a, .ref b] 2)) (T3.setTop (mkF m 9 #[.val (.ref a), .val (.ref b)] [])) := g3
  exact ⟨T3, none, _, _, _, X3, by simp, rfl, by omega, (fun _ => rfl), e0, fun fs hl => c4.trans (X3.returnOut hexec hret (hb hbytes d9) hl)⟩
theorem pays {l : Launch} {R : Room} {p : Program} {e : Env} {below : List Frame} {s : State} {sargs : Array Value} {len W : Nat} (a : Addr) (D : Cell) (fV fC : Field) (b : Addr) (A : Cell) (z : Int32) (htab : tab.before sargs s = true) (hfr : 4 ≤ R.frames) (hlo : W + 65 ≤ R.locals) :
    Back l R p e below s sargs yN len W (fun A₁ a₁ => A₁.cells + 1 ≤ R.cells ∧ A₁.slots + A.slots.size ≤ R.slots ∧ P a D fV fC b A z a₁ A₁.U) (fun A₁ _ v₁ B₁ => E a D fV fC A v₁ A₁.U B₁.U ∧ B₁.locs = A₁.locs ++ [⟨a, fC.slot⟩, ⟨a, fV.slot⟩] ∧ B₁.cells = A₁.cells + 1 ∧ B₁.slots = A₁.slots + A.slots.size) :=
  (law l a D fV fC b A z).pays htab hfr (by omega)
end New1
end StrChars
namespace StrChars.Road
open Jvm Sem ClassFile Op Lib Jvm.Stand Jvm.Free Jvm.Free.XT
open Jvm.Lib.Cold (StaticIs)
abbrev ST : String := "java/lang/String"
/-- every table word that New1's law asks, flat -/
abbrev words : List Jvm.Cond := [.code New1.yN New1.yB 2 none, .initialized ST, .methodLink ST 27 New4.yN, .instanceMethod New4.yN,
  .code New4.yN New4.yB 6 none, .fieldLink ST 38 ST "COMPACT_STRINGS" "Z", .laysFinal ST ST "value" "[B", .fieldLink ST 9 ST "value" "[B", .laysFinal ST ST "coder" "B", .fieldLink ST 15 ST "coder" "B",
  .methodLink ST 1 Lib.objectInit, .instanceMethod Lib.objectInit, .code Lib.objectInit ⟨#[0xb1]⟩ 1 none, .methodLink ST 177 Cmp3.yN, .static Cmp3.yN, .methodLink ST 47 CodL.yN, .static CodL.yN,
  .code Cmp3.yN Cmp3.yB 6 (some (.array .byte)), .initialized U16, .arrayClass .byte, .methodLink U16 115 Cmp5.yN, .static Cmp5.yN, .code Cmp5.yN Cmp5.yB 7 (some .int), .code CodL.yN CodL.yB 2 (some .byte)]
theorem tab_of {a : Array Value} {s : State} (h : ∀ w ∈ words, w.before a s = true) : New1.tab.before a s = true := by
  have h5 : Cmp5.tab.before a s = true := unparts (wk h (.code Cmp5.yN Cmp5.yB 7 (some .int))) (wks h (.initialized Cmp5.yN.cls :: Cmp5.site))
  have hc : CodL.tab.before a s = true := unparts (wk h (.code CodL.yN CodL.yB 2 (some .byte))) (wks h (.initialized CodL.yN.cls :: CodL.site))
  have q5 : ∀ w ∈ Cmp5.tab :: words, w.before a s = true := fun w hw => (List.mem_cons.mp hw).elim (fun e => e ▸ h5) (h w)
  have h3 : Cmp3.tab.before a s = true := unparts (wk q5 (.code Cmp3.yN Cmp3.yB 6 (some (.array .byte)))) (wks q5 (.initialized Cmp3.yN.cls :: Cmp3.site))
  have q3 : ∀ w ∈ Cmp3.tab :: CodL.tab :: words, w.before a s = true := fun w hw => (List.mem_cons.mp hw).elim (fun e => e ▸ h3) fun hw => (List.mem_cons.mp hw).elim (fun e => e ▸ hc) (h w)
  have h4 : New4.tab.before a s = true := unparts (wk q3 (.code New4.yN New4.yB 6 none)) (wks q3 (.initialized New4.yN.cls :: New4.site))
  have q4 : ∀ w ∈ New4.tab :: words, w.before a s = true := fun w hw => (List.mem_cons.mp hw).elim (fun e => e ▸ h4) (h w)
  exact unparts (wk q4 (.code New1.yN New1.yB 2 none)) (wks q4 (.initialized New1.yN.cls :: New1.site))
/-- the words ride from the start Z to the walk's own state -/
theorem moved {Z s : State} {a0 args : Array Value} (hZ : Z.Warmed39 s.vm) (hw : ∀ d ∈ words, d.before a0 Z = true) : ∀ d ∈ words, d.before args s = true := fun d hd => by
  have q := hw d hd
  have t : ∀ d ∈ words, d = .arrayClass .byte ∨ (d.onTables && d.keepsFace) = true := by decide +kernel
  rcases t d hd with rfl | t
  · exact RoadKit.mvA hZ q
  · exact RoadKit.mv hZ q t
/-- WHAT COMES BACK, over the tables of the start Z: h the heap at the call, h' behind it -/
def Q (Z : State) (x : Addr) (A : Cell) (h : Heap) (v : Option Value) (h' : Heap) (L : List Loc) : Prop := v = none ∧ (∀ y ∈ L, y.base = x) ∧ RoadKit.Keep h h' [x] ∧ h'.size = h.size + 1 ∧ RoadKit.Exa Z h' x ST ∧ RoadKit.Fld Z h' x ST "value" "[B" (.ref h.size) ∧ RoadKit.Fld Z h' x ST "coder" "B" (.int 0) ∧
  (∃ V : Cell, RoadKit.Arr Z h' h.size V .byte ∧ V.vm = .none ∧ Z.vm.findClass "[B" = some V.cls ∧ V.slots.size = A.slots.size ∧ ∀ j, j < A.slots.size → V.slots[j]? = some (.int (lo8 (cv A j)))) ∧
  ∀ (O n d : String) (w : Value), RoadKit.Fld Z h x O n d w → RoadKit.slotOf Z O n d ≠ RoadKit.slotOf Z ST "value" "[B" → RoadKit.slotOf Z O n d ≠ RoadKit.slotOf Z ST "coder" "B" → RoadKit.Fld Z h' x O n d w
/-- **new String(chars) AT A CALL, IN THE ROAD'S FORM**: for specialBack behind newO: x the fresh String, b the char[] with the cell A -/
theorem back {p : Program} {l : Launch} {e : Env} {R : Room} {s : State} {args : Array Value} {below : List Frame} {len W : Nat} {Z : State} {a0 : Array Value} {h : Heap} (hZ : Z.Warmed39 s.vm) (hw : ∀ d ∈ words, d.before a0 Z = true) {kI : Nat} (wi : (Jvm.Cond.instantiable ST kI).before a0 Z = true)
    {x b : Addr} {A : Cell} {z : Int32} {v0 c0 : Value} (E : RoadKit.Exa Z h x ST) (V : RoadKit.Fld Z h x ST "value" "[B" v0) (C : RoadKit.Fld Z h x ST "coder" "B" c0) (K : RoadKit.Arr Z h b A .char) (hty : Typed .char A) (S : RoadKit.Sta Z h ST "COMPACT_STRINGS" "Z" (.int z)) (hz : ¬ z = 0)
    (l0 : 0 < A.slots.size) (l2 : A.slots.size ≤ 536870912) (hp : ∀ i, i < A.slots.size → ¬ 255 < cv A i) (hfr : 4 ≤ R.frames) (hlo : W + 65 ≤ R.locals) :
    Back l R p e below s args New1.yN len W (fun P a => a = #[.ref x, .ref b] ∧ P.U.heap = h ∧ P.cells + 1 ≤ R.cells ∧ P.slots + A.slots.size ≤ R.slots)
      (fun P _ v B => ∃ L, Q Z x A h v B.U.heap L ∧ B.locs = P.locs ++ L ∧ B.cells = P.cells + 1 ∧ B.slots = P.slots + A.slots.size) := by
  intro m meth c P g ig mk a X hg hsize hdg hW hn hp'
  obtain ⟨rfl, rfl, r1, r2⟩ := hp'
  have al : Z.vm.Alike P.U.vm := hZ.alike.trans X.warmed.alike
  obtain ⟨D, cfV, kV, iV, fV, hD, gV, stV, knV, obV, asV, slV⟩ := id V
  obtain ⟨D', cfC, kC, iC, fC, hD', gC, stC, -, -, asC, slC⟩ := id C
  cases hD.symm.trans hD'
  obtain ⟨D2, kD, e1, e2, e3, e4, e5⟩ := id E
  cases hD.symm.trans e1
  obtain ⟨c2, k2, i1, i2, i3, -⟩ := Cond.instantiable_spec wi
  cases e2.symm.trans i1
  cases e3.symm.trans i2
  obtain ⟨kU, u1, u2⟩ := al.2.2 _ _ e3
  have hB : Blank ST x D P.U := ⟨hD, ⟨knV, fun q hq => by rw [hq] at obV; cases obV⟩, by rw [al.findClass]; exact e2, kU, u1, by rw [u2]; exact i3, by rw [u2]; exact e5 i3⟩
  have F1 : Found ST "value" "[B" fV P.U := ⟨SBG.found_only al ⟨cfV, kV, iV, gV⟩, stV⟩
  have F2 : Found ST "coder" "B" fC P.U := ⟨SBG.found_only al ⟨cfC, kC, iC, gC⟩, stC⟩
  have hA : Ch b A P.U := ⟨⟨K.1, State.isArrayOf_alike al K.2.1, K.2.2, by omega⟩, hty⟩
  have hS : StaticIs P.U ST "COMPACT_STRINGS" "Z" (.int z) := by
    obtain ⟨cfS, iS, kS, fS, st, cS, t1, t2, t3, t4, t5, t6, t7⟩ := S
    exact StaticIs.there (s := { Z with heap := P.U.heap }) ⟨cfS, iS, kS, fS, st, cS, t1, t2, t3, t4, t5, (fun q => by rw [q] at t6; cases t6), t7⟩ al rfl
  obtain ⟨v, B, X', ⟨⟨hv, E', V', q1, q2, q3, q4, q5, q6, q7, q8, q9, q10, q11⟩, hl, hc, hs⟩, st⟩ := New1.pays x D fV fC b A z (tab_of (moved hZ hw)) hfr hlo m meth c P g ig mk _ X hg hsize hdg hW hn ⟨r1, r2, rfl, hB, F1, F2, hA, hS, hz, l0, l2, hp⟩
  have al' : Z.vm.Alike B.U.vm := hZ.alike.trans X'.warmed.alike
  have hsz : E'.slots.size = D.slots.size := by
    obtain ⟨-, -, -, kB, w1, w2, w3⟩ := q1
    obtain ⟨kB', y1, y2⟩ := al'.2.2 _ _ e3
    rw [q2.2.1] at w1
    cases w1.symm.trans y1
    rw [w3, e5 i3, y2]
  refine ⟨v, B, X', ⟨_, ⟨hv, ?_, ⟨by omega, fun y cy hy hn' => q10 y cy (by simpa using hn') hy, fun y cy hy => ?_⟩, q11, ⟨E', _, q1.1, by rw [q2.2.1]; exact e2, by rw [q2.2.1]; exact e3, by rw [q2.1]; exact obV, fun _ => by rw [hsz]; exact e5 i3⟩,
    ⟨E', cfV, kV, iV, fV, q1.1, gV, stV, by rw [q2.1]; exact knV, by rw [q2.1]; exact obV, by rw [q2.2.1]; exact asV, q3⟩, ⟨E', cfC, kC, iC, fC, q1.1, gC, stC, by rw [q2.1]; exact knV, by rw [q2.1]; exact obV, by rw [q2.2.1]; exact asC, q4⟩,
    ⟨V', ⟨q5.1, State.isArrayOf_alike al'.symm q5.2.1, q5.2.2.1⟩, q6, by rw [← al'.findClass]; exact q7, q8, fun j hj => by have := q9 j hj; rwa [Nat.zero_add] at this⟩, fun O n d w F n1 n2 => ?_⟩, hl, hc, hs⟩, st⟩
  · intro y hy
    simp only [List.mem_cons, List.not_mem_nil, or_false] at hy
    rcases hy with rfl | rfl <;> rfl
  · by_cases q : y = x
    · subst q
      cases hD.symm.trans hy
      exact ⟨E', q1.1, q2.2.1, q2.1, hsz⟩
    · exact ⟨cy, q10 y cy q hy, rfl, rfl, rfl⟩
  · obtain ⟨D3, cf, k, i, f, g1, g2, g3, g4, g5, g6, g7⟩ := F
    cases hD.symm.trans g1
    simp only [RoadKit.slotOf, g2, gV, gC, Option.map_some, Option.getD_some] at n1 n2
    exact ⟨E', cf, k, i, f, q1.1, g2, g3, by rw [q2.1]; exact g4, by rw [q2.1]; exact g5, by rw [q2.2.1]; exact g6, by rw [q2.2.2 f.slot (by simp [n1, n2])]; exact g7⟩
end StrChars.Road
namespace StrChars.Road
open Jvm Sem ClassFile Op Lib Jvm.Stand Jvm.Free Jvm.Free.XT
/-- WHAT COMES BACK, the byte[] as a list of values -/
def QA (Z : State) (x : Addr) (zn : Int32) (cs : List Int32) (h : Heap) (v : Option Value) (h' : Heap) (L : List Loc) : Prop := v = none ∧ (∀ y ∈ L, y.base = x) ∧ RoadKit.Keep h h' [x] ∧ h'.size = h.size + 1 ∧ RoadKit.Exa Z h' x ST ∧ RoadKit.Fld Z h' x ST "value" "[B" (.ref h.size) ∧ RoadKit.Fld Z h' x ST "coder" "B" (.int 0) ∧
  (∃ kb, Z.vm.findClass "[B" = some kb ∧ RoadKit.Arv Z h' h.size kb .byte zn (cs.map fun c => .int (lo8 c)) (.int 0)) ∧
  ∀ (O n d : String) (w : Value), RoadKit.Fld Z h x O n d w → RoadKit.slotOf Z O n d ≠ RoadKit.slotOf Z ST "value" "[B" → RoadKit.slotOf Z O n d ≠ RoadKit.slotOf Z ST "coder" "B" → RoadKit.Fld Z h' x O n d w
/-- **new String(chars) AT A CALL, THE ARRAYS AS LISTS**: the char[] at b holds cs, not empty, no char above 255 -/
theorem backArv {p : Program} {l : Launch} {e : Env} {R : Room} {s : State} {args : Array Value} {below : List Frame} {len W : Nat} {Z : State} {a0 : Array Value} {h : Heap} (hZ : Z.Warmed39 s.vm) (hw : ∀ d ∈ words, d.before a0 Z = true) {kI : Nat} (wi : (Jvm.Cond.instantiable ST kI).before a0 Z = true)
    {x b : Addr} {k : ClassId} {zn z : Int32} {cs : List Int32} {dv v0 c0 : Value} (E : RoadKit.Exa Z h x ST) (V : RoadKit.Fld Z h x ST "value" "[B" v0) (C : RoadKit.Fld Z h x ST "coder" "B" c0) (K : RoadKit.Arv Z h b k .char zn (cs.map Value.int) dv) (S : RoadKit.Sta Z h ST "COMPACT_STRINGS" "Z" (.int z)) (hz : ¬ z = 0)
    (hlen : zn.toNatClampNeg = cs.length) (h0 : 0 < cs.length) (hbig : cs.length ≤ 536870912) (hall : ∀ c ∈ cs, ¬ 255 < c) (hfr : 4 ≤ R.frames) (hlo : W + 65 ≤ R.locals) :
    Back l R p e below s args New1.yN len W (fun P a => a = #[.ref x, .ref b] ∧ P.U.heap = h ∧ P.cells + 1 ≤ R.cells ∧ P.slots + cs.length ≤ R.slots)
      (fun P _ v B => ∃ L, QA Z x zn cs h v B.U.heap L ∧ B.locs = P.locs ++ L ∧ B.cells = P.cells + 1 ∧ B.slots = P.slots + cs.length) := by
  obtain ⟨A, K1, K2, K3, K4, K5, K6⟩ := K
  have e : A.slots.size = cs.length := K3.trans hlen
  have hat : ∀ (i : Nat) (hi : i < cs.length), A.slots[i]? = some (.int cs[i]) := fun i hi => by rw [K5 i (by omega)]; simp [List.getD_eq_getElem?_getD, hi]
  have hcv : ∀ (i : Nat) (hi : i < cs.length), cv A i = cs[i] := fun i hi => by unfold cv; rw [hat i hi]
  have hty : Typed .char A := fun i v hv => by
    have hi : i < A.slots.size := (Array.getElem?_eq_some_iff.mp hv).1
    have q := K5 i hi
    rw [hv] at q
    rw [Option.some.inj q]
    exact K6 i hi
  refine Back.mono (back hZ hw wi E V C K1 hty S hz (by omega) (by omega) (fun i hi => by rw [hcv i (by omega)]; exact hall _ (List.getElem_mem _)) hfr hlo) (fun P a hp => ⟨hp.1, hp.2.1, hp.2.2.1, by rw [e]; exact hp.2.2.2⟩) (fun P a v B hp hq => ?_)
  obtain ⟨L, ⟨q1, q2, q3, q4, q5, q6, q7, ⟨V', v1, v2, v3, v4, v5⟩, q9⟩, hl, hc, hs⟩ := hq
  refine ⟨L, ⟨q1, q2, q3, q4, q5, q6, q7, ⟨V'.cls, v3, V', v1, rfl, by rw [v4, e, hlen], K4, fun i hi => ?_, fun i hi => ?_⟩, q9⟩, hl, hc, by rw [hs, e]⟩
  · have hi' : i < cs.length := by omega
    rw [v5 i (by omega), hcv i hi']; simp [List.getD_eq_getElem?_getD, hi']
  · have hi' : i < cs.length := by omega
    simp only [List.getD_eq_getElem?_getD, List.getElem?_map, List.getElem?_eq_getElem hi', Option.map_some, Option.getD_some]
    exact fits_lo8 _
end StrChars.Road
namespace StrChars.Road
open Jvm Sem ClassFile Op Lib Jvm.Stand Jvm.Free Jvm.Free.XT
/-- WHAT COMES BACK, in the writer's own shape -/
def QV (Z : State) (x : Addr) (N : Int32) (bs : List Int32) (h : Heap) (n0 : Nat) (v : Option Value) (h' : Heap) (L : List Loc) : Prop := v = none ∧ RoadKit.Fr n0 L ∧ RoadKit.Keep h h' [x] ∧ RoadKit.Exa Z h' x ST ∧ RoadKit.Fld Z h' x ST "coder" "B" (.int 0) ∧
  ∃ (t : Addr) (kb : ClassId), n0 ≤ t ∧ h.size ≤ t ∧ ¬ t = x ∧ RoadKit.Fld Z h' x ST "value" "[B" (.ref t) ∧ RoadKit.Arv Z h' t kb .byte N (bs.map Value.int) (.int 0)
/-- **new String(chars) AT A CALL, FOR THE WRITER**: a char[] of n known ints, each 0 to 255 -/
theorem backV {p : Program} {l : Launch} {e : Env} {R : Room} {s : State} {args : Array Value} {below : List Frame} {len W : Nat} {Z : State} {a0 : Array Value} {h : Heap} (hZ : Z.Warmed39 s.vm) (hw : ∀ d ∈ words, d.before a0 Z = true) {kI : Nat} (wi : (Jvm.Cond.instantiable ST kI).before a0 Z = true)
    {x b : Addr} {kC : ClassId} {cs bs : List Int32} {d v0 c0 : Value} {z N : Int32} {n n0 : Nat} (hx0 : n0 ≤ x) (hh0 : n0 ≤ h.size) (E : RoadKit.Exa Z h x ST) (V : RoadKit.Fld Z h x ST "value" "[B" v0) (C : RoadKit.Fld Z h x ST "coder" "B" c0) (K : RoadKit.Arv Z h b kC .char N (cs.map Value.int) d) (S : RoadKit.Sta Z h ST "COMPACT_STRINGS" "Z" (.int z)) (hz : ¬ z = 0)
    (hn : cs.length = n) (hN : N = Int32.ofNat n) (l0 : 0 < n) (l2 : n ≤ 4000) (hp : ∀ c ∈ cs, ¬ c < 0 ∧ ¬ (255 : Int32) < c) (hb : bs = cs.map (fun c => c.toInt8.toInt32)) (hfr : 4 ≤ R.frames) (hlo : W + 65 ≤ R.locals) :
    Back l R p e below s args (⟨"java/lang/String", "<init>", "([C)V"⟩ : MethodName) len W (fun P a => a = #[.ref x, .ref b] ∧ P.U.heap = h ∧ P.cells + 1 ≤ R.cells ∧ P.slots + n ≤ R.slots)
      (fun P _ v B => ∃ L, QV Z x N bs h n0 v B.U.heap L ∧ B.locs = P.locs ++ L ∧ B.cells = P.cells + 1 ∧ B.slots = P.slots + n) := by
  subst hn hN hb
  refine Back.mono (backArv hZ hw wi E V C K S hz (n32 (by omega)) l0 (by omega) (fun c hc => (hp c hc).2) hfr hlo) (fun P a hp => hp) (fun P a v B hp hq => ?_)
  obtain ⟨L, ⟨q1, q2, q3, q4, q5, q6, q7, ⟨kb, v1, v2⟩, q9⟩, hl, hc, hs⟩ := hq
  exact ⟨L, ⟨q1, fun y hy => by rw [q2 y hy]; exact hx0, q3, q5, q7, h.size, kb, hh0, Nat.le_refl _, Nat.ne_of_gt E.lt, q6, by rw [List.map_map]; exact v2⟩, hl, hc, hs⟩
end StrChars.Road
end Jvm.Pilot.@@N@@

set_option maxRecDepth 65536
set_option maxHeartbeats 4000000
namespace Jvm.Pilot.@@N@@
open Jvm Jvm.ClassFile Sem Op Lib Jvm.Free Jvm.Stand Jvm.LawKit Jvm.RoadKit Bundle Jvm.OwnW Jvm.Pilot.@@N@@.Jvm.D


section StrNew
open StrChars.Road
theorem Holds.keep {Z : State} {a0 : Array Value} {h h' : Heap} {a : Addr} {D : Desc} {ws : List Addr} (K : Keep h h' ws) (q : a ∉ ws) (H : Holds Z a0 h a D) : Holds Z a0 h' a D := by
  rcases D with ⟨C, fs⟩ | ⟨ty, vs⟩
  · exact ⟨H.1.keep K, fun f hf => ⟨(H.2.1 f hf).1.keep K q, (H.2.1 f hf).2⟩, H.2.2⟩
  · obtain ⟨c, A, r⟩ := H; exact ⟨c, ⟨K.2.1 a c A.1 q, A.2⟩, r⟩
theorem arv_of {Z : State} {a0 : Array Value} {h : Heap} {a : Addr} {ty : FieldType} {vs : List Value} (H : Holds Z a0 h a (.inr (ty, vs))) (hn : vs.length < 2 ^ 31) (d : Value) (hf : ∀ v ∈ vs, fits ty v = true) : ∃ k, Arv Z h a k ty (Int32.ofNat vs.length) vs d := by
  obtain ⟨c, A, e, -⟩ := H.arr
  have q : (Int32.ofNat vs.length).toInt = vs.length := len_toInt hn
  have sz : c.slots.size = vs.length := by rw [e]; simp
  refine ⟨c.cls, c, A, rfl, ?_, ?_, fun k hk => ?_, fun i hi => ?_⟩
  · rw [sz]; simp only [Int32.toNatClampNeg, q]; rfl
  · rw [Int32.lt_iff_toInt_lt, q]; exact Int.not_lt.mpr (Int.natCast_nonneg _)
  · rw [sz] at hk; rw [e]; simp [List.getD, List.getElem?_eq_getElem hk]
  · rw [sz] at hi; simp only [List.getD, List.getElem?_eq_getElem hi, Option.getD_some]; exact hf _ (List.getElem_mem hi)
theorem holds_of_arv {Z : State} {a0 : Array Value} {h : Heap} {a : Addr} {k : ClassId} {ty : FieldType} {vs : List Value} {d : Value} {N : Int32} (V : Arv Z h a k ty N vs d) (hN : N.toNatClampNeg = vs.length) (ht : ∀ C, ty ≠ .object C) : Holds Z a0 h a (.inr (ty, vs)) := by
  obtain ⟨c, A, -, S, -, H, -⟩ := V
  refine ⟨c, A, List.ext_getElem? fun i => ?_, fun C q => absurd q (ht C)⟩
  by_cases hi : i < vs.length
  · have := H i (by omega)
    rw [Array.getElem?_toList, this]; simp [List.getD, List.getElem?_eq_getElem hi]
  · have l1 : vs.length ≤ i := by omega
    have l2 : c.slots.toList.length ≤ i := by rw [Array.length_toList]; omega
    rw [List.getElem?_eq_none l1, List.getElem?_eq_none l2]
theorem gw_newStr {J : Vm → Prop} {B : Bdy} {Z : State} {a0 : Array Value} {h0 : Heap} {Q : Option Value → Mem → Prop} {k nn : Nat} {ds : Mem} {pc : Nat} {ls : Array Slot} {st : List Value} {x b : Addr} {idx kI : Nat} {fs : Fds} {rest : List Value} {v0 c0 : Value} {z : Int32} {bytes : ByteArray} {maxL : Nat}
    (cs : List Int32) (i j n q : Nat) (hp : pc + 3 = q) (hd : decode B.2.1 pc = .ok (.invokespecial idx, 3)) (hst : st = .ref b :: .ref x :: rest) (hi : ds[i]? = some (ob x "java/lang/String" fs)) (iV iC : Nat) (hV : fs[iV]? = some ("java/lang/String", "value", "[B", v0)) (hC : fs[iC]? = some ("java/lang/String", "coder", "B", c0)) (hj : ds[j]? = some (ar b .char (cs.map Value.int)))
    (hn : cs.length = n) (l0 : 0 < n) (l2 : n ≤ 4000) (hpc : ∀ c ∈ cs, 0 ≤ c.toInt ∧ c.toInt ≤ 255) (S : Sta Z h0 "java/lang/String" "COMPACT_STRINGS" "Z" (.int z)) (hz : ¬ z = 0) (hw' : ∀ d ∈ words, d.before a0 Z = true) (wi : (Jvm.Cond.instantiable "java/lang/String" kI).before a0 Z = true)
    (w1 : (Jvm.Cond.methodLink B.1.cls idx ⟨"java/lang/String", "<init>", "([C)V"⟩).before a0 Z = true) (w2 : (Jvm.Cond.instanceMethod ⟨"java/lang/String", "<init>", "([C)V"⟩).before a0 Z = true) (w4 : (Jvm.Cond.code ⟨"java/lang/String", "<init>", "([C)V"⟩ bytes maxL none).before a0 Z = true)
    (hsz : ls.size = B.2.2.1) (W : Nat) (hW : (rest.map fun v => v.category).sum = W) (hf : 4 ≤ B.2.2.2.2.frames) (hl : W + 65 ≤ B.2.2.2.2.locals) (hk : k + 1 ≤ B.2.2.2.2.cells) (hs : nn + n ≤ B.2.2.2.2.slots)
    (H : ∀ t, GoW J B Z a0 h0 Q (k + 1) (nn + n) (ds.set i (ob x "java/lang/String" [("java/lang/String", "value", "[B", .ref t), ("java/lang/String", "coder", "B", .int 0)]) ++ [ar t .byte ((cs.map fun c => c.toInt8.toInt32).map Value.int)]) q ls rest) : GoW J B Z a0 h0 Q k nn ds pc ls st := by
  subst hp hst
  intro p l e kz s0 s rl m args below meth c T locs hs' as Cc X N M R
  have hZ := Cc.2.1
  have HX := M.at hi
  obtain ⟨FV, LV, tV, pV⟩ := HX.2.1 _ (List.mem_of_getElem? hV)
  obtain ⟨FC, LC, tC, pC⟩ := HX.2.1 _ (List.mem_of_getElem? hC)
  have i255 : (255 : Int32).toInt = 255 := rfl
  have i0 : (0 : Int32).toInt = 0 := rfl
  have i65 : (65535 : Int32).toInt = 65535 := rfl
  have lm : (cs.map Value.int).length = n := by rw [List.length_map]; exact hn
  obtain ⟨kC, KA⟩ := arv_of (M.at hj) (by omega) (.int 0) (fun v hv => by
    obtain ⟨c, hc, rfl⟩ := List.mem_map.mp hv
    have r := hpc c hc
    simp only [fits, Bool.and_eq_true, decide_eq_true_eq, Int32.le_iff_toInt_le, i0, i65]; omega)
  obtain ⟨_, _, ⟨T', L', k', n'⟩, -, X', ⟨Lc, hQ, l1, y1, z1⟩, st'⟩ := X.specialBack Cc.1 (y := (⟨"java/lang/String", "<init>", "([C)V"⟩ : MethodName)) rfl Cc.2.2.2.2.1 (mvT hZ w1) (mvT hZ w2) (mvT hZ w4) (by decide)
    (backV (W := W) hZ hw' wi (cs := cs) (n := n) (n0 := h0.size) (M.new hi id) M.1.1 HX.1 FV FC KA (S.ext M.1) hz hn (by rw [lm]) l0 l2 (fun c hc => by have r := hpc c hc; rw [Int32.lt_iff_toInt_lt, Int32.lt_iff_toInt_lt, i0, i255]; omega) rfl hf hl)
    (g := mkF m pc ls (.ref b :: .ref x :: rest)) rfl (hsz.trans Cc.2.2.2.1.symm) (Steps.refl _) (a := x) (argsL := [.ref b]) (rest := rest) (lenOf (d := "([C)V") (ps := [.array .char]) (r := none) (by decide +kernel) rfl) rfl (by show 2 * 0 + _ ≤ _; omega) (hb Cc.2.2.1 hd) (fun _ _ => ⟨rfl, rfl, hk, hs⟩)
  dsimp only [Pt.U, Pt.locs, Pt.cells, Pt.slots] at X' l1 y1 z1 st' hQ
  subst l1 y1 z1
  obtain ⟨rfl, N', K', E', C', t, kb, t0, t1, tx, V', A'⟩ := hQ
  refine (H t p l e kz s0 s rl m args below meth c T' _ hs' as Cc X' (Fr.app N N') ?_ ?_).back fun t hr => st'.trans hr
  rotate_left
  · refine ⟨Nat.le_trans R.1 K'.1, ?_⟩
    replace R := R.2
    refine ⟨Nat.le_trans R.1 K'.1, fun y cy hy hn => K'.2.1 y cy (R.2.1 y cy hy hn) (ninS (R.out (List.mem_of_getElem? hi) hy hn) nin0), fun q hq => ?_⟩
    rcases List.mem_append.mp hq with hq | hq
    · obtain ⟨j', hj'⟩ := List.getElem?_of_mem hq
      by_cases ee : i = j'
      · subst ee
        rw [List.getElem?_set_self (List.getElem?_eq_some_iff.mp hi).1] at hj'
        cases hj'; exact R.2.2 (x, .inl ("java/lang/String", fs)) (List.mem_of_getElem? hi)
      · rw [List.getElem?_set_ne ee] at hj'; exact R.2.2 _ (List.mem_of_getElem? hj')
    · cases List.mem_singleton.mp hq; exact Or.inr (Nat.le_trans R.1 t1)
  have hb0 : ∀ q ∈ ds, q.1 < T.heap.size := fun q hq => (M.2.1 q hq).2.lt
  have lb : ((cs.map fun c => c.toInt8.toInt32).map Value.int).length = n := by rw [List.length_map, List.length_map]; exact hn
  have HT : Holds Z a0 T'.heap t (.inr (.byte, (cs.map fun c => c.toInt8.toInt32).map Value.int)) := holds_of_arv A' (by
    rw [lb]; have q : (Int32.ofNat n).toInt = n := len_toInt (by omega)
    rw [lm]; simp only [Int32.toNatClampNeg, q]; rfl) (fun C q => by cases q)
  have HX' : Holds Z a0 T'.heap x (.inl ("java/lang/String", [("java/lang/String", "value", "[B", .ref t), ("java/lang/String", "coder", "B", .int 0)])) := by
    refine ⟨E', fun f hf => ?_, (by decide : (["value", "coder"] : List String).Nodup)⟩
    rcases List.mem_cons.mp hf with rfl | hf
    · exact ⟨V', LV, tV, pV⟩
    · cases List.mem_singleton.mp hf; exact ⟨C', LC, tC, pC⟩
  have hset : ∀ q ∈ ds.set i (ob x "java/lang/String" [("java/lang/String", "value", "[B", .ref t), ("java/lang/String", "coder", "B", .int 0)]), (h0.size ≤ q.1 ∨ Emp q.2) ∧ q.1 < T.heap.size ∧ Holds Z a0 T'.heap q.1 q.2 := fun q hq => by
    obtain ⟨j', hj'⟩ := List.getElem?_of_mem hq
    by_cases ee : i = j'
    · subst ee
      rw [List.getElem?_set_self (List.getElem?_eq_some_iff.mp hi).1] at hj'
      cases hj'; exact ⟨Or.inl (M.new hi id), HX.1.lt, HX'⟩
    · rw [List.getElem?_set_ne ee] at hj'
      refine ⟨(M.2.1 _ (List.mem_of_getElem? hj')).1, (M.at hj').lt, Holds.keep K' ?_ (M.at hj')⟩
      exact ninS (M.ne hj' hi (Ne.symm ee)) nin0
  refine ⟨⟨Nat.le_trans M.1.1 K'.1, fun y cy hy => K'.2.1 y cy (M.1.2 y cy hy) (ninS (Nat.ne_of_lt (Nat.lt_of_lt_of_le (Array.getElem?_eq_some_iff.mp hy).1 (M.new hi id))) nin0)⟩, fun q hq => ?_, List.pairwise_append.mpr ⟨?_, List.pairwise_singleton _ _, fun q hq r hr => ?_⟩⟩
  · rcases List.mem_append.mp hq with hq | hq
    · exact ⟨(hset q hq).1, (hset q hq).2.2⟩
    · cases List.mem_singleton.mp hq; exact ⟨Or.inl t0, HT⟩
  · refine List.pairwise_iff_getElem.mpr fun a b la lb' q => ?_
    rw [List.length_set] at la lb'
    have P := List.pairwise_iff_getElem.mp M.2.2 a b la lb' q
    obtain ⟨li, ei⟩ := List.getElem?_eq_some_iff.mp hi
    rw [List.getElem_set, List.getElem_set]
    split
    · rename_i e1; subst e1
      rw [if_neg (Nat.ne_of_lt q)]
      rw [ei] at P; exact P
    · split
      · rename_i e1; subst e1; rw [ei] at P; exact P
      · exact P
  · cases List.mem_singleton.mp hr
    exact Nat.ne_of_lt (Nat.lt_of_lt_of_le (hset q hq).2.1 t1)
end StrNew
theorem wstr : ∀ d ∈ StrChars.Road.words, d ∈ tables_1 := by decide +kernel

theorem nar_c (y : Int32) : nar .char (y.toUInt32.toUInt16.toUInt32.toInt32) = y.toUInt32.toUInt16.toUInt32.toInt32 := by
  apply Int32.toInt_inj.mp
  have a := c_i2c y
  have b := c_i2c y.toUInt32.toUInt16.toUInt32.toInt32
  show (y.toUInt32.toUInt16.toUInt32.toInt32).toUInt32.toUInt16.toUInt32.toInt32.toInt = _
  omega
theorem nar_z (z : Int32) (h : 48 ≤ z.toInt ∧ z.toInt ≤ 57) : nar .char z = z := by
  apply Int32.toInt_inj.mp
  have b := c_i2c z
  show z.toUInt32.toUInt16.toUInt32.toInt32.toInt = _
  omega
theorem lat (z : Int32) (h : 48 ≤ z.toInt ∧ z.toInt ≤ 57) : ((z.toInt8.toInt32) &&& (255 : Int32)).toUInt32.toUInt16.toUInt32.toInt32 = z := by
  apply Int32.toInt_inj.mp
  have a := c_i2b z
  have m := c_mask (z.toInt8.toInt32) (255 : Int32) 8 (by decide) (by decide)
  have k := c_i2c ((z.toInt8.toInt32) &&& (255 : Int32))
  have p : ((2 ^ 8 : Nat) : Int) = 256 := rfl
  rw [p] at m
  omega
theorem chv (y : Int32) (h : 0 ≤ y.toInt ∧ y.toInt ≤ 9) : (nar .char (((48 : Int32) + y).toUInt32.toUInt16.toUInt32.toInt32)).toInt = 48 + y.toInt := by
  rw [nar_c]
  have e : (48 : Int32).toInt = 48 := rfl
  have a := c_iadd 48 y; have r := rng32 (48 + y); have b := c_i2c (48 + y)
  omega
theorem dgv (n P : Int64) (p : Int) (hP : P.toInt = p) (hp : 0 < p) (h0 : 0 ≤ n.toInt) : ((n / P) % (10 : Int64)).toInt32.toInt = n.toInt / p % 10 := by
  have e10 : (10 : Int64).toInt = 10 := rfl
  have n1 : P ≠ -1 := fun q => by rw [q] at hP; have : (-1 : Int64).toInt = -1 := rfl; omega
  have y5 := (c_ldiv n P p hP n1).1 h0
  have q0 : 0 ≤ n.toInt / p := Int.ediv_nonneg h0 (by omega)
  have y6 : ((n / P) % (10 : Int64)).toInt = n.toInt / p % 10 := by rw [Int64.toInt_mod, y5, e10, Int.tmod_eq_emod_of_nonneg q0]
  have b := c_l2i ((n / P) % (10 : Int64)); have br := rng32 ((n / P) % (10 : Int64)).toInt32
  have r : 0 ≤ n.toInt / p % 10 ∧ n.toInt / p % 10 < 10 := ⟨Int.emod_nonneg _ (by decide), Int.emod_lt_of_pos _ (by decide)⟩
  omega
def DG (N : Int) (z0 z1 z2 z3 z4 z5 z6 z7 z8 z9 z10 z11 z12 z13 z14 z15 z16 z17 : Int32) : Prop := z0.toInt = 48 + N / 100000000000000000 % 10 ∧ z1.toInt = 48 + N / 10000000000000000 % 10 ∧ z2.toInt = 48 + N / 1000000000000000 % 10 ∧ z3.toInt = 48 + N / 100000000000000 % 10 ∧ z4.toInt = 48 + N / 10000000000000 % 10 ∧ z5.toInt = 48 + N / 1000000000000 % 10 ∧ z6.toInt = 48 + N / 100000000000 % 10 ∧ z7.toInt = 48 + N / 10000000000 % 10 ∧ z8.toInt = 48 + N / 1000000000 % 10 ∧ z9.toInt = 48 + N / 100000000 % 10 ∧ z10.toInt = 48 + N / 10000000 % 10 ∧ z11.toInt = 48 + N / 1000000 % 10 ∧ z12.toInt = 48 + N / 100000 % 10 ∧ z13.toInt = 48 + N / 10000 % 10 ∧ z14.toInt = 48 + N / 1000 % 10 ∧ z15.toInt = 48 + N / 100 % 10 ∧ z16.toInt = 48 + N / 10 % 10 ∧ z17.toInt = 48 + N / 1 % 10
def RG (z0 z1 z2 z3 z4 z5 z6 z7 z8 z9 z10 z11 z12 z13 z14 z15 z16 z17 : Int32) : Prop := (48 ≤ z0.toInt ∧ z0.toInt ≤ 57) ∧ (48 ≤ z1.toInt ∧ z1.toInt ≤ 57) ∧ (48 ≤ z2.toInt ∧ z2.toInt ≤ 57) ∧ (48 ≤ z3.toInt ∧ z3.toInt ≤ 57) ∧ (48 ≤ z4.toInt ∧ z4.toInt ≤ 57) ∧ (48 ≤ z5.toInt ∧ z5.toInt ≤ 57) ∧ (48 ≤ z6.toInt ∧ z6.toInt ≤ 57) ∧ (48 ≤ z7.toInt ∧ z7.toInt ≤ 57) ∧ (48 ≤ z8.toInt ∧ z8.toInt ≤ 57) ∧ (48 ≤ z9.toInt ∧ z9.toInt ≤ 57) ∧ (48 ≤ z10.toInt ∧ z10.toInt ≤ 57) ∧ (48 ≤ z11.toInt ∧ z11.toInt ≤ 57) ∧ (48 ≤ z12.toInt ∧ z12.toInt ≤ 57) ∧ (48 ≤ z13.toInt ∧ z13.toInt ≤ 57) ∧ (48 ≤ z14.toInt ∧ z14.toInt ≤ 57) ∧ (48 ≤ z15.toInt ∧ z15.toInt ≤ 57) ∧ (48 ≤ z16.toInt ∧ z16.toInt ≤ 57) ∧ (48 ≤ z17.toInt ∧ z17.toInt ≤ 57)
def SB (N : Int) : Int := 3 * (N / 1 % 10) + N / 10 % 10 + 3 * (N / 100 % 10) + N / 1000 % 10 + 3 * (N / 10000 % 10) + N / 100000 % 10 + 3 * (N / 1000000 % 10) + N / 10000000 % 10 + 3 * (N / 100000000 % 10) + N / 1000000000 % 10 + 3 * (N / 10000000000 % 10) + N / 100000000000 % 10 + 3 * (N / 1000000000000 % 10) + N / 10000000000000 % 10 + 3 * (N / 100000000000000 % 10) + N / 1000000000000000 % 10 + 3 * (N / 10000000000000000 % 10)

theorem rg0 {z0 z1 z2 z3 z4 z5 z6 z7 z8 z9 z10 z11 z12 z13 z14 z15 z16 z17 : Int32} (G : RG z0 z1 z2 z3 z4 z5 z6 z7 z8 z9 z10 z11 z12 z13 z14 z15 z16 z17) : 48 ≤ z0.toInt ∧ z0.toInt ≤ 57 := G.1
theorem rg1 {z0 z1 z2 z3 z4 z5 z6 z7 z8 z9 z10 z11 z12 z13 z14 z15 z16 z17 : Int32} (G : RG z0 z1 z2 z3 z4 z5 z6 z7 z8 z9 z10 z11 z12 z13 z14 z15 z16 z17) : 48 ≤ z1.toInt ∧ z1.toInt ≤ 57 := G.2.1
theorem rg2 {z0 z1 z2 z3 z4 z5 z6 z7 z8 z9 z10 z11 z12 z13 z14 z15 z16 z17 : Int32} (G : RG z0 z1 z2 z3 z4 z5 z6 z7 z8 z9 z10 z11 z12 z13 z14 z15 z16 z17) : 48 ≤ z2.toInt ∧ z2.toInt ≤ 57 := G.2.2.1
theorem rg3 {z0 z1 z2 z3 z4 z5 z6 z7 z8 z9 z10 z11 z12 z13 z14 z15 z16 z17 : Int32} (G : RG z0 z1 z2 z3 z4 z5 z6 z7 z8 z9 z10 z11 z12 z13 z14 z15 z16 z17) : 48 ≤ z3.toInt ∧ z3.toInt ≤ 57 := G.2.2.2.1
theorem rg4 {z0 z1 z2 z3 z4 z5 z6 z7 z8 z9 z10 z11 z12 z13 z14 z15 z16 z17 : Int32} (G : RG z0 z1 z2 z3 z4 z5 z6 z7 z8 z9 z10 z11 z12 z13 z14 z15 z16 z17) : 48 ≤ z4.toInt ∧ z4.toInt ≤ 57 := G.2.2.2.2.1
theorem rg5 {z0 z1 z2 z3 z4 z5 z6 z7 z8 z9 z10 z11 z12 z13 z14 z15 z16 z17 : Int32} (G : RG z0 z1 z2 z3 z4 z5 z6 z7 z8 z9 z10 z11 z12 z13 z14 z15 z16 z17) : 48 ≤ z5.toInt ∧ z5.toInt ≤ 57 := G.2.2.2.2.2.1
theorem rg6 {z0 z1 z2 z3 z4 z5 z6 z7 z8 z9 z10 z11 z12 z13 z14 z15 z16 z17 : Int32} (G : RG z0 z1 z2 z3 z4 z5 z6 z7 z8 z9 z10 z11 z12 z13 z14 z15 z16 z17) : 48 ≤ z6.toInt ∧ z6.toInt ≤ 57 := G.2.2.2.2.2.2.1
theorem rg7 {z0 z1 z2 z3 z4 z5 z6 z7 z8 z9 z10 z11 z12 z13 z14 z15 z16 z17 : Int32} (G : RG z0 z1 z2 z3 z4 z5 z6 z7 z8 z9 z10 z11 z12 z13 z14 z15 z16 z17) : 48 ≤ z7.toInt ∧ z7.toInt ≤ 57 := G.2.2.2.2.2.2.2.1
theorem rg8 {z0 z1 z2 z3 z4 z5 z6 z7 z8 z9 z10 z11 z12 z13 z14 z15 z16 z17 : Int32} (G : RG z0 z1 z2 z3 z4 z5 z6 z7 z8 z9 z10 z11 z12 z13 z14 z15 z16 z17) : 48 ≤ z8.toInt ∧ z8.toInt ≤ 57 := G.2.2.2.2.2.2.2.2.1
theorem rg9 {z0 z1 z2 z3 z4 z5 z6 z7 z8 z9 z10 z11 z12 z13 z14 z15 z16 z17 : Int32} (G : RG z0 z1 z2 z3 z4 z5 z6 z7 z8 z9 z10 z11 z12 z13 z14 z15 z16 z17) : 48 ≤ z9.toInt ∧ z9.toInt ≤ 57 := G.2.2.2.2.2.2.2.2.2.1
theorem rg10 {z0 z1 z2 z3 z4 z5 z6 z7 z8 z9 z10 z11 z12 z13 z14 z15 z16 z17 : Int32} (G : RG z0 z1 z2 z3 z4 z5 z6 z7 z8 z9 z10 z11 z12 z13 z14 z15 z16 z17) : 48 ≤ z10.toInt ∧ z10.toInt ≤ 57 := G.2.2.2.2.2.2.2.2.2.2.1
theorem rg11 {z0 z1 z2 z3 z4 z5 z6 z7 z8 z9 z10 z11 z12 z13 z14 z15 z16 z17 : Int32} (G : RG z0 z1 z2 z3 z4 z5 z6 z7 z8 z9 z10 z11 z12 z13 z14 z15 z16 z17) : 48 ≤ z11.toInt ∧ z11.toInt ≤ 57 := G.2.2.2.2.2.2.2.2.2.2.2.1
theorem rg12 {z0 z1 z2 z3 z4 z5 z6 z7 z8 z9 z10 z11 z12 z13 z14 z15 z16 z17 : Int32} (G : RG z0 z1 z2 z3 z4 z5 z6 z7 z8 z9 z10 z11 z12 z13 z14 z15 z16 z17) : 48 ≤ z12.toInt ∧ z12.toInt ≤ 57 := G.2.2.2.2.2.2.2.2.2.2.2.2.1
theorem rg13 {z0 z1 z2 z3 z4 z5 z6 z7 z8 z9 z10 z11 z12 z13 z14 z15 z16 z17 : Int32} (G : RG z0 z1 z2 z3 z4 z5 z6 z7 z8 z9 z10 z11 z12 z13 z14 z15 z16 z17) : 48 ≤ z13.toInt ∧ z13.toInt ≤ 57 := G.2.2.2.2.2.2.2.2.2.2.2.2.2.1
theorem rg14 {z0 z1 z2 z3 z4 z5 z6 z7 z8 z9 z10 z11 z12 z13 z14 z15 z16 z17 : Int32} (G : RG z0 z1 z2 z3 z4 z5 z6 z7 z8 z9 z10 z11 z12 z13 z14 z15 z16 z17) : 48 ≤ z14.toInt ∧ z14.toInt ≤ 57 := G.2.2.2.2.2.2.2.2.2.2.2.2.2.2.1
theorem rg15 {z0 z1 z2 z3 z4 z5 z6 z7 z8 z9 z10 z11 z12 z13 z14 z15 z16 z17 : Int32} (G : RG z0 z1 z2 z3 z4 z5 z6 z7 z8 z9 z10 z11 z12 z13 z14 z15 z16 z17) : 48 ≤ z15.toInt ∧ z15.toInt ≤ 57 := G.2.2.2.2.2.2.2.2.2.2.2.2.2.2.2.1
theorem rg16 {z0 z1 z2 z3 z4 z5 z6 z7 z8 z9 z10 z11 z12 z13 z14 z15 z16 z17 : Int32} (G : RG z0 z1 z2 z3 z4 z5 z6 z7 z8 z9 z10 z11 z12 z13 z14 z15 z16 z17) : 48 ≤ z16.toInt ∧ z16.toInt ≤ 57 := G.2.2.2.2.2.2.2.2.2.2.2.2.2.2.2.2.1
theorem rg17 {z0 z1 z2 z3 z4 z5 z6 z7 z8 z9 z10 z11 z12 z13 z14 z15 z16 z17 : Int32} (G : RG z0 z1 z2 z3 z4 z5 z6 z7 z8 z9 z10 z11 z12 z13 z14 z15 z16 z17) : 48 ≤ z17.toInt ∧ z17.toInt ≤ 57 := G.2.2.2.2.2.2.2.2.2.2.2.2.2.2.2.2.2
theorem dig48 (z : Int32) (x : Int) (h : z.toInt = 48 + x % 10) : 48 ≤ z.toInt ∧ z.toInt ≤ 57 := by omega
theorem DG.rg {N : Int} {z0 z1 z2 z3 z4 z5 z6 z7 z8 z9 z10 z11 z12 z13 z14 z15 z16 z17 : Int32} (D : DG N z0 z1 z2 z3 z4 z5 z6 z7 z8 z9 z10 z11 z12 z13 z14 z15 z16 z17) : RG z0 z1 z2 z3 z4 z5 z6 z7 z8 z9 z10 z11 z12 z13 z14 z15 z16 z17 := by
  obtain ⟨d0, d1, d2, d3, d4, d5, d6, d7, d8, d9, d10, d11, d12, d13, d14, d15, d16, d17⟩ := D
  exact ⟨dig48 _ _ d0, dig48 _ _ d1, dig48 _ _ d2, dig48 _ _ d3, dig48 _ _ d4, dig48 _ _ d5, dig48 _ _ d6, dig48 _ _ d7, dig48 _ _ d8, dig48 _ _ d9, dig48 _ _ d10, dig48 _ _ d11, dig48 _ _ d12, dig48 _ _ d13, dig48 _ _ d14, dig48 _ _ d15, dig48 _ _ d16, dig48 _ _ d17⟩
theorem chkv (y0 y1 y2 y3 y4 y5 y6 y7 y8 y9 y10 y11 y12 y13 y14 y15 y16 : Int32) (h0 : 0 ≤ y0.toInt ∧ y0.toInt ≤ 9) (h1 : 0 ≤ y1.toInt ∧ y1.toInt ≤ 9) (h2 : 0 ≤ y2.toInt ∧ y2.toInt ≤ 9) (h3 : 0 ≤ y3.toInt ∧ y3.toInt ≤ 9) (h4 : 0 ≤ y4.toInt ∧ y4.toInt ≤ 9) (h5 : 0 ≤ y5.toInt ∧ y5.toInt ≤ 9) (h6 : 0 ≤ y6.toInt ∧ y6.toInt ≤ 9) (h7 : 0 ≤ y7.toInt ∧ y7.toInt ≤ 9) (h8 : 0 ≤ y8.toInt ∧ y8.toInt ≤ 9) (h9 : 0 ≤ y9.toInt ∧ y9.toInt ≤ 9) (h10 : 0 ≤ y10.toInt ∧ y10.toInt ≤ 9) (h11 : 0 ≤ y11.toInt ∧ y11.toInt ≤ 9) (h12 : 0 ≤ y12.toInt ∧ y12.toInt ≤ 9) (h13 : 0 ≤ y13.toInt ∧ y13.toInt ≤ 9) (h14 : 0 ≤ y14.toInt ∧ y14.toInt ≤ 9) (h15 : 0 ≤ y15.toInt ∧ y15.toInt ≤ 9) (h16 : 0 ≤ y16.toInt ∧ y16.toInt ≤ 9) : (((10 : Int64) - (((((((((((((((((((3 : Int64) * y0.toInt64) + y1.toInt64) + ((3 : Int64) * y2.toInt64)) + y3.toInt64) + ((3 : Int64) * y4.toInt64)) + y5.toInt64) + ((3 : Int64) * y6.toInt64)) + y7.toInt64) + ((3 : Int64) * y8.toInt64)) + y9.toInt64) + ((3 : Int64) * y10.toInt64)) + y11.toInt64) + ((3 : Int64) * y12.toInt64)) + y13.toInt64) + ((3 : Int64) * y14.toInt64)) + y15.toInt64) + ((3 : Int64) * y16.toInt64)) % (10 : Int64))) % (10 : Int64)).toInt32.toInt = (10 - (3 * y0.toInt + y1.toInt + 3 * y2.toInt + y3.toInt + 3 * y4.toInt + y5.toInt + 3 * y6.toInt + y7.toInt + 3 * y8.toInt + y9.toInt + 3 * y10.toInt + y11.toInt + 3 * y12.toInt + y13.toInt + 3 * y14.toInt + y15.toInt + 3 * y16.toInt) % 10) % 10 := by
  have e3 : (3 : Int64).toInt = 3 := rfl
  have e10 : (10 : Int64).toInt = 10 := rfl
  have i0 := c_i2l y0
  have i1 := c_i2l y1
  have i2 := c_i2l y2
  have i3 := c_i2l y3
  have i4 := c_i2l y4
  have i5 := c_i2l y5
  have i6 := c_i2l y6
  have i7 := c_i2l y7
  have i8 := c_i2l y8
  have i9 := c_i2l y9
  have i10 := c_i2l y10
  have i11 := c_i2l y11
  have i12 := c_i2l y12
  have i13 := c_i2l y13
  have i14 := c_i2l y14
  have i15 := c_i2l y15
  have i16 := c_i2l y16
  have m0 := c_lmul (3 : Int64) y0.toInt64; have mr0 := rng64 ((3 : Int64) * y0.toInt64); rw [e3, i0] at m0
  have t0 : ((3 : Int64) * y0.toInt64).toInt = 3 * y0.toInt := by omega
  have s0 := t0
  have t1 := i1
  have a1 := c_ladd ((3 : Int64) * y0.toInt64) y1.toInt64; have ar1 := rng64 (((3 : Int64) * y0.toInt64) + y1.toInt64); rw [s0, t1] at a1
  have s1 : (((3 : Int64) * y0.toInt64) + y1.toInt64).toInt = 3 * y0.toInt + y1.toInt := by omega
  clear a1 ar1 s0 t1
  have m2 := c_lmul (3 : Int64) y2.toInt64; have mr2 := rng64 ((3 : Int64) * y2.toInt64); rw [e3, i2] at m2
  have t2 : ((3 : Int64) * y2.toInt64).toInt = 3 * y2.toInt := by omega
  have a2 := c_ladd (((3 : Int64) * y0.toInt64) + y1.toInt64) ((3 : Int64) * y2.toInt64); have ar2 := rng64 ((((3 : Int64) * y0.toInt64) + y1.toInt64) + ((3 : Int64) * y2.toInt64)); rw [s1, t2] at a2
  have s2 : ((((3 : Int64) * y0.toInt64) + y1.toInt64) + ((3 : Int64) * y2.toInt64)).toInt = 3 * y0.toInt + y1.toInt + 3 * y2.toInt := by omega
  clear a2 ar2 s1 t2
  have t3 := i3
  have a3 := c_ladd ((((3 : Int64) * y0.toInt64) + y1.toInt64) + ((3 : Int64) * y2.toInt64)) y3.toInt64; have ar3 := rng64 (((((3 : Int64) * y0.toInt64) + y1.toInt64) + ((3 : Int64) * y2.toInt64)) + y3.toInt64); rw [s2, t3] at a3
  have s3 : (((((3 : Int64) * y0.toInt64) + y1.toInt64) + ((3 : Int64) * y2.toInt64)) + y3.toInt64).toInt = 3 * y0.toInt + y1.toInt + 3 * y2.toInt + y3.toInt := by omega
  clear a3 ar3 s2 t3
  have m4 := c_lmul (3 : Int64) y4.toInt64; have mr4 := rng64 ((3 : Int64) * y4.toInt64); rw [e3, i4] at m4
  have t4 : ((3 : Int64) * y4.toInt64).toInt = 3 * y4.toInt := by omega
  have a4 := c_ladd (((((3 : Int64) * y0.toInt64) + y1.toInt64) + ((3 : Int64) * y2.toInt64)) + y3.toInt64) ((3 : Int64) * y4.toInt64); have ar4 := rng64 ((((((3 : Int64) * y0.toInt64) + y1.toInt64) + ((3 : Int64) * y2.toInt64)) + y3.toInt64) + ((3 : Int64) * y4.toInt64)); rw [s3, t4] at a4
  have s4 : ((((((3 : Int64) * y0.toInt64) + y1.toInt64) + ((3 : Int64) * y2.toInt64)) + y3.toInt64) + ((3 : Int64) * y4.toInt64)).toInt = 3 * y0.toInt + y1.toInt + 3 * y2.toInt + y3.toInt + 3 * y4.toInt := by omega
  clear a4 ar4 s3 t4
  have t5 := i5
  have a5 := c_ladd ((((((3 : Int64) * y0.toInt64) + y1.toInt64) + ((3 : Int64) * y2.toInt64)) + y3.toInt64) + ((3 : Int64) * y4.toInt64)) y5.toInt64; have ar5 := rng64 (((((((3 : Int64) * y0.toInt64) + y1.toInt64) + ((3 : Int64) * y2.toInt64)) + y3.toInt64) + ((3 : Int64) * y4.toInt64)) + y5.toInt64); rw [s4, t5] at a5
  have s5 : (((((((3 : Int64) * y0.toInt64) + y1.toInt64) + ((3 : Int64) * y2.toInt64)) + y3.toInt64) + ((3 : Int64) * y4.toInt64)) + y5.toInt64).toInt = 3 * y0.toInt + y1.toInt + 3 * y2.toInt + y3.toInt + 3 * y4.toInt + y5.toInt := by omega
  clear a5 ar5 s4 t5
  have m6 := c_lmul (3 : Int64) y6.toInt64; have mr6 := rng64 ((3 : Int64) * y6.toInt64); rw [e3, i6] at m6
  have t6 : ((3 : Int64) * y6.toInt64).toInt = 3 * y6.toInt := by omega
  have a6 := c_ladd (((((((3 : Int64) * y0.toInt64) + y1.toInt64) + ((3 : Int64) * y2.toInt64)) + y3.toInt64) + ((3 : Int64) * y4.toInt64)) + y5.toInt64) ((3 : Int64) * y6.toInt64); have ar6 := rng64 ((((((((3 : Int64) * y0.toInt64) + y1.toInt64) + ((3 : Int64) * y2.toInt64)) + y3.toInt64) + ((3 : Int64) * y4.toInt64)) + y5.toInt64) + ((3 : Int64) * y6.toInt64)); rw [s5, t6] at a6
  have s6 : ((((((((3 : Int64) * y0.toInt64) + y1.toInt64) + ((3 : Int64) * y2.toInt64)) + y3.toInt64) + ((3 : Int64) * y4.toInt64)) + y5.toInt64) + ((3 : Int64) * y6.toInt64)).toInt = 3 * y0.toInt + y1.toInt + 3 * y2.toInt + y3.toInt + 3 * y4.toInt + y5.toInt + 3 * y6.toInt := by omega
  clear a6 ar6 s5 t6
  have t7 := i7
  have a7 := c_ladd ((((((((3 : Int64) * y0.toInt64) + y1.toInt64) + ((3 : Int64) * y2.toInt64)) + y3.toInt64) + ((3 : Int64) * y4.toInt64)) + y5.toInt64) + ((3 : Int64) * y6.toInt64)) y7.toInt64; have ar7 := rng64 (((((((((3 : Int64) * y0.toInt64) + y1.toInt64) + ((3 : Int64) * y2.toInt64)) + y3.toInt64) + ((3 : Int64) * y4.toInt64)) + y5.toInt64) + ((3 : Int64) * y6.toInt64)) + y7.toInt64); rw [s6, t7] at a7
  have s7 : (((((((((3 : Int64) * y0.toInt64) + y1.toInt64) + ((3 : Int64) * y2.toInt64)) + y3.toInt64) + ((3 : Int64) * y4.toInt64)) + y5.toInt64) + ((3 : Int64) * y6.toInt64)) + y7.toInt64).toInt = 3 * y0.toInt + y1.toInt + 3 * y2.toInt + y3.toInt + 3 * y4.toInt + y5.toInt + 3 * y6.toInt + y7.toInt := by omega
  clear a7 ar7 s6 t7
  have m8 := c_lmul (3 : Int64) y8.toInt64; have mr8 := rng64 ((3 : Int64) * y8.toInt64); rw [e3, i8] at m8
  have t8 : ((3 : Int64) * y8.toInt64).toInt = 3 * y8.toInt := by omega
  have a8 := c_ladd (((((((((3 : Int64) * y0.toInt64) + y1.toInt64) + ((3 : Int64) * y2.toInt64)) + y3.toInt64) + ((3 : Int64) * y4.toInt64)) + y5.toInt64) + ((3 : Int64) * y6.toInt64)) + y7.toInt64) ((3 : Int64) * y8.toInt64); have ar8 := rng64 ((((((((((3 : Int64) * y0.toInt64) + y1.toInt64) + ((3 : Int64) * y2.toInt64)) + y3.toInt64) + ((3 : Int64) * y4.toInt64)) + y5.toInt64) + ((3 : Int64) * y6.toInt64)) + y7.toInt64) + ((3 : Int64) * y8.toInt64)); rw [s7, t8] at a8
  have s8 : ((((((((((3 : Int64) * y0.toInt64) + y1.toInt64) + ((3 : Int64) * y2.toInt64)) + y3.toInt64) + ((3 : Int64) * y4.toInt64)) + y5.toInt64) + ((3 : Int64) * y6.toInt64)) + y7.toInt64) + ((3 : Int64) * y8.toInt64)).toInt = 3 * y0.toInt + y1.toInt + 3 * y2.toInt + y3.toInt + 3 * y4.toInt + y5.toInt + 3 * y6.toInt + y7.toInt + 3 * y8.toInt := by omega
  clear a8 ar8 s7 t8
  have t9 := i9
  have a9 := c_ladd ((((((((((3 : Int64) * y0.toInt64) + y1.toInt64) + ((3 : Int64) * y2.toInt64)) + y3.toInt64) + ((3 : Int64) * y4.toInt64)) + y5.toInt64) + ((3 : Int64) * y6.toInt64)) + y7.toInt64) + ((3 : Int64) * y8.toInt64)) y9.toInt64; have ar9 := rng64 (((((((((((3 : Int64) * y0.toInt64) + y1.toInt64) + ((3 : Int64) * y2.toInt64)) + y3.toInt64) + ((3 : Int64) * y4.toInt64)) + y5.toInt64) + ((3 : Int64) * y6.toInt64)) + y7.toInt64) + ((3 : Int64) * y8.toInt64)) + y9.toInt64); rw [s8, t9] at a9
  have s9 : (((((((((((3 : Int64) * y0.toInt64) + y1.toInt64) + ((3 : Int64) * y2.toInt64)) + y3.toInt64) + ((3 : Int64) * y4.toInt64)) + y5.toInt64) + ((3 : Int64) * y6.toInt64)) + y7.toInt64) + ((3 : Int64) * y8.toInt64)) + y9.toInt64).toInt = 3 * y0.toInt + y1.toInt + 3 * y2.toInt + y3.toInt + 3 * y4.toInt + y5.toInt + 3 * y6.toInt + y7.toInt + 3 * y8.toInt + y9.toInt := by omega
  clear a9 ar9 s8 t9
  have m10 := c_lmul (3 : Int64) y10.toInt64; have mr10 := rng64 ((3 : Int64) * y10.toInt64); rw [e3, i10] at m10
  have t10 : ((3 : Int64) * y10.toInt64).toInt = 3 * y10.toInt := by omega
  have a10 := c_ladd (((((((((((3 : Int64) * y0.toInt64) + y1.toInt64) + ((3 : Int64) * y2.toInt64)) + y3.toInt64) + ((3 : Int64) * y4.toInt64)) + y5.toInt64) + ((3 : Int64) * y6.toInt64)) + y7.toInt64) + ((3 : Int64) * y8.toInt64)) + y9.toInt64) ((3 : Int64) * y10.toInt64); have ar10 := rng64 ((((((((((((3 : Int64) * y0.toInt64) + y1.toInt64) + ((3 : Int64) * y2.toInt64)) + y3.toInt64) + ((3 : Int64) * y4.toInt64)) + y5.toInt64) + ((3 : Int64) * y6.toInt64)) + y7.toInt64) + ((3 : Int64) * y8.toInt64)) + y9.toInt64) + ((3 : Int64) * y10.toInt64)); rw [s9, t10] at a10
  have s10 : ((((((((((((3 : Int64) * y0.toInt64) + y1.toInt64) + ((3 : Int64) * y2.toInt64)) + y3.toInt64) + ((3 : Int64) * y4.toInt64)) + y5.toInt64) + ((3 : Int64) * y6.toInt64)) + y7.toInt64) + ((3 : Int64) * y8.toInt64)) + y9.toInt64) + ((3 : Int64) * y10.toInt64)).toInt = 3 * y0.toInt + y1.toInt + 3 * y2.toInt + y3.toInt + 3 * y4.toInt + y5.toInt + 3 * y6.toInt + y7.toInt + 3 * y8.toInt + y9.toInt + 3 * y10.toInt := by omega
  clear a10 ar10 s9 t10
  have t11 := i11
  have a11 := c_ladd ((((((((((((3 : Int64) * y0.toInt64) + y1.toInt64) + ((3 : Int64) * y2.toInt64)) + y3.toInt64) + ((3 : Int64) * y4.toInt64)) + y5.toInt64) + ((3 : Int64) * y6.toInt64)) + y7.toInt64) + ((3 : Int64) * y8.toInt64)) + y9.toInt64) + ((3 : Int64) * y10.toInt64)) y11.toInt64; have ar11 := rng64 (((((((((((((3 : Int64) * y0.toInt64) + y1.toInt64) + ((3 : Int64) * y2.toInt64)) + y3.toInt64) + ((3 : Int64) * y4.toInt64)) + y5.toInt64) + ((3 : Int64) * y6.toInt64)) + y7.toInt64) + ((3 : Int64) * y8.toInt64)) + y9.toInt64) + ((3 : Int64) * y10.toInt64)) + y11.toInt64); rw [s10, t11] at a11
  have s11 : (((((((((((((3 : Int64) * y0.toInt64) + y1.toInt64) + ((3 : Int64) * y2.toInt64)) + y3.toInt64) + ((3 : Int64) * y4.toInt64)) + y5.toInt64) + ((3 : Int64) * y6.toInt64)) + y7.toInt64) + ((3 : Int64) * y8.toInt64)) + y9.toInt64) + ((3 : Int64) * y10.toInt64)) + y11.toInt64).toInt = 3 * y0.toInt + y1.toInt + 3 * y2.toInt + y3.toInt + 3 * y4.toInt + y5.toInt + 3 * y6.toInt + y7.toInt + 3 * y8.toInt + y9.toInt + 3 * y10.toInt + y11.toInt := by omega
  clear a11 ar11 s10 t11
  have m12 := c_lmul (3 : Int64) y12.toInt64; have mr12 := rng64 ((3 : Int64) * y12.toInt64); rw [e3, i12] at m12
  have t12 : ((3 : Int64) * y12.toInt64).toInt = 3 * y12.toInt := by omega
  have a12 := c_ladd (((((((((((((3 : Int64) * y0.toInt64) + y1.toInt64) + ((3 : Int64) * y2.toInt64)) + y3.toInt64) + ((3 : Int64) * y4.toInt64)) + y5.toInt64) + ((3 : Int64) * y6.toInt64)) + y7.toInt64) + ((3 : Int64) * y8.toInt64)) + y9.toInt64) + ((3 : Int64) * y10.toInt64)) + y11.toInt64) ((3 : Int64) * y12.toInt64); have ar12 := rng64 ((((((((((((((3 : Int64) * y0.toInt64) + y1.toInt64) + ((3 : Int64) * y2.toInt64)) + y3.toInt64) + ((3 : Int64) * y4.toInt64)) + y5.toInt64) + ((3 : Int64) * y6.toInt64)) + y7.toInt64) + ((3 : Int64) * y8.toInt64)) + y9.toInt64) + ((3 : Int64) * y10.toInt64)) + y11.toInt64) + ((3 : Int64) * y12.toInt64)); rw [s11, t12] at a12
  have s12 : ((((((((((((((3 : Int64) * y0.toInt64) + y1.toInt64) + ((3 : Int64) * y2.toInt64)) + y3.toInt64) + ((3 : Int64) * y4.toInt64)) + y5.toInt64) + ((3 : Int64) * y6.toInt64)) + y7.toInt64) + ((3 : Int64) * y8.toInt64)) + y9.toInt64) + ((3 : Int64) * y10.toInt64)) + y11.toInt64) + ((3 : Int64) * y12.toInt64)).toInt = 3 * y0.toInt + y1.toInt + 3 * y2.toInt + y3.toInt + 3 * y4.toInt + y5.toInt + 3 * y6.toInt + y7.toInt + 3 * y8.toInt + y9.toInt + 3 * y10.toInt + y11.toInt + 3 * y12.toInt := by omega
  clear a12 ar12 s11 t12
  have t13 := i13
  have a13 := c_ladd ((((((((((((((3 : Int64) * y0.toInt64) + y1.toInt64) + ((3 : Int64) * y2.toInt64)) + y3.toInt64) + ((3 : Int64) * y4.toInt64)) + y5.toInt64) + ((3 : Int64) * y6.toInt64)) + y7.toInt64) + ((3 : Int64) * y8.toInt64)) + y9.toInt64) + ((3 : Int64) * y10.toInt64)) + y11.toInt64) + ((3 : Int64) * y12.toInt64)) y13.toInt64; have ar13 := rng64 (((((((((((((((3 : Int64) * y0.toInt64) + y1.toInt64) + ((3 : Int64) * y2.toInt64)) + y3.toInt64) + ((3 : Int64) * y4.toInt64)) + y5.toInt64) + ((3 : Int64) * y6.toInt64)) + y7.toInt64) + ((3 : Int64) * y8.toInt64)) + y9.toInt64) + ((3 : Int64) * y10.toInt64)) + y11.toInt64) + ((3 : Int64) * y12.toInt64)) + y13.toInt64); rw [s12, t13] at a13
  have s13 : (((((((((((((((3 : Int64) * y0.toInt64) + y1.toInt64) + ((3 : Int64) * y2.toInt64)) + y3.toInt64) + ((3 : Int64) * y4.toInt64)) + y5.toInt64) + ((3 : Int64) * y6.toInt64)) + y7.toInt64) + ((3 : Int64) * y8.toInt64)) + y9.toInt64) + ((3 : Int64) * y10.toInt64)) + y11.toInt64) + ((3 : Int64) * y12.toInt64)) + y13.toInt64).toInt = 3 * y0.toInt + y1.toInt + 3 * y2.toInt + y3.toInt + 3 * y4.toInt + y5.toInt + 3 * y6.toInt + y7.toInt + 3 * y8.toInt + y9.toInt + 3 * y10.toInt + y11.toInt + 3 * y12.toInt + y13.toInt := by omega
  clear a13 ar13 s12 t13
  have m14 := c_lmul (3 : Int64) y14.toInt64; have mr14 := rng64 ((3 : Int64) * y14.toInt64); rw [e3, i14] at m14
  have t14 : ((3 : Int64) * y14.toInt64).toInt = 3 * y14.toInt := by omega
  have a14 := c_ladd (((((((((((((((3 : Int64) * y0.toInt64) + y1.toInt64) + ((3 : Int64) * y2.toInt64)) + y3.toInt64) + ((3 : Int64) * y4.toInt64)) + y5.toInt64) + ((3 : Int64) * y6.toInt64)) + y7.toInt64) + ((3 : Int64) * y8.toInt64)) + y9.toInt64) + ((3 : Int64) * y10.toInt64)) + y11.toInt64) + ((3 : Int64) * y12.toInt64)) + y13.toInt64) ((3 : Int64) * y14.toInt64); have ar14 := rng64 ((((((((((((((((3 : Int64) * y0.toInt64) + y1.toInt64) + ((3 : Int64) * y2.toInt64)) + y3.toInt64) + ((3 : Int64) * y4.toInt64)) + y5.toInt64) + ((3 : Int64) * y6.toInt64)) + y7.toInt64) + ((3 : Int64) * y8.toInt64)) + y9.toInt64) + ((3 : Int64) * y10.toInt64)) + y11.toInt64) + ((3 : Int64) * y12.toInt64)) + y13.toInt64) + ((3 : Int64) * y14.toInt64)); rw [s13, t14] at a14
  have s14 : ((((((((((((((((3 : Int64) * y0.toInt64) + y1.toInt64) + ((3 : Int64) * y2.toInt64)) + y3.toInt64) + ((3 : Int64) * y4.toInt64)) + y5.toInt64) + ((3 : Int64) * y6.toInt64)) + y7.toInt64) + ((3 : Int64) * y8.toInt64)) + y9.toInt64) + ((3 : Int64) * y10.toInt64)) + y11.toInt64) + ((3 : Int64) * y12.toInt64)) + y13.toInt64) + ((3 : Int64) * y14.toInt64)).toInt = 3 * y0.toInt + y1.toInt + 3 * y2.toInt + y3.toInt + 3 * y4.toInt + y5.toInt + 3 * y6.toInt + y7.toInt + 3 * y8.toInt + y9.toInt + 3 * y10.toInt + y11.toInt + 3 * y12.toInt + y13.toInt + 3 * y14.toInt := by omega
  clear a14 ar14 s13 t14
  have t15 := i15
  have a15 := c_ladd ((((((((((((((((3 : Int64) * y0.toInt64) + y1.toInt64) + ((3 : Int64) * y2.toInt64)) + y3.toInt64) + ((3 : Int64) * y4.toInt64)) + y5.toInt64) + ((3 : Int64) * y6.toInt64)) + y7.toInt64) + ((3 : Int64) * y8.toInt64)) + y9.toInt64) + ((3 : Int64) * y10.toInt64)) + y11.toInt64) + ((3 : Int64) * y12.toInt64)) + y13.toInt64) + ((3 : Int64) * y14.toInt64)) y15.toInt64; have ar15 := rng64 (((((((((((((((((3 : Int64) * y0.toInt64) + y1.toInt64) + ((3 : Int64) * y2.toInt64)) + y3.toInt64) + ((3 : Int64) * y4.toInt64)) + y5.toInt64) + ((3 : Int64) * y6.toInt64)) + y7.toInt64) + ((3 : Int64) * y8.toInt64)) + y9.toInt64) + ((3 : Int64) * y10.toInt64)) + y11.toInt64) + ((3 : Int64) * y12.toInt64)) + y13.toInt64) + ((3 : Int64) * y14.toInt64)) + y15.toInt64); rw [s14, t15] at a15
  have s15 : (((((((((((((((((3 : Int64) * y0.toInt64) + y1.toInt64) + ((3 : Int64) * y2.toInt64)) + y3.toInt64) + ((3 : Int64) * y4.toInt64)) + y5.toInt64) + ((3 : Int64) * y6.toInt64)) + y7.toInt64) + ((3 : Int64) * y8.toInt64)) + y9.toInt64) + ((3 : Int64) * y10.toInt64)) + y11.toInt64) + ((3 : Int64) * y12.toInt64)) + y13.toInt64) + ((3 : Int64) * y14.toInt64)) + y15.toInt64).toInt = 3 * y0.toInt + y1.toInt + 3 * y2.toInt + y3.toInt + 3 * y4.toInt + y5.toInt + 3 * y6.toInt + y7.toInt + 3 * y8.toInt + y9.toInt + 3 * y10.toInt + y11.toInt + 3 * y12.toInt + y13.toInt + 3 * y14.toInt + y15.toInt := by omega
  clear a15 ar15 s14 t15
  have m16 := c_lmul (3 : Int64) y16.toInt64; have mr16 := rng64 ((3 : Int64) * y16.toInt64); rw [e3, i16] at m16
  have t16 : ((3 : Int64) * y16.toInt64).toInt = 3 * y16.toInt := by omega
  have a16 := c_ladd (((((((((((((((((3 : Int64) * y0.toInt64) + y1.toInt64) + ((3 : Int64) * y2.toInt64)) + y3.toInt64) + ((3 : Int64) * y4.toInt64)) + y5.toInt64) + ((3 : Int64) * y6.toInt64)) + y7.toInt64) + ((3 : Int64) * y8.toInt64)) + y9.toInt64) + ((3 : Int64) * y10.toInt64)) + y11.toInt64) + ((3 : Int64) * y12.toInt64)) + y13.toInt64) + ((3 : Int64) * y14.toInt64)) + y15.toInt64) ((3 : Int64) * y16.toInt64); have ar16 := rng64 ((((((((((((((((((3 : Int64) * y0.toInt64) + y1.toInt64) + ((3 : Int64) * y2.toInt64)) + y3.toInt64) + ((3 : Int64) * y4.toInt64)) + y5.toInt64) + ((3 : Int64) * y6.toInt64)) + y7.toInt64) + ((3 : Int64) * y8.toInt64)) + y9.toInt64) + ((3 : Int64) * y10.toInt64)) + y11.toInt64) + ((3 : Int64) * y12.toInt64)) + y13.toInt64) + ((3 : Int64) * y14.toInt64)) + y15.toInt64) + ((3 : Int64) * y16.toInt64)); rw [s15, t16] at a16
  have s16 : ((((((((((((((((((3 : Int64) * y0.toInt64) + y1.toInt64) + ((3 : Int64) * y2.toInt64)) + y3.toInt64) + ((3 : Int64) * y4.toInt64)) + y5.toInt64) + ((3 : Int64) * y6.toInt64)) + y7.toInt64) + ((3 : Int64) * y8.toInt64)) + y9.toInt64) + ((3 : Int64) * y10.toInt64)) + y11.toInt64) + ((3 : Int64) * y12.toInt64)) + y13.toInt64) + ((3 : Int64) * y14.toInt64)) + y15.toInt64) + ((3 : Int64) * y16.toInt64)).toInt = 3 * y0.toInt + y1.toInt + 3 * y2.toInt + y3.toInt + 3 * y4.toInt + y5.toInt + 3 * y6.toInt + y7.toInt + 3 * y8.toInt + y9.toInt + 3 * y10.toInt + y11.toInt + 3 * y12.toInt + y13.toInt + 3 * y14.toInt + y15.toInt + 3 * y16.toInt := by omega
  clear a16 ar16 s15 t16
  have n0 : 0 ≤ (3 * y0.toInt + y1.toInt + 3 * y2.toInt + y3.toInt + 3 * y4.toInt + y5.toInt + 3 * y6.toInt + y7.toInt + 3 * y8.toInt + y9.toInt + 3 * y10.toInt + y11.toInt + 3 * y12.toInt + y13.toInt + 3 * y14.toInt + y15.toInt + 3 * y16.toInt : Int) := by omega
  have u1 : (((((((((((((((((((3 : Int64) * y0.toInt64) + y1.toInt64) + ((3 : Int64) * y2.toInt64)) + y3.toInt64) + ((3 : Int64) * y4.toInt64)) + y5.toInt64) + ((3 : Int64) * y6.toInt64)) + y7.toInt64) + ((3 : Int64) * y8.toInt64)) + y9.toInt64) + ((3 : Int64) * y10.toInt64)) + y11.toInt64) + ((3 : Int64) * y12.toInt64)) + y13.toInt64) + ((3 : Int64) * y14.toInt64)) + y15.toInt64) + ((3 : Int64) * y16.toInt64)) % (10 : Int64)).toInt = (3 * y0.toInt + y1.toInt + 3 * y2.toInt + y3.toInt + 3 * y4.toInt + y5.toInt + 3 * y6.toInt + y7.toInt + 3 * y8.toInt + y9.toInt + 3 * y10.toInt + y11.toInt + 3 * y12.toInt + y13.toInt + 3 * y14.toInt + y15.toInt + 3 * y16.toInt) % 10 := by rw [Int64.toInt_mod, s16, e10, Int.tmod_eq_emod_of_nonneg n0]
  have ur : 0 ≤ (3 * y0.toInt + y1.toInt + 3 * y2.toInt + y3.toInt + 3 * y4.toInt + y5.toInt + 3 * y6.toInt + y7.toInt + 3 * y8.toInt + y9.toInt + 3 * y10.toInt + y11.toInt + 3 * y12.toInt + y13.toInt + 3 * y14.toInt + y15.toInt + 3 * y16.toInt) % 10 ∧ (3 * y0.toInt + y1.toInt + 3 * y2.toInt + y3.toInt + 3 * y4.toInt + y5.toInt + 3 * y6.toInt + y7.toInt + 3 * y8.toInt + y9.toInt + 3 * y10.toInt + y11.toInt + 3 * y12.toInt + y13.toInt + 3 * y14.toInt + y15.toInt + 3 * y16.toInt) % 10 < 10 := ⟨Int.emod_nonneg _ (by decide), Int.emod_lt_of_pos _ (by decide)⟩
  generalize (3 * y0.toInt + y1.toInt + 3 * y2.toInt + y3.toInt + 3 * y4.toInt + y5.toInt + 3 * y6.toInt + y7.toInt + 3 * y8.toInt + y9.toInt + 3 * y10.toInt + y11.toInt + 3 * y12.toInt + y13.toInt + 3 * y14.toInt + y15.toInt + 3 * y16.toInt) % 10 = R at u1 ur ⊢
  generalize (((((((((((((((((((3 : Int64) * y0.toInt64) + y1.toInt64) + ((3 : Int64) * y2.toInt64)) + y3.toInt64) + ((3 : Int64) * y4.toInt64)) + y5.toInt64) + ((3 : Int64) * y6.toInt64)) + y7.toInt64) + ((3 : Int64) * y8.toInt64)) + y9.toInt64) + ((3 : Int64) * y10.toInt64)) + y11.toInt64) + ((3 : Int64) * y12.toInt64)) + y13.toInt64) + ((3 : Int64) * y14.toInt64)) + y15.toInt64) + ((3 : Int64) * y16.toInt64)) % (10 : Int64)) = L at u1 ⊢
  have b1 := c_lsub (10 : Int64) L; have b2 := rng64 ((10 : Int64) - L); rw [e10, u1] at b1
  have b3 : ((10 : Int64) - L).toInt = 10 - R := by omega
  have b4 : (((10 : Int64) - L) % (10 : Int64)).toInt = (10 - R) % 10 := by rw [Int64.toInt_mod, b3, e10, Int.tmod_eq_emod_of_nonneg (by omega)]
  have b5 := c_l2i (((10 : Int64) - L) % (10 : Int64)); have b6 := rng32 (((10 : Int64) - L) % (10 : Int64)).toInt32
  omega
theorem ckd (z0 z1 z2 z3 z4 z5 z6 z7 z8 z9 z10 z11 z12 z13 z14 z15 z16 z17 : Int32) (G : RG z0 z1 z2 z3 z4 z5 z6 z7 z8 z9 z10 z11 z12 z13 z14 z15 z16 z17) (hc : z17.toInt = 48 + (10 - (3 * (z16.toInt - 48) + (z15.toInt - 48) + 3 * (z14.toInt - 48) + (z13.toInt - 48) + 3 * (z12.toInt - 48) + (z11.toInt - 48) + 3 * (z10.toInt - 48) + (z9.toInt - 48) + 3 * (z8.toInt - 48) + (z7.toInt - 48) + 3 * (z6.toInt - 48) + (z5.toInt - 48) + 3 * (z4.toInt - 48) + (z3.toInt - 48) + 3 * (z2.toInt - 48) + (z1.toInt - 48) + 3 * (z0.toInt - 48)) % 10) % 10) : (z17 - (48 : Int32)).toInt = (((10 : Int32) - (((((((((((((((((((0 : Int32) + ((z16 - (48 : Int32)) * (3 : Int32))) + ((z15 - (48 : Int32)) * (1 : Int32))) + ((z14 - (48 : Int32)) * (3 : Int32))) + ((z13 - (48 : Int32)) * (1 : Int32))) + ((z12 - (48 : Int32)) * (3 : Int32))) + ((z11 - (48 : Int32)) * (1 : Int32))) + ((z10 - (48 : Int32)) * (3 : Int32))) + ((z9 - (48 : Int32)) * (1 : Int32))) + ((z8 - (48 : Int32)) * (3 : Int32))) + ((z7 - (48 : Int32)) * (1 : Int32))) + ((z6 - (48 : Int32)) * (3 : Int32))) + ((z5 - (48 : Int32)) * (1 : Int32))) + ((z4 - (48 : Int32)) * (3 : Int32))) + ((z3 - (48 : Int32)) * (1 : Int32))) + ((z2 - (48 : Int32)) * (3 : Int32))) + ((z1 - (48 : Int32)) * (1 : Int32))) + ((z0 - (48 : Int32)) * (3 : Int32))) % (10 : Int32))) % (10 : Int32)).toInt := by
  have e48 : (48 : Int32).toInt = 48 := rfl
  have e3 : (3 : Int32).toInt = 3 := rfl
  have e1 : (1 : Int32).toInt = 1 := rfl
  have e10 : (10 : Int32).toInt = 10 := rfl
  have s0 : (0 : Int32).toInt = 0 := rfl
  have u16 := c_isub z16 (48 : Int32); have ur16 := rng32 (z16 - (48 : Int32)); have g16 := rg16 G; rw [e48] at u16
  have v16 : (z16 - (48 : Int32)).toInt = z16.toInt - 48 := by omega
  have m16 := c_imul (z16 - (48 : Int32)) (3 : Int32); have mr16 := rng32 ((z16 - (48 : Int32)) * (3 : Int32)); rw [v16, e3] at m16
  have t16 : ((z16 - (48 : Int32)) * (3 : Int32)).toInt = 3 * (z16.toInt - 48) := by omega
  have a0 := c_iadd (0 : Int32) ((z16 - (48 : Int32)) * (3 : Int32)); have ar0 := rng32 ((0 : Int32) + ((z16 - (48 : Int32)) * (3 : Int32))); rw [s0, t16] at a0
  have s1 : ((0 : Int32) + ((z16 - (48 : Int32)) * (3 : Int32))).toInt = 3 * (z16.toInt - 48) := by omega
  clear a0 ar0 s0 t16 m16 mr16 u16 ur16 v16
  have u15 := c_isub z15 (48 : Int32); have ur15 := rng32 (z15 - (48 : Int32)); have g15 := rg15 G; rw [e48] at u15
  have v15 : (z15 - (48 : Int32)).toInt = z15.toInt - 48 := by omega
  have m15 := c_imul (z15 - (48 : Int32)) (1 : Int32); have mr15 := rng32 ((z15 - (48 : Int32)) * (1 : Int32)); rw [v15, e1] at m15
  have t15 : ((z15 - (48 : Int32)) * (1 : Int32)).toInt = (z15.toInt - 48) := by omega
  have a1 := c_iadd ((0 : Int32) + ((z16 - (48 : Int32)) * (3 : Int32))) ((z15 - (48 : Int32)) * (1 : Int32)); have ar1 := rng32 (((0 : Int32) + ((z16 - (48 : Int32)) * (3 : Int32))) + ((z15 - (48 : Int32)) * (1 : Int32))); rw [s1, t15] at a1
  have s2 : (((0 : Int32) + ((z16 - (48 : Int32)) * (3 : Int32))) + ((z15 - (48 : Int32)) * (1 : Int32))).toInt = 3 * (z16.toInt - 48) + (z15.toInt - 48) := by omega
  clear a1 ar1 s1 t15 m15 mr15 u15 ur15 v15
  have u14 := c_isub z14 (48 : Int32); have ur14 := rng32 (z14 - (48 : Int32)); have g14 := rg14 G; rw [e48] at u14
  have v14 : (z14 - (48 : Int32)).toInt = z14.toInt - 48 := by omega
  have m14 := c_imul (z14 - (48 : Int32)) (3 : Int32); have mr14 := rng32 ((z14 - (48 : Int32)) * (3 : Int32)); rw [v14, e3] at m14
  have t14 : ((z14 - (48 : Int32)) * (3 : Int32)).toInt = 3 * (z14.toInt - 48) := by omega
  have a2 := c_iadd (((0 : Int32) + ((z16 - (48 : Int32)) * (3 : Int32))) + ((z15 - (48 : Int32)) * (1 : Int32))) ((z14 - (48 : Int32)) * (3 : Int32)); have ar2 := rng32 ((((0 : Int32) + ((z16 - (48 : Int32)) * (3 : Int32))) + ((z15 - (48 : Int32)) * (1 : Int32))) + ((z14 - (48 : Int32)) * (3 : Int32))); rw [s2, t14] at a2
  have s3 : ((((0 : Int32) + ((z16 - (48 : Int32)) * (3 : Int32))) + ((z15 - (48 : Int32)) * (1 : Int32))) + ((z14 - (48 : Int32)) * (3 : Int32))).toInt = 3 * (z16.toInt - 48) + (z15.toInt - 48) + 3 * (z14.toInt - 48) := by omega
  clear a2 ar2 s2 t14 m14 mr14 u14 ur14 v14
  have u13 := c_isub z13 (48 : Int32); have ur13 := rng32 (z13 - (48 : Int32)); have g13 := rg13 G; rw [e48] at u13
  have v13 : (z13 - (48 : Int32)).toInt = z13.toInt - 48 := by omega
  have m13 := c_imul (z13 - (48 : Int32)) (1 : Int32); have mr13 := rng32 ((z13 - (48 : Int32)) * (1 : Int32)); rw [v13, e1] at m13
  have t13 : ((z13 - (48 : Int32)) * (1 : Int32)).toInt = (z13.toInt - 48) := by omega
  have a3 := c_iadd ((((0 : Int32) + ((z16 - (48 : Int32)) * (3 : Int32))) + ((z15 - (48 : Int32)) * (1 : Int32))) + ((z14 - (48 : Int32)) * (3 : Int32))) ((z13 - (48 : Int32)) * (1 : Int32)); have ar3 := rng32 (((((0 : Int32) + ((z16 - (48 : Int32)) * (3 : Int32))) + ((z15 - (48 : Int32)) * (1 : Int32))) + ((z14 - (48 : Int32)) * (3 : Int32))) + ((z13 - (48 : Int32)) * (1 : Int32))); rw [s3, t13] at a3
  have s4 : (((((0 : Int32) + ((z16 - (48 : Int32)) * (3 : Int32))) + ((z15 - (48 : Int32)) * (1 : Int32))) + ((z14 - (48 : Int32)) * (3 : Int32))) + ((z13 - (48 : Int32)) * (1 : Int32))).toInt = 3 * (z16.toInt - 48) + (z15.toInt - 48) + 3 * (z14.toInt - 48) + (z13.toInt - 48) := by omega
  clear a3 ar3 s3 t13 m13 mr13 u13 ur13 v13
  have u12 := c_isub z12 (48 : Int32); have ur12 := rng32 (z12 - (48 : Int32)); have g12 := rg12 G; rw [e48] at u12
  have v12 : (z12 - (48 : Int32)).toInt = z12.toInt - 48 := by omega
  have m12 := c_imul (z12 - (48 : Int32)) (3 : Int32); have mr12 := rng32 ((z12 - (48 : Int32)) * (3 : Int32)); rw [v12, e3] at m12
  have t12 : ((z12 - (48 : Int32)) * (3 : Int32)).toInt = 3 * (z12.toInt - 48) := by omega
  have a4 := c_iadd (((((0 : Int32) + ((z16 - (48 : Int32)) * (3 : Int32))) + ((z15 - (48 : Int32)) * (1 : Int32))) + ((z14 - (48 : Int32)) * (3 : Int32))) + ((z13 - (48 : Int32)) * (1 : Int32))) ((z12 - (48 : Int32)) * (3 : Int32)); have ar4 := rng32 ((((((0 : Int32) + ((z16 - (48 : Int32)) * (3 : Int32))) + ((z15 - (48 : Int32)) * (1 : Int32))) + ((z14 - (48 : Int32)) * (3 : Int32))) + ((z13 - (48 : Int32)) * (1 : Int32))) + ((z12 - (48 : Int32)) * (3 : Int32))); rw [s4, t12] at a4
  have s5 : ((((((0 : Int32) + ((z16 - (48 : Int32)) * (3 : Int32))) + ((z15 - (48 : Int32)) * (1 : Int32))) + ((z14 - (48 : Int32)) * (3 : Int32))) + ((z13 - (48 : Int32)) * (1 : Int32))) + ((z12 - (48 : Int32)) * (3 : Int32))).toInt = 3 * (z16.toInt - 48) + (z15.toInt - 48) + 3 * (z14.toInt - 48) + (z13.toInt - 48) + 3 * (z12.toInt - 48) := by omega
  clear a4 ar4 s4 t12 m12 mr12 u12 ur12 v12
  have u11 := c_isub z11 (48 : Int32); have ur11 := rng32 (z11 - (48 : Int32)); have g11 := rg11 G; rw [e48] at u11
  have v11 : (z11 - (48 : Int32)).toInt = z11.toInt - 48 := by omega
  have m11 := c_imul (z11 - (48 : Int32)) (1 : Int32); have mr11 := rng32 ((z11 - (48 : Int32)) * (1 : Int32)); rw [v11, e1] at m11
  have t11 : ((z11 - (48 : Int32)) * (1 : Int32)).toInt = (z11.toInt - 48) := by omega
  have a5 := c_iadd ((((((0 : Int32) + ((z16 - (48 : Int32)) * (3 : Int32))) + ((z15 - (48 : Int32)) * (1 : Int32))) + ((z14 - (48 : Int32)) * (3 : Int32))) + ((z13 - (48 : Int32)) * (1 : Int32))) + ((z12 - (48 : Int32)) * (3 : Int32))) ((z11 - (48 : Int32)) * (1 : Int32)); have ar5 := rng32 (((((((0 : Int32) + ((z16 - (48 : Int32)) * (3 : Int32))) + ((z15 - (48 : Int32)) * (1 : Int32))) + ((z14 - (48 : Int32)) * (3 : Int32))) + ((z13 - (48 : Int32)) * (1 : Int32))) + ((z12 - (48 : Int32)) * (3 : Int32))) + ((z11 - (48 : Int32)) * (1 : Int32))); rw [s5, t11] at a5
  have s6 : (((((((0 : Int32) + ((z16 - (48 : Int32)) * (3 : Int32))) + ((z15 - (48 : Int32)) * (1 : Int32))) + ((z14 - (48 : Int32)) * (3 : Int32))) + ((z13 - (48 : Int32)) * (1 : Int32))) + ((z12 - (48 : Int32)) * (3 : Int32))) + ((z11 - (48 : Int32)) * (1 : Int32))).toInt = 3 * (z16.toInt - 48) + (z15.toInt - 48) + 3 * (z14.toInt - 48) + (z13.toInt - 48) + 3 * (z12.toInt - 48) + (z11.toInt - 48) := by omega
  clear a5 ar5 s5 t11 m11 mr11 u11 ur11 v11
  have u10 := c_isub z10 (48 : Int32); have ur10 := rng32 (z10 - (48 : Int32)); have g10 := rg10 G; rw [e48] at u10
  have v10 : (z10 - (48 : Int32)).toInt = z10.toInt - 48 := by omega
  have m10 := c_imul (z10 - (48 : Int32)) (3 : Int32); have mr10 := rng32 ((z10 - (48 : Int32)) * (3 : Int32)); rw [v10, e3] at m10
  have t10 : ((z10 - (48 : Int32)) * (3 : Int32)).toInt = 3 * (z10.toInt - 48) := by omega
  have a6 := c_iadd (((((((0 : Int32) + ((z16 - (48 : Int32)) * (3 : Int32))) + ((z15 - (48 : Int32)) * (1 : Int32))) + ((z14 - (48 : Int32)) * (3 : Int32))) + ((z13 - (48 : Int32)) * (1 : Int32))) + ((z12 - (48 : Int32)) * (3 : Int32))) + ((z11 - (48 : Int32)) * (1 : Int32))) ((z10 - (48 : Int32)) * (3 : Int32)); have ar6 := rng32 ((((((((0 : Int32) + ((z16 - (48 : Int32)) * (3 : Int32))) + ((z15 - (48 : Int32)) * (1 : Int32))) + ((z14 - (48 : Int32)) * (3 : Int32))) + ((z13 - (48 : Int32)) * (1 : Int32))) + ((z12 - (48 : Int32)) * (3 : Int32))) + ((z11 - (48 : Int32)) * (1 : Int32))) + ((z10 - (48 : Int32)) * (3 : Int32))); rw [s6, t10] at a6
  have s7 : ((((((((0 : Int32) + ((z16 - (48 : Int32)) * (3 : Int32))) + ((z15 - (48 : Int32)) * (1 : Int32))) + ((z14 - (48 : Int32)) * (3 : Int32))) + ((z13 - (48 : Int32)) * (1 : Int32))) + ((z12 - (48 : Int32)) * (3 : Int32))) + ((z11 - (48 : Int32)) * (1 : Int32))) + ((z10 - (48 : Int32)) * (3 : Int32))).toInt = 3 * (z16.toInt - 48) + (z15.toInt - 48) + 3 * (z14.toInt - 48) + (z13.toInt - 48) + 3 * (z12.toInt - 48) + (z11.toInt - 48) + 3 * (z10.toInt - 48) := by omega
  clear a6 ar6 s6 t10 m10 mr10 u10 ur10 v10
  have u9 := c_isub z9 (48 : Int32); have ur9 := rng32 (z9 - (48 : Int32)); have g9 := rg9 G; rw [e48] at u9
  have v9 : (z9 - (48 : Int32)).toInt = z9.toInt - 48 := by omega
  have m9 := c_imul (z9 - (48 : Int32)) (1 : Int32); have mr9 := rng32 ((z9 - (48 : Int32)) * (1 : Int32)); rw [v9, e1] at m9
  have t9 : ((z9 - (48 : Int32)) * (1 : Int32)).toInt = (z9.toInt - 48) := by omega
  have a7 := c_iadd ((((((((0 : Int32) + ((z16 - (48 : Int32)) * (3 : Int32))) + ((z15 - (48 : Int32)) * (1 : Int32))) + ((z14 - (48 : Int32)) * (3 : Int32))) + ((z13 - (48 : Int32)) * (1 : Int32))) + ((z12 - (48 : Int32)) * (3 : Int32))) + ((z11 - (48 : Int32)) * (1 : Int32))) + ((z10 - (48 : Int32)) * (3 : Int32))) ((z9 - (48 : Int32)) * (1 : Int32)); have ar7 := rng32 (((((((((0 : Int32) + ((z16 - (48 : Int32)) * (3 : Int32))) + ((z15 - (48 : Int32)) * (1 : Int32))) + ((z14 - (48 : Int32)) * (3 : Int32))) + ((z13 - (48 : Int32)) * (1 : Int32))) + ((z12 - (48 : Int32)) * (3 : Int32))) + ((z11 - (48 : Int32)) * (1 : Int32))) + ((z10 - (48 : Int32)) * (3 : Int32))) + ((z9 - (48 : Int32)) * (1 : Int32))); rw [s7, t9] at a7
  have s8 : (((((((((0 : Int32) + ((z16 - (48 : Int32)) * (3 : Int32))) + ((z15 - (48 : Int32)) * (1 : Int32))) + ((z14 - (48 : Int32)) * (3 : Int32))) + ((z13 - (48 : Int32)) * (1 : Int32))) + ((z12 - (48 : Int32)) * (3 : Int32))) + ((z11 - (48 : Int32)) * (1 : Int32))) + ((z10 - (48 : Int32)) * (3 : Int32))) + ((z9 - (48 : Int32)) * (1 : Int32))).toInt = 3 * (z16.toInt - 48) + (z15.toInt - 48) + 3 * (z14.toInt - 48) + (z13.toInt - 48) + 3 * (z12.toInt - 48) + (z11.toInt - 48) + 3 * (z10.toInt - 48) + (z9.toInt - 48) := by omega
  clear a7 ar7 s7 t9 m9 mr9 u9 ur9 v9
  have u8 := c_isub z8 (48 : Int32); have ur8 := rng32 (z8 - (48 : Int32)); have g8 := rg8 G; rw [e48] at u8
  have v8 : (z8 - (48 : Int32)).toInt = z8.toInt - 48 := by omega
  have m8 := c_imul (z8 - (48 : Int32)) (3 : Int32); have mr8 := rng32 ((z8 - (48 : Int32)) * (3 : Int32)); rw [v8, e3] at m8
  have t8 : ((z8 - (48 : Int32)) * (3 : Int32)).toInt = 3 * (z8.toInt - 48) := by omega
  have a8 := c_iadd (((((((((0 : Int32) + ((z16 - (48 : Int32)) * (3 : Int32))) + ((z15 - (48 : Int32)) * (1 : Int32))) + ((z14 - (48 : Int32)) * (3 : Int32))) + ((z13 - (48 : Int32)) * (1 : Int32))) + ((z12 - (48 : Int32)) * (3 : Int32))) + ((z11 - (48 : Int32)) * (1 : Int32))) + ((z10 - (48 : Int32)) * (3 : Int32))) + ((z9 - (48 : Int32)) * (1 : Int32))) ((z8 - (48 : Int32)) * (3 : Int32)); have ar8 := rng32 ((((((((((0 : Int32) + ((z16 - (48 : Int32)) * (3 : Int32))) + ((z15 - (48 : Int32)) * (1 : Int32))) + ((z14 - (48 : Int32)) * (3 : Int32))) + ((z13 - (48 : Int32)) * (1 : Int32))) + ((z12 - (48 : Int32)) * (3 : Int32))) + ((z11 - (48 : Int32)) * (1 : Int32))) + ((z10 - (48 : Int32)) * (3 : Int32))) + ((z9 - (48 : Int32)) * (1 : Int32))) + ((z8 - (48 : Int32)) * (3 : Int32))); rw [s8, t8] at a8
  have s9 : ((((((((((0 : Int32) + ((z16 - (48 : Int32)) * (3 : Int32))) + ((z15 - (48 : Int32)) * (1 : Int32))) + ((z14 - (48 : Int32)) * (3 : Int32))) + ((z13 - (48 : Int32)) * (1 : Int32))) + ((z12 - (48 : Int32)) * (3 : Int32))) + ((z11 - (48 : Int32)) * (1 : Int32))) + ((z10 - (48 : Int32)) * (3 : Int32))) + ((z9 - (48 : Int32)) * (1 : Int32))) + ((z8 - (48 : Int32)) * (3 : Int32))).toInt = 3 * (z16.toInt - 48) + (z15.toInt - 48) + 3 * (z14.toInt - 48) + (z13.toInt - 48) + 3 * (z12.toInt - 48) + (z11.toInt - 48) + 3 * (z10.toInt - 48) + (z9.toInt - 48) + 3 * (z8.toInt - 48) := by omega
  clear a8 ar8 s8 t8 m8 mr8 u8 ur8 v8
  have u7 := c_isub z7 (48 : Int32); have ur7 := rng32 (z7 - (48 : Int32)); have g7 := rg7 G; rw [e48] at u7
  have v7 : (z7 - (48 : Int32)).toInt = z7.toInt - 48 := by omega
  have m7 := c_imul (z7 - (48 : Int32)) (1 : Int32); have mr7 := rng32 ((z7 - (48 : Int32)) * (1 : Int32)); rw [v7, e1] at m7
  have t7 : ((z7 - (48 : Int32)) * (1 : Int32)).toInt = (z7.toInt - 48) := by omega
  have a9 := c_iadd ((((((((((0 : Int32) + ((z16 - (48 : Int32)) * (3 : Int32))) + ((z15 - (48 : Int32)) * (1 : Int32))) + ((z14 - (48 : Int32)) * (3 : Int32))) + ((z13 - (48 : Int32)) * (1 : Int32))) + ((z12 - (48 : Int32)) * (3 : Int32))) + ((z11 - (48 : Int32)) * (1 : Int32))) + ((z10 - (48 : Int32)) * (3 : Int32))) + ((z9 - (48 : Int32)) * (1 : Int32))) + ((z8 - (48 : Int32)) * (3 : Int32))) ((z7 - (48 : Int32)) * (1 : Int32)); have ar9 := rng32 (((((((((((0 : Int32) + ((z16 - (48 : Int32)) * (3 : Int32))) + ((z15 - (48 : Int32)) * (1 : Int32))) + ((z14 - (48 : Int32)) * (3 : Int32))) + ((z13 - (48 : Int32)) * (1 : Int32))) + ((z12 - (48 : Int32)) * (3 : Int32))) + ((z11 - (48 : Int32)) * (1 : Int32))) + ((z10 - (48 : Int32)) * (3 : Int32))) + ((z9 - (48 : Int32)) * (1 : Int32))) + ((z8 - (48 : Int32)) * (3 : Int32))) + ((z7 - (48 : Int32)) * (1 : Int32))); rw [s9, t7] at a9
  have s10 : (((((((((((0 : Int32) + ((z16 - (48 : Int32)) * (3 : Int32))) + ((z15 - (48 : Int32)) * (1 : Int32))) + ((z14 - (48 : Int32)) * (3 : Int32))) + ((z13 - (48 : Int32)) * (1 : Int32))) + ((z12 - (48 : Int32)) * (3 : Int32))) + ((z11 - (48 : Int32)) * (1 : Int32))) + ((z10 - (48 : Int32)) * (3 : Int32))) + ((z9 - (48 : Int32)) * (1 : Int32))) + ((z8 - (48 : Int32)) * (3 : Int32))) + ((z7 - (48 : Int32)) * (1 : Int32))).toInt = 3 * (z16.toInt - 48) + (z15.toInt - 48) + 3 * (z14.toInt - 48) + (z13.toInt - 48) + 3 * (z12.toInt - 48) + (z11.toInt - 48) + 3 * (z10.toInt - 48) + (z9.toInt - 48) + 3 * (z8.toInt - 48) + (z7.toInt - 48) := by omega
  clear a9 ar9 s9 t7 m7 mr7 u7 ur7 v7
  have u6 := c_isub z6 (48 : Int32); have ur6 := rng32 (z6 - (48 : Int32)); have g6 := rg6 G; rw [e48] at u6
  have v6 : (z6 - (48 : Int32)).toInt = z6.toInt - 48 := by omega
  have m6 := c_imul (z6 - (48 : Int32)) (3 : Int32); have mr6 := rng32 ((z6 - (48 : Int32)) * (3 : Int32)); rw [v6, e3] at m6
  have t6 : ((z6 - (48 : Int32)) * (3 : Int32)).toInt = 3 * (z6.toInt - 48) := by omega
  have a10 := c_iadd (((((((((((0 : Int32) + ((z16 - (48 : Int32)) * (3 : Int32))) + ((z15 - (48 : Int32)) * (1 : Int32))) + ((z14 - (48 : Int32)) * (3 : Int32))) + ((z13 - (48 : Int32)) * (1 : Int32))) + ((z12 - (48 : Int32)) * (3 : Int32))) + ((z11 - (48 : Int32)) * (1 : Int32))) + ((z10 - (48 : Int32)) * (3 : Int32))) + ((z9 - (48 : Int32)) * (1 : Int32))) + ((z8 - (48 : Int32)) * (3 : Int32))) + ((z7 - (48 : Int32)) * (1 : Int32))) ((z6 - (48 : Int32)) * (3 : Int32)); have ar10 := rng32 ((((((((((((0 : Int32) + ((z16 - (48 : Int32)) * (3 : Int32))) + ((z15 - (48 : Int32)) * (1 : Int32))) + ((z14 - (48 : Int32)) * (3 : Int32))) + ((z13 - (48 : Int32)) * (1 : Int32))) + ((z12 - (48 : Int32)) * (3 : Int32))) + ((z11 - (48 : Int32)) * (1 : Int32))) + ((z10 - (48 : Int32)) * (3 : Int32))) + ((z9 - (48 : Int32)) * (1 : Int32))) + ((z8 - (48 : Int32)) * (3 : Int32))) + ((z7 - (48 : Int32)) * (1 : Int32))) + ((z6 - (48 : Int32)) * (3 : Int32))); rw [s10, t6] at a10
  have s11 : ((((((((((((0 : Int32) + ((z16 - (48 : Int32)) * (3 : Int32))) + ((z15 - (48 : Int32)) * (1 : Int32))) + ((z14 - (48 : Int32)) * (3 : Int32))) + ((z13 - (48 : Int32)) * (1 : Int32))) + ((z12 - (48 : Int32)) * (3 : Int32))) + ((z11 - (48 : Int32)) * (1 : Int32))) + ((z10 - (48 : Int32)) * (3 : Int32))) + ((z9 - (48 : Int32)) * (1 : Int32))) + ((z8 - (48 : Int32)) * (3 : Int32))) + ((z7 - (48 : Int32)) * (1 : Int32))) + ((z6 - (48 : Int32)) * (3 : Int32))).toInt = 3 * (z16.toInt - 48) + (z15.toInt - 48) + 3 * (z14.toInt - 48) + (z13.toInt - 48) + 3 * (z12.toInt - 48) + (z11.toInt - 48) + 3 * (z10.toInt - 48) + (z9.toInt - 48) + 3 * (z8.toInt - 48) + (z7.toInt - 48) + 3 * (z6.toInt - 48) := by omega
  clear a10 ar10 s10 t6 m6 mr6 u6 ur6 v6
  have u5 := c_isub z5 (48 : Int32); have ur5 := rng32 (z5 - (48 : Int32)); have g5 := rg5 G; rw [e48] at u5
  have v5 : (z5 - (48 : Int32)).toInt = z5.toInt - 48 := by omega
  have m5 := c_imul (z5 - (48 : Int32)) (1 : Int32); have mr5 := rng32 ((z5 - (48 : Int32)) * (1 : Int32)); rw [v5, e1] at m5
  have t5 : ((z5 - (48 : Int32)) * (1 : Int32)).toInt = (z5.toInt - 48) := by omega
  have a11 := c_iadd ((((((((((((0 : Int32) + ((z16 - (48 : Int32)) * (3 : Int32))) + ((z15 - (48 : Int32)) * (1 : Int32))) + ((z14 - (48 : Int32)) * (3 : Int32))) + ((z13 - (48 : Int32)) * (1 : Int32))) + ((z12 - (48 : Int32)) * (3 : Int32))) + ((z11 - (48 : Int32)) * (1 : Int32))) + ((z10 - (48 : Int32)) * (3 : Int32))) + ((z9 - (48 : Int32)) * (1 : Int32))) + ((z8 - (48 : Int32)) * (3 : Int32))) + ((z7 - (48 : Int32)) * (1 : Int32))) + ((z6 - (48 : Int32)) * (3 : Int32))) ((z5 - (48 : Int32)) * (1 : Int32)); have ar11 := rng32 (((((((((((((0 : Int32) + ((z16 - (48 : Int32)) * (3 : Int32))) + ((z15 - (48 : Int32)) * (1 : Int32))) + ((z14 - (48 : Int32)) * (3 : Int32))) + ((z13 - (48 : Int32)) * (1 : Int32))) + ((z12 - (48 : Int32)) * (3 : Int32))) + ((z11 - (48 : Int32)) * (1 : Int32))) + ((z10 - (48 : Int32)) * (3 : Int32))) + ((z9 - (48 : Int32)) * (1 : Int32))) + ((z8 - (48 : Int32)) * (3 : Int32))) + ((z7 - (48 : Int32)) * (1 : Int32))) + ((z6 - (48 : Int32)) * (3 : Int32))) + ((z5 - (48 : Int32)) * (1 : Int32))); rw [s11, t5] at a11
  have s12 : (((((((((((((0 : Int32) + ((z16 - (48 : Int32)) * (3 : Int32))) + ((z15 - (48 : Int32)) * (1 : Int32))) + ((z14 - (48 : Int32)) * (3 : Int32))) + ((z13 - (48 : Int32)) * (1 : Int32))) + ((z12 - (48 : Int32)) * (3 : Int32))) + ((z11 - (48 : Int32)) * (1 : Int32))) + ((z10 - (48 : Int32)) * (3 : Int32))) + ((z9 - (48 : Int32)) * (1 : Int32))) + ((z8 - (48 : Int32)) * (3 : Int32))) + ((z7 - (48 : Int32)) * (1 : Int32))) + ((z6 - (48 : Int32)) * (3 : Int32))) + ((z5 - (48 : Int32)) * (1 : Int32))).toInt = 3 * (z16.toInt - 48) + (z15.toInt - 48) + 3 * (z14.toInt - 48) + (z13.toInt - 48) + 3 * (z12.toInt - 48) + (z11.toInt - 48) + 3 * (z10.toInt - 48) + (z9.toInt - 48) + 3 * (z8.toInt - 48) + (z7.toInt - 48) + 3 * (z6.toInt - 48) + (z5.toInt - 48) := by omega
  clear a11 ar11 s11 t5 m5 mr5 u5 ur5 v5
  have u4 := c_isub z4 (48 : Int32); have ur4 := rng32 (z4 - (48 : Int32)); have g4 := rg4 G; rw [e48] at u4
  have v4 : (z4 - (48 : Int32)).toInt = z4.toInt - 48 := by omega
  have m4 := c_imul (z4 - (48 : Int32)) (3 : Int32); have mr4 := rng32 ((z4 - (48 : Int32)) * (3 : Int32)); rw [v4, e3] at m4
  have t4 : ((z4 - (48 : Int32)) * (3 : Int32)).toInt = 3 * (z4.toInt - 48) := by omega
  have a12 := c_iadd (((((((((((((0 : Int32) + ((z16 - (48 : Int32)) * (3 : Int32))) + ((z15 - (48 : Int32)) * (1 : Int32))) + ((z14 - (48 : Int32)) * (3 : Int32))) + ((z13 - (48 : Int32)) * (1 : Int32))) + ((z12 - (48 : Int32)) * (3 : Int32))) + ((z11 - (48 : Int32)) * (1 : Int32))) + ((z10 - (48 : Int32)) * (3 : Int32))) + ((z9 - (48 : Int32)) * (1 : Int32))) + ((z8 - (48 : Int32)) * (3 : Int32))) + ((z7 - (48 : Int32)) * (1 : Int32))) + ((z6 - (48 : Int32)) * (3 : Int32))) + ((z5 - (48 : Int32)) * (1 : Int32))) ((z4 - (48 : Int32)) * (3 : Int32)); have ar12 := rng32 ((((((((((((((0 : Int32) + ((z16 - (48 : Int32)) * (3 : Int32))) + ((z15 - (48 : Int32)) * (1 : Int32))) + ((z14 - (48 : Int32)) * (3 : Int32))) + ((z13 - (48 : Int32)) * (1 : Int32))) + ((z12 - (48 : Int32)) * (3 : Int32))) + ((z11 - (48 : Int32)) * (1 : Int32))) + ((z10 - (48 : Int32)) * (3 : Int32))) + ((z9 - (48 : Int32)) * (1 : Int32))) + ((z8 - (48 : Int32)) * (3 : Int32))) + ((z7 - (48 : Int32)) * (1 : Int32))) + ((z6 - (48 : Int32)) * (3 : Int32))) + ((z5 - (48 : Int32)) * (1 : Int32))) + ((z4 - (48 : Int32)) * (3 : Int32))); rw [s12, t4] at a12
  have s13 : ((((((((((((((0 : Int32) + ((z16 - (48 : Int32)) * (3 : Int32))) + ((z15 - (48 : Int32)) * (1 : Int32))) + ((z14 - (48 : Int32)) * (3 : Int32))) + ((z13 - (48 : Int32)) * (1 : Int32))) + ((z12 - (48 : Int32)) * (3 : Int32))) + ((z11 - (48 : Int32)) * (1 : Int32))) + ((z10 - (48 : Int32)) * (3 : Int32))) + ((z9 - (48 : Int32)) * (1 : Int32))) + ((z8 - (48 : Int32)) * (3 : Int32))) + ((z7 - (48 : Int32)) * (1 : Int32))) + ((z6 - (48 : Int32)) * (3 : Int32))) + ((z5 - (48 : Int32)) * (1 : Int32))) + ((z4 - (48 : Int32)) * (3 : Int32))).toInt = 3 * (z16.toInt - 48) + (z15.toInt - 48) + 3 * (z14.toInt - 48) + (z13.toInt - 48) + 3 * (z12.toInt - 48) + (z11.toInt - 48) + 3 * (z10.toInt - 48) + (z9.toInt - 48) + 3 * (z8.toInt - 48) + (z7.toInt - 48) + 3 * (z6.toInt - 48) + (z5.toInt - 48) + 3 * (z4.toInt - 48) := by omega
  clear a12 ar12 s12 t4 m4 mr4 u4 ur4 v4
  have u3 := c_isub z3 (48 : Int32); have ur3 := rng32 (z3 - (48 : Int32)); have g3 := rg3 G; rw [e48] at u3
  have v3 : (z3 - (48 : Int32)).toInt = z3.toInt - 48 := by omega
  have m3 := c_imul (z3 - (48 : Int32)) (1 : Int32); have mr3 := rng32 ((z3 - (48 : Int32)) * (1 : Int32)); rw [v3, e1] at m3
  have t3 : ((z3 - (48 : Int32)) * (1 : Int32)).toInt = (z3.toInt - 48) := by omega
  have a13 := c_iadd ((((((((((((((0 : Int32) + ((z16 - (48 : Int32)) * (3 : Int32))) + ((z15 - (48 : Int32)) * (1 : Int32))) + ((z14 - (48 : Int32)) * (3 : Int32))) + ((z13 - (48 : Int32)) * (1 : Int32))) + ((z12 - (48 : Int32)) * (3 : Int32))) + ((z11 - (48 : Int32)) * (1 : Int32))) + ((z10 - (48 : Int32)) * (3 : Int32))) + ((z9 - (48 : Int32)) * (1 : Int32))) + ((z8 - (48 : Int32)) * (3 : Int32))) + ((z7 - (48 : Int32)) * (1 : Int32))) + ((z6 - (48 : Int32)) * (3 : Int32))) + ((z5 - (48 : Int32)) * (1 : Int32))) + ((z4 - (48 : Int32)) * (3 : Int32))) ((z3 - (48 : Int32)) * (1 : Int32)); have ar13 := rng32 (((((((((((((((0 : Int32) + ((z16 - (48 : Int32)) * (3 : Int32))) + ((z15 - (48 : Int32)) * (1 : Int32))) + ((z14 - (48 : Int32)) * (3 : Int32))) + ((z13 - (48 : Int32)) * (1 : Int32))) + ((z12 - (48 : Int32)) * (3 : Int32))) + ((z11 - (48 : Int32)) * (1 : Int32))) + ((z10 - (48 : Int32)) * (3 : Int32))) + ((z9 - (48 : Int32)) * (1 : Int32))) + ((z8 - (48 : Int32)) * (3 : Int32))) + ((z7 - (48 : Int32)) * (1 : Int32))) + ((z6 - (48 : Int32)) * (3 : Int32))) + ((z5 - (48 : Int32)) * (1 : Int32))) + ((z4 - (48 : Int32)) * (3 : Int32))) + ((z3 - (48 : Int32)) * (1 : Int32))); rw [s13, t3] at a13
  have s14 : (((((((((((((((0 : Int32) + ((z16 - (48 : Int32)) * (3 : Int32))) + ((z15 - (48 : Int32)) * (1 : Int32))) + ((z14 - (48 : Int32)) * (3 : Int32))) + ((z13 - (48 : Int32)) * (1 : Int32))) + ((z12 - (48 : Int32)) * (3 : Int32))) + ((z11 - (48 : Int32)) * (1 : Int32))) + ((z10 - (48 : Int32)) * (3 : Int32))) + ((z9 - (48 : Int32)) * (1 : Int32))) + ((z8 - (48 : Int32)) * (3 : Int32))) + ((z7 - (48 : Int32)) * (1 : Int32))) + ((z6 - (48 : Int32)) * (3 : Int32))) + ((z5 - (48 : Int32)) * (1 : Int32))) + ((z4 - (48 : Int32)) * (3 : Int32))) + ((z3 - (48 : Int32)) * (1 : Int32))).toInt = 3 * (z16.toInt - 48) + (z15.toInt - 48) + 3 * (z14.toInt - 48) + (z13.toInt - 48) + 3 * (z12.toInt - 48) + (z11.toInt - 48) + 3 * (z10.toInt - 48) + (z9.toInt - 48) + 3 * (z8.toInt - 48) + (z7.toInt - 48) + 3 * (z6.toInt - 48) + (z5.toInt - 48) + 3 * (z4.toInt - 48) + (z3.toInt - 48) := by omega
  clear a13 ar13 s13 t3 m3 mr3 u3 ur3 v3
  have u2 := c_isub z2 (48 : Int32); have ur2 := rng32 (z2 - (48 : Int32)); have g2 := rg2 G; rw [e48] at u2
  have v2 : (z2 - (48 : Int32)).toInt = z2.toInt - 48 := by omega
  have m2 := c_imul (z2 - (48 : Int32)) (3 : Int32); have mr2 := rng32 ((z2 - (48 : Int32)) * (3 : Int32)); rw [v2, e3] at m2
  have t2 : ((z2 - (48 : Int32)) * (3 : Int32)).toInt = 3 * (z2.toInt - 48) := by omega
  have a14 := c_iadd (((((((((((((((0 : Int32) + ((z16 - (48 : Int32)) * (3 : Int32))) + ((z15 - (48 : Int32)) * (1 : Int32))) + ((z14 - (48 : Int32)) * (3 : Int32))) + ((z13 - (48 : Int32)) * (1 : Int32))) + ((z12 - (48 : Int32)) * (3 : Int32))) + ((z11 - (48 : Int32)) * (1 : Int32))) + ((z10 - (48 : Int32)) * (3 : Int32))) + ((z9 - (48 : Int32)) * (1 : Int32))) + ((z8 - (48 : Int32)) * (3 : Int32))) + ((z7 - (48 : Int32)) * (1 : Int32))) + ((z6 - (48 : Int32)) * (3 : Int32))) + ((z5 - (48 : Int32)) * (1 : Int32))) + ((z4 - (48 : Int32)) * (3 : Int32))) + ((z3 - (48 : Int32)) * (1 : Int32))) ((z2 - (48 : Int32)) * (3 : Int32)); have ar14 := rng32 ((((((((((((((((0 : Int32) + ((z16 - (48 : Int32)) * (3 : Int32))) + ((z15 - (48 : Int32)) * (1 : Int32))) + ((z14 - (48 : Int32)) * (3 : Int32))) + ((z13 - (48 : Int32)) * (1 : Int32))) + ((z12 - (48 : Int32)) * (3 : Int32))) + ((z11 - (48 : Int32)) * (1 : Int32))) + ((z10 - (48 : Int32)) * (3 : Int32))) + ((z9 - (48 : Int32)) * (1 : Int32))) + ((z8 - (48 : Int32)) * (3 : Int32))) + ((z7 - (48 : Int32)) * (1 : Int32))) + ((z6 - (48 : Int32)) * (3 : Int32))) + ((z5 - (48 : Int32)) * (1 : Int32))) + ((z4 - (48 : Int32)) * (3 : Int32))) + ((z3 - (48 : Int32)) * (1 : Int32))) + ((z2 - (48 : Int32)) * (3 : Int32))); rw [s14, t2] at a14
  have s15 : ((((((((((((((((0 : Int32) + ((z16 - (48 : Int32)) * (3 : Int32))) + ((z15 - (48 : Int32)) * (1 : Int32))) + ((z14 - (48 : Int32)) * (3 : Int32))) + ((z13 - (48 : Int32)) * (1 : Int32))) + ((z12 - (48 : Int32)) * (3 : Int32))) + ((z11 - (48 : Int32)) * (1 : Int32))) + ((z10 - (48 : Int32)) * (3 : Int32))) + ((z9 - (48 : Int32)) * (1 : Int32))) + ((z8 - (48 : Int32)) * (3 : Int32))) + ((z7 - (48 : Int32)) * (1 : Int32))) + ((z6 - (48 : Int32)) * (3 : Int32))) + ((z5 - (48 : Int32)) * (1 : Int32))) + ((z4 - (48 : Int32)) * (3 : Int32))) + ((z3 - (48 : Int32)) * (1 : Int32))) + ((z2 - (48 : Int32)) * (3 : Int32))).toInt = 3 * (z16.toInt - 48) + (z15.toInt - 48) + 3 * (z14.toInt - 48) + (z13.toInt - 48) + 3 * (z12.toInt - 48) + (z11.toInt - 48) + 3 * (z10.toInt - 48) + (z9.toInt - 48) + 3 * (z8.toInt - 48) + (z7.toInt - 48) + 3 * (z6.toInt - 48) + (z5.toInt - 48) + 3 * (z4.toInt - 48) + (z3.toInt - 48) + 3 * (z2.toInt - 48) := by omega
  clear a14 ar14 s14 t2 m2 mr2 u2 ur2 v2
  have u1 := c_isub z1 (48 : Int32); have ur1 := rng32 (z1 - (48 : Int32)); have g1 := rg1 G; rw [e48] at u1
  have v1 : (z1 - (48 : Int32)).toInt = z1.toInt - 48 := by omega
  have m1 := c_imul (z1 - (48 : Int32)) (1 : Int32); have mr1 := rng32 ((z1 - (48 : Int32)) * (1 : Int32)); rw [v1, e1] at m1
  have t1 : ((z1 - (48 : Int32)) * (1 : Int32)).toInt = (z1.toInt - 48) := by omega
  have a15 := c_iadd ((((((((((((((((0 : Int32) + ((z16 - (48 : Int32)) * (3 : Int32))) + ((z15 - (48 : Int32)) * (1 : Int32))) + ((z14 - (48 : Int32)) * (3 : Int32))) + ((z13 - (48 : Int32)) * (1 : Int32))) + ((z12 - (48 : Int32)) * (3 : Int32))) + ((z11 - (48 : Int32)) * (1 : Int32))) + ((z10 - (48 : Int32)) * (3 : Int32))) + ((z9 - (48 : Int32)) * (1 : Int32))) + ((z8 - (48 : Int32)) * (3 : Int32))) + ((z7 - (48 : Int32)) * (1 : Int32))) + ((z6 - (48 : Int32)) * (3 : Int32))) + ((z5 - (48 : Int32)) * (1 : Int32))) + ((z4 - (48 : Int32)) * (3 : Int32))) + ((z3 - (48 : Int32)) * (1 : Int32))) + ((z2 - (48 : Int32)) * (3 : Int32))) ((z1 - (48 : Int32)) * (1 : Int32)); have ar15 := rng32 (((((((((((((((((0 : Int32) + ((z16 - (48 : Int32)) * (3 : Int32))) + ((z15 - (48 : Int32)) * (1 : Int32))) + ((z14 - (48 : Int32)) * (3 : Int32))) + ((z13 - (48 : Int32)) * (1 : Int32))) + ((z12 - (48 : Int32)) * (3 : Int32))) + ((z11 - (48 : Int32)) * (1 : Int32))) + ((z10 - (48 : Int32)) * (3 : Int32))) + ((z9 - (48 : Int32)) * (1 : Int32))) + ((z8 - (48 : Int32)) * (3 : Int32))) + ((z7 - (48 : Int32)) * (1 : Int32))) + ((z6 - (48 : Int32)) * (3 : Int32))) + ((z5 - (48 : Int32)) * (1 : Int32))) + ((z4 - (48 : Int32)) * (3 : Int32))) + ((z3 - (48 : Int32)) * (1 : Int32))) + ((z2 - (48 : Int32)) * (3 : Int32))) + ((z1 - (48 : Int32)) * (1 : Int32))); rw [s15, t1] at a15
  have s16 : (((((((((((((((((0 : Int32) + ((z16 - (48 : Int32)) * (3 : Int32))) + ((z15 - (48 : Int32)) * (1 : Int32))) + ((z14 - (48 : Int32)) * (3 : Int32))) + ((z13 - (48 : Int32)) * (1 : Int32))) + ((z12 - (48 : Int32)) * (3 : Int32))) + ((z11 - (48 : Int32)) * (1 : Int32))) + ((z10 - (48 : Int32)) * (3 : Int32))) + ((z9 - (48 : Int32)) * (1 : Int32))) + ((z8 - (48 : Int32)) * (3 : Int32))) + ((z7 - (48 : Int32)) * (1 : Int32))) + ((z6 - (48 : Int32)) * (3 : Int32))) + ((z5 - (48 : Int32)) * (1 : Int32))) + ((z4 - (48 : Int32)) * (3 : Int32))) + ((z3 - (48 : Int32)) * (1 : Int32))) + ((z2 - (48 : Int32)) * (3 : Int32))) + ((z1 - (48 : Int32)) * (1 : Int32))).toInt = 3 * (z16.toInt - 48) + (z15.toInt - 48) + 3 * (z14.toInt - 48) + (z13.toInt - 48) + 3 * (z12.toInt - 48) + (z11.toInt - 48) + 3 * (z10.toInt - 48) + (z9.toInt - 48) + 3 * (z8.toInt - 48) + (z7.toInt - 48) + 3 * (z6.toInt - 48) + (z5.toInt - 48) + 3 * (z4.toInt - 48) + (z3.toInt - 48) + 3 * (z2.toInt - 48) + (z1.toInt - 48) := by omega
  clear a15 ar15 s15 t1 m1 mr1 u1 ur1 v1
  have u0 := c_isub z0 (48 : Int32); have ur0 := rng32 (z0 - (48 : Int32)); have g0 := rg0 G; rw [e48] at u0
  have v0 : (z0 - (48 : Int32)).toInt = z0.toInt - 48 := by omega
  have m0 := c_imul (z0 - (48 : Int32)) (3 : Int32); have mr0 := rng32 ((z0 - (48 : Int32)) * (3 : Int32)); rw [v0, e3] at m0
  have t0 : ((z0 - (48 : Int32)) * (3 : Int32)).toInt = 3 * (z0.toInt - 48) := by omega
  have a16 := c_iadd (((((((((((((((((0 : Int32) + ((z16 - (48 : Int32)) * (3 : Int32))) + ((z15 - (48 : Int32)) * (1 : Int32))) + ((z14 - (48 : Int32)) * (3 : Int32))) + ((z13 - (48 : Int32)) * (1 : Int32))) + ((z12 - (48 : Int32)) * (3 : Int32))) + ((z11 - (48 : Int32)) * (1 : Int32))) + ((z10 - (48 : Int32)) * (3 : Int32))) + ((z9 - (48 : Int32)) * (1 : Int32))) + ((z8 - (48 : Int32)) * (3 : Int32))) + ((z7 - (48 : Int32)) * (1 : Int32))) + ((z6 - (48 : Int32)) * (3 : Int32))) + ((z5 - (48 : Int32)) * (1 : Int32))) + ((z4 - (48 : Int32)) * (3 : Int32))) + ((z3 - (48 : Int32)) * (1 : Int32))) + ((z2 - (48 : Int32)) * (3 : Int32))) + ((z1 - (48 : Int32)) * (1 : Int32))) ((z0 - (48 : Int32)) * (3 : Int32)); have ar16 := rng32 ((((((((((((((((((0 : Int32) + ((z16 - (48 : Int32)) * (3 : Int32))) + ((z15 - (48 : Int32)) * (1 : Int32))) + ((z14 - (48 : Int32)) * (3 : Int32))) + ((z13 - (48 : Int32)) * (1 : Int32))) + ((z12 - (48 : Int32)) * (3 : Int32))) + ((z11 - (48 : Int32)) * (1 : Int32))) + ((z10 - (48 : Int32)) * (3 : Int32))) + ((z9 - (48 : Int32)) * (1 : Int32))) + ((z8 - (48 : Int32)) * (3 : Int32))) + ((z7 - (48 : Int32)) * (1 : Int32))) + ((z6 - (48 : Int32)) * (3 : Int32))) + ((z5 - (48 : Int32)) * (1 : Int32))) + ((z4 - (48 : Int32)) * (3 : Int32))) + ((z3 - (48 : Int32)) * (1 : Int32))) + ((z2 - (48 : Int32)) * (3 : Int32))) + ((z1 - (48 : Int32)) * (1 : Int32))) + ((z0 - (48 : Int32)) * (3 : Int32))); rw [s16, t0] at a16
  have s17 : ((((((((((((((((((0 : Int32) + ((z16 - (48 : Int32)) * (3 : Int32))) + ((z15 - (48 : Int32)) * (1 : Int32))) + ((z14 - (48 : Int32)) * (3 : Int32))) + ((z13 - (48 : Int32)) * (1 : Int32))) + ((z12 - (48 : Int32)) * (3 : Int32))) + ((z11 - (48 : Int32)) * (1 : Int32))) + ((z10 - (48 : Int32)) * (3 : Int32))) + ((z9 - (48 : Int32)) * (1 : Int32))) + ((z8 - (48 : Int32)) * (3 : Int32))) + ((z7 - (48 : Int32)) * (1 : Int32))) + ((z6 - (48 : Int32)) * (3 : Int32))) + ((z5 - (48 : Int32)) * (1 : Int32))) + ((z4 - (48 : Int32)) * (3 : Int32))) + ((z3 - (48 : Int32)) * (1 : Int32))) + ((z2 - (48 : Int32)) * (3 : Int32))) + ((z1 - (48 : Int32)) * (1 : Int32))) + ((z0 - (48 : Int32)) * (3 : Int32))).toInt = 3 * (z16.toInt - 48) + (z15.toInt - 48) + 3 * (z14.toInt - 48) + (z13.toInt - 48) + 3 * (z12.toInt - 48) + (z11.toInt - 48) + 3 * (z10.toInt - 48) + (z9.toInt - 48) + 3 * (z8.toInt - 48) + (z7.toInt - 48) + 3 * (z6.toInt - 48) + (z5.toInt - 48) + 3 * (z4.toInt - 48) + (z3.toInt - 48) + 3 * (z2.toInt - 48) + (z1.toInt - 48) + 3 * (z0.toInt - 48) := by omega
  clear a16 ar16 s16 t0 m0 mr0 u0 ur0 v0
  have n0 : 0 ≤ (3 * (z16.toInt - 48) + (z15.toInt - 48) + 3 * (z14.toInt - 48) + (z13.toInt - 48) + 3 * (z12.toInt - 48) + (z11.toInt - 48) + 3 * (z10.toInt - 48) + (z9.toInt - 48) + 3 * (z8.toInt - 48) + (z7.toInt - 48) + 3 * (z6.toInt - 48) + (z5.toInt - 48) + 3 * (z4.toInt - 48) + (z3.toInt - 48) + 3 * (z2.toInt - 48) + (z1.toInt - 48) + 3 * (z0.toInt - 48) : Int) := by omega
  have u1 : (((((((((((((((((((0 : Int32) + ((z16 - (48 : Int32)) * (3 : Int32))) + ((z15 - (48 : Int32)) * (1 : Int32))) + ((z14 - (48 : Int32)) * (3 : Int32))) + ((z13 - (48 : Int32)) * (1 : Int32))) + ((z12 - (48 : Int32)) * (3 : Int32))) + ((z11 - (48 : Int32)) * (1 : Int32))) + ((z10 - (48 : Int32)) * (3 : Int32))) + ((z9 - (48 : Int32)) * (1 : Int32))) + ((z8 - (48 : Int32)) * (3 : Int32))) + ((z7 - (48 : Int32)) * (1 : Int32))) + ((z6 - (48 : Int32)) * (3 : Int32))) + ((z5 - (48 : Int32)) * (1 : Int32))) + ((z4 - (48 : Int32)) * (3 : Int32))) + ((z3 - (48 : Int32)) * (1 : Int32))) + ((z2 - (48 : Int32)) * (3 : Int32))) + ((z1 - (48 : Int32)) * (1 : Int32))) + ((z0 - (48 : Int32)) * (3 : Int32))) % (10 : Int32)).toInt = (3 * (z16.toInt - 48) + (z15.toInt - 48) + 3 * (z14.toInt - 48) + (z13.toInt - 48) + 3 * (z12.toInt - 48) + (z11.toInt - 48) + 3 * (z10.toInt - 48) + (z9.toInt - 48) + 3 * (z8.toInt - 48) + (z7.toInt - 48) + 3 * (z6.toInt - 48) + (z5.toInt - 48) + 3 * (z4.toInt - 48) + (z3.toInt - 48) + 3 * (z2.toInt - 48) + (z1.toInt - 48) + 3 * (z0.toInt - 48)) % 10 := by rw [Int32.toInt_mod, s17, e10, Int.tmod_eq_emod_of_nonneg n0]
  have ur : 0 ≤ (3 * (z16.toInt - 48) + (z15.toInt - 48) + 3 * (z14.toInt - 48) + (z13.toInt - 48) + 3 * (z12.toInt - 48) + (z11.toInt - 48) + 3 * (z10.toInt - 48) + (z9.toInt - 48) + 3 * (z8.toInt - 48) + (z7.toInt - 48) + 3 * (z6.toInt - 48) + (z5.toInt - 48) + 3 * (z4.toInt - 48) + (z3.toInt - 48) + 3 * (z2.toInt - 48) + (z1.toInt - 48) + 3 * (z0.toInt - 48)) % 10 ∧ (3 * (z16.toInt - 48) + (z15.toInt - 48) + 3 * (z14.toInt - 48) + (z13.toInt - 48) + 3 * (z12.toInt - 48) + (z11.toInt - 48) + 3 * (z10.toInt - 48) + (z9.toInt - 48) + 3 * (z8.toInt - 48) + (z7.toInt - 48) + 3 * (z6.toInt - 48) + (z5.toInt - 48) + 3 * (z4.toInt - 48) + (z3.toInt - 48) + 3 * (z2.toInt - 48) + (z1.toInt - 48) + 3 * (z0.toInt - 48)) % 10 < 10 := ⟨Int.emod_nonneg _ (by decide), Int.emod_lt_of_pos _ (by decide)⟩
  generalize (3 * (z16.toInt - 48) + (z15.toInt - 48) + 3 * (z14.toInt - 48) + (z13.toInt - 48) + 3 * (z12.toInt - 48) + (z11.toInt - 48) + 3 * (z10.toInt - 48) + (z9.toInt - 48) + 3 * (z8.toInt - 48) + (z7.toInt - 48) + 3 * (z6.toInt - 48) + (z5.toInt - 48) + 3 * (z4.toInt - 48) + (z3.toInt - 48) + 3 * (z2.toInt - 48) + (z1.toInt - 48) + 3 * (z0.toInt - 48)) % 10 = R at u1 ur hc ⊢
  generalize (((((((((((((((((((0 : Int32) + ((z16 - (48 : Int32)) * (3 : Int32))) + ((z15 - (48 : Int32)) * (1 : Int32))) + ((z14 - (48 : Int32)) * (3 : Int32))) + ((z13 - (48 : Int32)) * (1 : Int32))) + ((z12 - (48 : Int32)) * (3 : Int32))) + ((z11 - (48 : Int32)) * (1 : Int32))) + ((z10 - (48 : Int32)) * (3 : Int32))) + ((z9 - (48 : Int32)) * (1 : Int32))) + ((z8 - (48 : Int32)) * (3 : Int32))) + ((z7 - (48 : Int32)) * (1 : Int32))) + ((z6 - (48 : Int32)) * (3 : Int32))) + ((z5 - (48 : Int32)) * (1 : Int32))) + ((z4 - (48 : Int32)) * (3 : Int32))) + ((z3 - (48 : Int32)) * (1 : Int32))) + ((z2 - (48 : Int32)) * (3 : Int32))) + ((z1 - (48 : Int32)) * (1 : Int32))) + ((z0 - (48 : Int32)) * (3 : Int32))) % (10 : Int32)) = L at u1 ⊢
  have b1 := c_isub (10 : Int32) L; have b2 := rng32 ((10 : Int32) - L); rw [e10, u1] at b1
  have b3 : ((10 : Int32) - L).toInt = 10 - R := by omega
  have b4 : (((10 : Int32) - L) % (10 : Int32)).toInt = (10 - R) % 10 := by rw [Int32.toInt_mod, b3, e10, Int.tmod_eq_emod_of_nonneg (by omega)]
  have c1 := c_isub z17 (48 : Int32); have c2 := rng32 (z17 - (48 : Int32)); rw [e48] at c1
  rw [b4]
  have g17 := rg17 G
  omega
theorem numstep (q : Int64) (z : Int32) (N p P : Int) (hP : p * 10 = P) (hp : 0 < p) (hN : 0 ≤ N ∧ N < 1000000000000000000) (hq : q.toInt = N / P) (hz : z.toInt = 48 + N / p % 10) : ((((10 : Int64) * q) + z.toInt64) - (48 : Int64)).toInt = N / p := by
  have e10 : (10 : Int64).toInt = 10 := rfl
  have e48 : (48 : Int64).toInt = 48 := rfl
  have d1 : N / P = N / p / 10 := by rw [← hP, Int.ediv_ediv_of_nonneg (by omega)]
  have x0 : 0 ≤ N / p := Int.ediv_nonneg hN.1 (by omega)
  have x1 : N / p ≤ N := Int.ediv_le_self _ hN.1
  rw [d1] at hq
  generalize N / p = x at *
  have a := c_lmul (10 : Int64) q; have ar := rng64 ((10 : Int64) * q); rw [e10, hq] at a
  have y1 : ((10 : Int64) * q).toInt = 10 * (x / 10) := by omega
  have i := c_i2l z
  have b := c_ladd ((10 : Int64) * q) z.toInt64; have br := rng64 ((10 : Int64) * q + z.toInt64); rw [y1, i, hz] at b
  have y2 : ((10 : Int64) * q + z.toInt64).toInt = 10 * (x / 10) + (48 + x % 10) := by omega
  have c := c_lsub ((10 : Int64) * q + z.toInt64) (48 : Int64); have cr := rng64 ((10 : Int64) * q + z.toInt64 - (48 : Int64)); rw [y2, e48] at c
  omega

def Sts (Z : State) (h0 : Heap) (zc : Int32) (r99 : Value) (cl : Cell) (pv : Addr) : Prop := Sta Z h0 "java/lang/String" "COMPACT_STRINGS" "Z" (.int zc) ∧ (¬ zc = 0) ∧ Sta Z h0 "jdk/internal/util/Preconditions" "SIOOBE_FORMATTER" "Ljava/util/function/BiFunction;" r99 ∧ r99.isRef = true ∧ Sta Z h0 "com/example/cartonmark/cartonmark/gs1/Sscc" "LENGTHS" "[I" (.ref pv) ∧ Arr Z h0 pv cl .int ∧ cl.slots.size = 1 ∧ cl.slots[0]? = some (.int 18)
def HC (z0 z1 z2 z3 z4 z5 z6 z7 z8 z9 z10 z11 z12 z13 z14 z15 z16 z17 : Int32) : Prop := z17.toInt = 48 + (10 - (3 * (z16.toInt - 48) + (z15.toInt - 48) + 3 * (z14.toInt - 48) + (z13.toInt - 48) + 3 * (z12.toInt - 48) + (z11.toInt - 48) + 3 * (z10.toInt - 48) + (z9.toInt - 48) + 3 * (z8.toInt - 48) + (z7.toInt - 48) + 3 * (z6.toInt - 48) + (z5.toInt - 48) + 3 * (z4.toInt - 48) + (z3.toInt - 48) + 3 * (z2.toInt - 48) + (z1.toInt - 48) + 3 * (z0.toInt - 48)) % 10) % 10
theorem dd (b ck p P : Int) (hP : 10 * p = P) (hp : 0 < p) (hb : 0 ≤ b) (hc : 0 ≤ ck ∧ ck < 10) : (10 * b + ck) / P % 10 = b / p % 10 := by
  have e : (10 * b + ck) / 10 = b := by omega
  rw [← hP, ← Int.ediv_ediv_of_nonneg (by decide), e]
theorem hcOf (b ck : Int) (z0 z1 z2 z3 z4 z5 z6 z7 z8 z9 z10 z11 z12 z13 z14 z15 z16 z17 : Int32) (D : DG (10 * b + ck) z0 z1 z2 z3 z4 z5 z6 z7 z8 z9 z10 z11 z12 z13 z14 z15 z16 z17) (hb : 0 ≤ b) (hck : ck = (10 - SB b % 10) % 10) : HC z0 z1 z2 z3 z4 z5 z6 z7 z8 z9 z10 z11 z12 z13 z14 z15 z16 z17 := by
  have hc : 0 ≤ ck ∧ ck < 10 := by rw [hck]; exact ⟨Int.emod_nonneg _ (by decide), Int.emod_lt_of_pos _ (by decide)⟩
  obtain ⟨d0, d1, d2, d3, d4, d5, d6, d7, d8, d9, d10, d11, d12, d13, d14, d15, d16, d17⟩ := D
  have u16 : z16.toInt - 48 = b / 1 % 10 := by rw [d16, dd b ck 1 10 (by decide) (by decide) hb hc, Int.add_comm, Int.add_sub_cancel]
  have u15 : z15.toInt - 48 = b / 10 % 10 := by rw [d15, dd b ck 10 100 (by decide) (by decide) hb hc, Int.add_comm, Int.add_sub_cancel]
  have u14 : z14.toInt - 48 = b / 100 % 10 := by rw [d14, dd b ck 100 1000 (by decide) (by decide) hb hc, Int.add_comm, Int.add_sub_cancel]
  have u13 : z13.toInt - 48 = b / 1000 % 10 := by rw [d13, dd b ck 1000 10000 (by decide) (by decide) hb hc, Int.add_comm, Int.add_sub_cancel]
  have u12 : z12.toInt - 48 = b / 10000 % 10 := by rw [d12, dd b ck 10000 100000 (by decide) (by decide) hb hc, Int.add_comm, Int.add_sub_cancel]
  have u11 : z11.toInt - 48 = b / 100000 % 10 := by rw [d11, dd b ck 100000 1000000 (by decide) (by decide) hb hc, Int.add_comm, Int.add_sub_cancel]
  have u10 : z10.toInt - 48 = b / 1000000 % 10 := by rw [d10, dd b ck 1000000 10000000 (by decide) (by decide) hb hc, Int.add_comm, Int.add_sub_cancel]
  have u9 : z9.toInt - 48 = b / 10000000 % 10 := by rw [d9, dd b ck 10000000 100000000 (by decide) (by decide) hb hc, Int.add_comm, Int.add_sub_cancel]
  have u8 : z8.toInt - 48 = b / 100000000 % 10 := by rw [d8, dd b ck 100000000 1000000000 (by decide) (by decide) hb hc, Int.add_comm, Int.add_sub_cancel]
  have u7 : z7.toInt - 48 = b / 1000000000 % 10 := by rw [d7, dd b ck 1000000000 10000000000 (by decide) (by decide) hb hc, Int.add_comm, Int.add_sub_cancel]
  have u6 : z6.toInt - 48 = b / 10000000000 % 10 := by rw [d6, dd b ck 10000000000 100000000000 (by decide) (by decide) hb hc, Int.add_comm, Int.add_sub_cancel]
  have u5 : z5.toInt - 48 = b / 100000000000 % 10 := by rw [d5, dd b ck 100000000000 1000000000000 (by decide) (by decide) hb hc, Int.add_comm, Int.add_sub_cancel]
  have u4 : z4.toInt - 48 = b / 1000000000000 % 10 := by rw [d4, dd b ck 1000000000000 10000000000000 (by decide) (by decide) hb hc, Int.add_comm, Int.add_sub_cancel]
  have u3 : z3.toInt - 48 = b / 10000000000000 % 10 := by rw [d3, dd b ck 10000000000000 100000000000000 (by decide) (by decide) hb hc, Int.add_comm, Int.add_sub_cancel]
  have u2 : z2.toInt - 48 = b / 100000000000000 % 10 := by rw [d2, dd b ck 100000000000000 1000000000000000 (by decide) (by decide) hb hc, Int.add_comm, Int.add_sub_cancel]
  have u1 : z1.toInt - 48 = b / 1000000000000000 % 10 := by rw [d1, dd b ck 1000000000000000 10000000000000000 (by decide) (by decide) hb hc, Int.add_comm, Int.add_sub_cancel]
  have u0 : z0.toInt - 48 = b / 10000000000000000 % 10 := by rw [d0, dd b ck 10000000000000000 100000000000000000 (by decide) (by decide) hb hc, Int.add_comm, Int.add_sub_cancel]
  have u17 : (10 * b + ck) / 1 % 10 = ck := by rw [Int.ediv_one]; omega
  unfold HC
  rw [d17, u17, u16, u15, u14, u13, u12, u11, u10, u9, u8, u7, u6, u5, u4, u3, u2, u1, u0]
  exact congrArg (48 + ·) hck

theorem sat : ∀ d ∈ Bundle.stringAtoms, d ∈ tables_1 := by decide +kernel
theorem bodyR (q : Int64) : 0 ≤ ((q &&& (9223372036854775807 : Int64)) % (100000000000000000 : Int64)).toInt ∧ ((q &&& (9223372036854775807 : Int64)) % (100000000000000000 : Int64)).toInt < 100000000000000000 := by
  have h := (c_andSL q (9223372036854775807 : Int64)).2.2 (by decide)
  rw [Int64.toInt_mod, Int.tmod_eq_emod_of_nonneg h]
  exact ⟨Int.emod_nonneg _ (by decide), Int.emod_lt_of_pos _ (by decide)⟩
theorem bodyS (q : Int64) (h : 0 ≤ q.toInt ∧ q.toInt < 100000000000000000) : 0 ≤ ((q + (1 : Int64)) % (100000000000000000 : Int64)).toInt ∧ ((q + (1 : Int64)) % (100000000000000000 : Int64)).toInt < 100000000000000000 := by
  have e1 : (1 : Int64).toInt = 1 := rfl
  have a := c_ladd q (1 : Int64); have r := rng64 (q + 1)
  have y : (q + (1 : Int64)).toInt = q.toInt + 1 := by rw [e1] at a; omega
  rw [Int64.toInt_mod, Int.tmod_eq_emod_of_nonneg (by omega)]
  exact ⟨Int.emod_nonneg _ (by decide), Int.emod_lt_of_pos _ (by decide)⟩
theorem numR (q : Int64) (z : Int32) (h : 0 ≤ q.toInt ∧ q.toInt < 100000000000000000) (hz : z.toInt = (10 - SB q.toInt % 10) % 10) : (((10 : Int64) * q) + z.toInt64).toInt = 10 * q.toInt + (10 - SB q.toInt % 10) % 10 ∧ 0 ≤ (((10 : Int64) * q) + z.toInt64).toInt ∧ (((10 : Int64) * q) + z.toInt64).toInt < 1000000000000000000 := by
  have e10 : (10 : Int64).toInt = 10 := rfl
  have c : 0 ≤ (10 - SB q.toInt % 10) % 10 ∧ (10 - SB q.toInt % 10) % 10 < 10 := ⟨Int.emod_nonneg _ (by decide), Int.emod_lt_of_pos _ (by decide)⟩
  generalize (10 - SB q.toInt % 10) % 10 = C at *
  have a := c_lmul (10 : Int64) q; have ar := rng64 ((10 : Int64) * q); rw [e10] at a
  have y1 : ((10 : Int64) * q).toInt = 10 * q.toInt := by omega
  have i := c_i2l z
  have b := c_ladd ((10 : Int64) * q) z.toInt64; have br := rng64 ((10 : Int64) * q + z.toInt64); rw [y1, i, hz] at b
  have y2 : ((10 : Int64) * q + z.toInt64).toInt = 10 * q.toInt + C := by omega
  rw [y2]; exact ⟨rfl, by omega, by omega⟩

abbrev mem1 (x0 : Addr) (x1 : Int32) : Mem := [ar x0 .char [(.int (nar .char (((48 : Int32) + x1).toUInt32.toUInt16.toUInt32.toInt32))), (.int (0 : Int32)), (.int (0 : Int32)), (.int (0 : Int32)), (.int (0 : Int32)), (.int (0 : Int32)), (.int (0 : Int32)), (.int (0 : Int32)), (.int (0 : Int32)), (.int (0 : Int32)), (.int (0 : Int32)), (.int (0 : Int32)), (.int (0 : Int32)), (.int (0 : Int32)), (.int (0 : Int32)), (.int (0 : Int32)), (.int (0 : Int32)), (.int (0 : Int32))]]
abbrev mem2 (x0 : Addr) (x1 : Int32) (x2 : Int32) : Mem := [ar x0 .char [(.int (nar .char (((48 : Int32) + x1).toUInt32.toUInt16.toUInt32.toInt32))), (.int (nar .char (((48 : Int32) + x2).toUInt32.toUInt16.toUInt32.toInt32))), (.int (0 : Int32)), (.int (0 : Int32)), (.int (0 : Int32)), (.int (0 : Int32)), (.int (0 : Int32)), (.int (0 : Int32)), (.int (0 : Int32)), (.int (0 : Int32)), (.int (0 : Int32)), (.int (0 : Int32)), (.int (0 : Int32)), (.int (0 : Int32)), (.int (0 : Int32)), (.int (0 : Int32)), (.int (0 : Int32)), (.int (0 : Int32))]]
abbrev mem3 (x0 : Addr) (x1 : Int32) (x2 : Int32) (x3 : Int32) : Mem := [ar x0 .char [(.int (nar .char (((48 : Int32) + x1).toUInt32.toUInt16.toUInt32.toInt32))), (.int (nar .char (((48 : Int32) + x2).toUInt32.toUInt16.toUInt32.toInt32))), (.int (nar .char (((48 : Int32) + x3).toUInt32.toUInt16.toUInt32.toInt32))), (.int (0 : Int32)), (.int (0 : Int32)), (.int (0 : Int32)), (.int (0 : Int32)), (.int (0 : Int32)), (.int (0 : Int32)), (.int (0 : Int32)), (.int (0 : Int32)), (.int (0 : Int32)), (.int (0 : Int32)), (.int (0 : Int32)), (.int (0 : Int32)), (.int (0 : Int32)), (.int (0 : Int32)), (.int (0 : Int32))]]
abbrev mem4 (x0 : Addr) (x1 : Int32) (x2 : Int32) (x3 : Int32) (x4 : Int32) : Mem := [ar x0 .char [(.int (nar .char (((48 : Int32) + x1).toUInt32.toUInt16.toUInt32.toInt32))), (.int (nar .char (((48 : Int32) + x2).toUInt32.toUInt16.toUInt32.toInt32))), (.int (nar .char (((48 : Int32) + x3).toUInt32.toUInt16.toUInt32.toInt32))), (.int (nar .char (((48 : Int32) + x4).toUInt32.toUInt16.toUInt32.toInt32))), (.int (0 : Int32)), (.int (0 : Int32)), (.int (0 : Int32)), (.int (0 : Int32)), (.int (0 : Int32)), (.int (0 : Int32)), (.int (0 : Int32)), (.int (0 : Int32)), (.int (0 : Int32)), (.int (0 : Int32)), (.int (0 : Int32)), (.int (0 : Int32)), (.int (0 : Int32)), (.int (0 : Int32))]]
abbrev mem5 (x0 : Addr) (x1 : Int32) (x2 : Int32) (x3 : Int32) (x4 : Int32) (x5 : Int32) : Mem := [ar x0 .char [(.int (nar .char (((48 : Int32) + x1).toUInt32.toUInt16.toUInt32.toInt32))), (.int (nar .char (((48 : Int32) + x2).toUInt32.toUInt16.toUInt32.toInt32))), (.int (nar .char (((48 : Int32) + x3).toUInt32.toUInt16.toUInt32.toInt32))), (.int (nar .char (((48 : Int32) + x4).toUInt32.toUInt16.toUInt32.toInt32))), (.int (nar .char (((48 : Int32) + x5).toUInt32.toUInt16.toUInt32.toInt32))), (.int (0 : Int32)), (.int (0 : Int32)), (.int (0 : Int32)), (.int (0 : Int32)), (.int (0 : Int32)), (.int (0 : Int32)), (.int (0 : Int32)), (.int (0 : Int32)), (.int (0 : Int32)), (.int (0 : Int32)), (.int (0 : Int32)), (.int (0 : Int32)), (.int (0 : Int32))]]
abbrev mem6 (x0 : Addr) (x1 : Int32) (x2 : Int32) (x3 : Int32) (x4 : Int32) (x5 : Int32) (x6 : Int32) : Mem := [ar x0 .char [(.int (nar .char (((48 : Int32) + x1).toUInt32.toUInt16.toUInt32.toInt32))), (.int (nar .char (((48 : Int32) + x2).toUInt32.toUInt16.toUInt32.toInt32))), (.int (nar .char (((48 : Int32) + x3).toUInt32.toUInt16.toUInt32.toInt32))), (.int (nar .char (((48 : Int32) + x4).toUInt32.toUInt16.toUInt32.toInt32))), (.int (nar .char (((48 : Int32) + x5).toUInt32.toUInt16.toUInt32.toInt32))), (.int (nar .char (((48 : Int32) + x6).toUInt32.toUInt16.toUInt32.toInt32))), (.int (0 : Int32)), (.int (0 : Int32)), (.int (0 : Int32)), (.int (0 : Int32)), (.int (0 : Int32)), (.int (0 : Int32)), (.int (0 : Int32)), (.int (0 : Int32)), (.int (0 : Int32)), (.int (0 : Int32)), (.int (0 : Int32)), (.int (0 : Int32))]]
abbrev mem7 (x0 : Addr) (x1 : Int32) (x2 : Int32) (x3 : Int32) (x4 : Int32) (x5 : Int32) (x6 : Int32) (x7 : Int32) : Mem := [ar x0 .char [(.int (nar .char (((48 : Int32) + x1).toUInt32.toUInt16.toUInt32.toInt32))), (.int (nar .char (((48 : Int32) + x2).toUInt32.toUInt16.toUInt32.toInt32))), (.int (nar .char (((48 : Int32) + x3).toUInt32.toUInt16.toUInt32.toInt32))), (.int (nar .char (((48 : Int32) + x4).toUInt32.toUInt16.toUInt32.toInt32))), (.int (nar .char (((48 : Int32) + x5).toUInt32.toUInt16.toUInt32.toInt32))), (.int (nar .char (((48 : Int32) + x6).toUInt32.toUInt16.toUInt32.toInt32))), (.int (nar .char (((48 : Int32) + x7).toUInt32.toUInt16.toUInt32.toInt32))), (.int (0 : Int32)), (.int (0 : Int32)), (.int (0 : Int32)), (.int (0 : Int32)), (.int (0 : Int32)), (.int (0 : Int32)), (.int (0 : Int32)), (.int (0 : Int32)), (.int (0 : Int32)), (.int (0 : Int32)), (.int (0 : Int32))]]
abbrev mem8 (x0 : Addr) (x1 : Int32) (x2 : Int32) (x3 : Int32) (x4 : Int32) (x5 : Int32) (x6 : Int32) (x7 : Int32) (x8 : Int32) : Mem := [ar x0 .char [(.int (nar .char (((48 : Int32) + x1).toUInt32.toUInt16.toUInt32.toInt32))), (.int (nar .char (((48 : Int32) + x2).toUInt32.toUInt16.toUInt32.toInt32))), (.int (nar .char (((48 : Int32) + x3).toUInt32.toUInt16.toUInt32.toInt32))), (.int (nar .char (((48 : Int32) + x4).toUInt32.toUInt16.toUInt32.toInt32))), (.int (nar .char (((48 : Int32) + x5).toUInt32.toUInt16.toUInt32.toInt32))), (.int (nar .char (((48 : Int32) + x6).toUInt32.toUInt16.toUInt32.toInt32))), (.int (nar .char (((48 : Int32) + x7).toUInt32.toUInt16.toUInt32.toInt32))), (.int (nar .char (((48 : Int32) + x8).toUInt32.toUInt16.toUInt32.toInt32))), (.int (0 : Int32)), (.int (0 : Int32)), (.int (0 : Int32)), (.int (0 : Int32)), (.int (0 : Int32)), (.int (0 : Int32)), (.int (0 : Int32)), (.int (0 : Int32)), (.int (0 : Int32)), (.int (0 : Int32))]]
abbrev mem9 (x0 : Addr) (x1 : Int32) (x2 : Int32) (x3 : Int32) (x4 : Int32) (x5 : Int32) (x6 : Int32) (x7 : Int32) (x8 : Int32) (x9 : Int32) : Mem := [ar x0 .char [(.int (nar .char (((48 : Int32) + x1).toUInt32.toUInt16.toUInt32.toInt32))), (.int (nar .char (((48 : Int32) + x2).toUInt32.toUInt16.toUInt32.toInt32))), (.int (nar .char (((48 : Int32) + x3).toUInt32.toUInt16.toUInt32.toInt32))), (.int (nar .char (((48 : Int32) + x4).toUInt32.toUInt16.toUInt32.toInt32))), (.int (nar .char (((48 : Int32) + x5).toUInt32.toUInt16.toUInt32.toInt32))), (.int (nar .char (((48 : Int32) + x6).toUInt32.toUInt16.toUInt32.toInt32))), (.int (nar .char (((48 : Int32) + x7).toUInt32.toUInt16.toUInt32.toInt32))), (.int (nar .char (((48 : Int32) + x8).toUInt32.toUInt16.toUInt32.toInt32))), (.int (nar .char (((48 : Int32) + x9).toUInt32.toUInt16.toUInt32.toInt32))), (.int (0 : Int32)), (.int (0 : Int32)), (.int (0 : Int32)), (.int (0 : Int32)), (.int (0 : Int32)), (.int (0 : Int32)), (.int (0 : Int32)), (.int (0 : Int32)), (.int (0 : Int32))]]
abbrev mem10 (x0 : Addr) (x1 : Int32) (x2 : Int32) (x3 : Int32) (x4 : Int32) (x5 : Int32) (x6 : Int32) (x7 : Int32) (x8 : Int32) (x9 : Int32) (x10 : Int32) : Mem := [ar x0 .char [(.int (nar .char (((48 : Int32) + x1).toUInt32.toUInt16.toUInt32.toInt32))), (.int (nar .char (((48 : Int32) + x2).toUInt32.toUInt16.toUInt32.toInt32))), (.int (nar .char (((48 : Int32) + x3).toUInt32.toUInt16.toUInt32.toInt32))), (.int (nar .char (((48 : Int32) + x4).toUInt32.toUInt16.toUInt32.toInt32))), (.int (nar .char (((48 : Int32) + x5).toUInt32.toUInt16.toUInt32.toInt32))), (.int (nar .char (((48 : Int32) + x6).toUInt32.toUInt16.toUInt32.toInt32))), (.int (nar .char (((48 : Int32) + x7).toUInt32.toUInt16.toUInt32.toInt32))), (.int (nar .char (((48 : Int32) + x8).toUInt32.toUInt16.toUInt32.toInt32))), (.int (nar .char (((48 : Int32) + x9).toUInt32.toUInt16.toUInt32.toInt32))), (.int (nar .char (((48 : Int32) + x10).toUInt32.toUInt16.toUInt32.toInt32))), (.int (0 : Int32)), (.int (0 : Int32)), (.int (0 : Int32)), (.int (0 : Int32)), (.int (0 : Int32)), (.int (0 : Int32)), (.int (0 : Int32)), (.int (0 : Int32))]]
abbrev mem11 (x0 : Addr) (x1 : Int32) (x2 : Int32) (x3 : Int32) (x4 : Int32) (x5 : Int32) (x6 : Int32) (x7 : Int32) (x8 : Int32) (x9 : Int32) (x10 : Int32) (x11 : Int32) : Mem := [ar x0 .char [(.int (nar .char (((48 : Int32) + x1).toUInt32.toUInt16.toUInt32.toInt32))), (.int (nar .char (((48 : Int32) + x2).toUInt32.toUInt16.toUInt32.toInt32))), (.int (nar .char (((48 : Int32) + x3).toUInt32.toUInt16.toUInt32.toInt32))), (.int (nar .char (((48 : Int32) + x4).toUInt32.toUInt16.toUInt32.toInt32))), (.int (nar .char (((48 : Int32) + x5).toUInt32.toUInt16.toUInt32.toInt32))), (.int (nar .char (((48 : Int32) + x6).toUInt32.toUInt16.toUInt32.toInt32))), (.int (nar .char (((48 : Int32) + x7).toUInt32.toUInt16.toUInt32.toInt32))), (.int (nar .char (((48 : Int32) + x8).toUInt32.toUInt16.toUInt32.toInt32))), (.int (nar .char (((48 : Int32) + x9).toUInt32.toUInt16.toUInt32.toInt32))), (.int (nar .char (((48 : Int32) + x10).toUInt32.toUInt16.toUInt32.toInt32))), (.int (nar .char (((48 : Int32) + x11).toUInt32.toUInt16.toUInt32.toInt32))), (.int (0 : Int32)), (.int (0 : Int32)), (.int (0 : Int32)), (.int (0 : Int32)), (.int (0 : Int32)), (.int (0 : Int32)), (.int (0 : Int32))]]
abbrev mem12 (x0 : Addr) (x1 : Int32) (x2 : Int32) (x3 : Int32) (x4 : Int32) (x5 : Int32) (x6 : Int32) (x7 : Int32) (x8 : Int32) (x9 : Int32) (x10 : Int32) (x11 : Int32) (x12 : Int32) : Mem := [ar x0 .char [(.int (nar .char (((48 : Int32) + x1).toUInt32.toUInt16.toUInt32.toInt32))), (.int (nar .char (((48 : Int32) + x2).toUInt32.toUInt16.toUInt32.toInt32))), (.int (nar .char (((48 : Int32) + x3).toUInt32.toUInt16.toUInt32.toInt32))), (.int (nar .char (((48 : Int32) + x4).toUInt32.toUInt16.toUInt32.toInt32))), (.int (nar .char (((48 : Int32) + x5).toUInt32.toUInt16.toUInt32.toInt32))), (.int (nar .char (((48 : Int32) + x6).toUInt32.toUInt16.toUInt32.toInt32))), (.int (nar .char (((48 : Int32) + x7).toUInt32.toUInt16.toUInt32.toInt32))), (.int (nar .char (((48 : Int32) + x8).toUInt32.toUInt16.toUInt32.toInt32))), (.int (nar .char (((48 : Int32) + x9).toUInt32.toUInt16.toUInt32.toInt32))), (.int (nar .char (((48 : Int32) + x10).toUInt32.toUInt16.toUInt32.toInt32))), (.int (nar .char (((48 : Int32) + x11).toUInt32.toUInt16.toUInt32.toInt32))), (.int (nar .char (((48 : Int32) + x12).toUInt32.toUInt16.toUInt32.toInt32))), (.int (0 : Int32)), (.int (0 : Int32)), (.int (0 : Int32)), (.int (0 : Int32)), (.int (0 : Int32)), (.int (0 : Int32))]]
abbrev mem13 (x0 : Addr) (x1 : Int32) (x2 : Int32) (x3 : Int32) (x4 : Int32) (x5 : Int32) (x6 : Int32) (x7 : Int32) (x8 : Int32) (x9 : Int32) (x10 : Int32) (x11 : Int32) (x12 : Int32) (x13 : Int32) : Mem := [ar x0 .char [(.int (nar .char (((48 : Int32) + x1).toUInt32.toUInt16.toUInt32.toInt32))), (.int (nar .char (((48 : Int32) + x2).toUInt32.toUInt16.toUInt32.toInt32))), (.int (nar .char (((48 : Int32) + x3).toUInt32.toUInt16.toUInt32.toInt32))), (.int (nar .char (((48 : Int32) + x4).toUInt32.toUInt16.toUInt32.toInt32))), (.int (nar .char (((48 : Int32) + x5).toUInt32.toUInt16.toUInt32.toInt32))), (.int (nar .char (((48 : Int32) + x6).toUInt32.toUInt16.toUInt32.toInt32))), (.int (nar .char (((48 : Int32) + x7).toUInt32.toUInt16.toUInt32.toInt32))), (.int (nar .char (((48 : Int32) + x8).toUInt32.toUInt16.toUInt32.toInt32))), (.int (nar .char (((48 : Int32) + x9).toUInt32.toUInt16.toUInt32.toInt32))), (.int (nar .char (((48 : Int32) + x10).toUInt32.toUInt16.toUInt32.toInt32))), (.int (nar .char (((48 : Int32) + x11).toUInt32.toUInt16.toUInt32.toInt32))), (.int (nar .char (((48 : Int32) + x12).toUInt32.toUInt16.toUInt32.toInt32))), (.int (nar .char (((48 : Int32) + x13).toUInt32.toUInt16.toUInt32.toInt32))), (.int (0 : Int32)), (.int (0 : Int32)), (.int (0 : Int32)), (.int (0 : Int32)), (.int (0 : Int32))]]
abbrev mem14 (x0 : Addr) (x1 : Int32) (x2 : Int32) (x3 : Int32) (x4 : Int32) (x5 : Int32) (x6 : Int32) (x7 : Int32) (x8 : Int32) (x9 : Int32) (x10 : Int32) (x11 : Int32) (x12 : Int32) (x13 : Int32) (x14 : Int32) : Mem := [ar x0 .char [(.int (nar .char (((48 : Int32) + x1).toUInt32.toUInt16.toUInt32.toInt32))), (.int (nar .char (((48 : Int32) + x2).toUInt32.toUInt16.toUInt32.toInt32))), (.int (nar .char (((48 : Int32) + x3).toUInt32.toUInt16.toUInt32.toInt32))), (.int (nar .char (((48 : Int32) + x4).toUInt32.toUInt16.toUInt32.toInt32))), (.int (nar .char (((48 : Int32) + x5).toUInt32.toUInt16.toUInt32.toInt32))), (.int (nar .char (((48 : Int32) + x6).toUInt32.toUInt16.toUInt32.toInt32))), (.int (nar .char (((48 : Int32) + x7).toUInt32.toUInt16.toUInt32.toInt32))), (.int (nar .char (((48 : Int32) + x8).toUInt32.toUInt16.toUInt32.toInt32))), (.int (nar .char (((48 : Int32) + x9).toUInt32.toUInt16.toUInt32.toInt32))), (.int (nar .char (((48 : Int32) + x10).toUInt32.toUInt16.toUInt32.toInt32))), (.int (nar .char (((48 : Int32) + x11).toUInt32.toUInt16.toUInt32.toInt32))), (.int (nar .char (((48 : Int32) + x12).toUInt32.toUInt16.toUInt32.toInt32))), (.int (nar .char (((48 : Int32) + x13).toUInt32.toUInt16.toUInt32.toInt32))), (.int (nar .char (((48 : Int32) + x14).toUInt32.toUInt16.toUInt32.toInt32))), (.int (0 : Int32)), (.int (0 : Int32)), (.int (0 : Int32)), (.int (0 : Int32))]]
abbrev mem15 (x0 : Addr) (x1 : Int32) (x2 : Int32) (x3 : Int32) (x4 : Int32) (x5 : Int32) (x6 : Int32) (x7 : Int32) (x8 : Int32) (x9 : Int32) (x10 : Int32) (x11 : Int32) (x12 : Int32) (x13 : Int32) (x14 : Int32) (x15 : Int32) : Mem := [ar x0 .char [(.int (nar .char (((48 : Int32) + x1).toUInt32.toUInt16.toUInt32.toInt32))), (.int (nar .char (((48 : Int32) + x2).toUInt32.toUInt16.toUInt32.toInt32))), (.int (nar .char (((48 : Int32) + x3).toUInt32.toUInt16.toUInt32.toInt32))), (.int (nar .char (((48 : Int32) + x4).toUInt32.toUInt16.toUInt32.toInt32))), (.int (nar .char (((48 : Int32) + x5).toUInt32.toUInt16.toUInt32.toInt32))), (.int (nar .char (((48 : Int32) + x6).toUInt32.toUInt16.toUInt32.toInt32))), (.int (nar .char (((48 : Int32) + x7).toUInt32.toUInt16.toUInt32.toInt32))), (.int (nar .char (((48 : Int32) + x8).toUInt32.toUInt16.toUInt32.toInt32))), (.int (nar .char (((48 : Int32) + x9).toUInt32.toUInt16.toUInt32.toInt32))), (.int (nar .char (((48 : Int32) + x10).toUInt32.toUInt16.toUInt32.toInt32))), (.int (nar .char (((48 : Int32) + x11).toUInt32.toUInt16.toUInt32.toInt32))), (.int (nar .char (((48 : Int32) + x12).toUInt32.toUInt16.toUInt32.toInt32))), (.int (nar .char (((48 : Int32) + x13).toUInt32.toUInt16.toUInt32.toInt32))), (.int (nar .char (((48 : Int32) + x14).toUInt32.toUInt16.toUInt32.toInt32))), (.int (nar .char (((48 : Int32) + x15).toUInt32.toUInt16.toUInt32.toInt32))), (.int (0 : Int32)), (.int (0 : Int32)), (.int (0 : Int32))]]
abbrev mem16 (x0 : Addr) (x1 : Int32) (x2 : Int32) (x3 : Int32) (x4 : Int32) (x5 : Int32) (x6 : Int32) (x7 : Int32) (x8 : Int32) (x9 : Int32) (x10 : Int32) (x11 : Int32) (x12 : Int32) (x13 : Int32) (x14 : Int32) (x15 : Int32) (x16 : Int32) : Mem := [ar x0 .char [(.int (nar .char (((48 : Int32) + x1).toUInt32.toUInt16.toUInt32.toInt32))), (.int (nar .char (((48 : Int32) + x2).toUInt32.toUInt16.toUInt32.toInt32))), (.int (nar .char (((48 : Int32) + x3).toUInt32.toUInt16.toUInt32.toInt32))), (.int (nar .char (((48 : Int32) + x4).toUInt32.toUInt16.toUInt32.toInt32))), (.int (nar .char (((48 : Int32) + x5).toUInt32.toUInt16.toUInt32.toInt32))), (.int (nar .char (((48 : Int32) + x6).toUInt32.toUInt16.toUInt32.toInt32))), (.int (nar .char (((48 : Int32) + x7).toUInt32.toUInt16.toUInt32.toInt32))), (.int (nar .char (((48 : Int32) + x8).toUInt32.toUInt16.toUInt32.toInt32))), (.int (nar .char (((48 : Int32) + x9).toUInt32.toUInt16.toUInt32.toInt32))), (.int (nar .char (((48 : Int32) + x10).toUInt32.toUInt16.toUInt32.toInt32))), (.int (nar .char (((48 : Int32) + x11).toUInt32.toUInt16.toUInt32.toInt32))), (.int (nar .char (((48 : Int32) + x12).toUInt32.toUInt16.toUInt32.toInt32))), (.int (nar .char (((48 : Int32) + x13).toUInt32.toUInt16.toUInt32.toInt32))), (.int (nar .char (((48 : Int32) + x14).toUInt32.toUInt16.toUInt32.toInt32))), (.int (nar .char (((48 : Int32) + x15).toUInt32.toUInt16.toUInt32.toInt32))), (.int (nar .char (((48 : Int32) + x16).toUInt32.toUInt16.toUInt32.toInt32))), (.int (0 : Int32)), (.int (0 : Int32))]]
abbrev mem17 (x0 : Addr) (x1 : Int32) (x2 : Int32) (x3 : Int32) (x4 : Int32) (x5 : Int32) (x6 : Int32) (x7 : Int32) (x8 : Int32) (x9 : Int32) (x10 : Int32) (x11 : Int32) (x12 : Int32) (x13 : Int32) (x14 : Int32) (x15 : Int32) (x16 : Int32) (x17 : Int32) : Mem := [ar x0 .char [(.int (nar .char (((48 : Int32) + x1).toUInt32.toUInt16.toUInt32.toInt32))), (.int (nar .char (((48 : Int32) + x2).toUInt32.toUInt16.toUInt32.toInt32))), (.int (nar .char (((48 : Int32) + x3).toUInt32.toUInt16.toUInt32.toInt32))), (.int (nar .char (((48 : Int32) + x4).toUInt32.toUInt16.toUInt32.toInt32))), (.int (nar .char (((48 : Int32) + x5).toUInt32.toUInt16.toUInt32.toInt32))), (.int (nar .char (((48 : Int32) + x6).toUInt32.toUInt16.toUInt32.toInt32))), (.int (nar .char (((48 : Int32) + x7).toUInt32.toUInt16.toUInt32.toInt32))), (.int (nar .char (((48 : Int32) + x8).toUInt32.toUInt16.toUInt32.toInt32))), (.int (nar .char (((48 : Int32) + x9).toUInt32.toUInt16.toUInt32.toInt32))), (.int (nar .char (((48 : Int32) + x10).toUInt32.toUInt16.toUInt32.toInt32))), (.int (nar .char (((48 : Int32) + x11).toUInt32.toUInt16.toUInt32.toInt32))), (.int (nar .char (((48 : Int32) + x12).toUInt32.toUInt16.toUInt32.toInt32))), (.int (nar .char (((48 : Int32) + x13).toUInt32.toUInt16.toUInt32.toInt32))), (.int (nar .char (((48 : Int32) + x14).toUInt32.toUInt16.toUInt32.toInt32))), (.int (nar .char (((48 : Int32) + x15).toUInt32.toUInt16.toUInt32.toInt32))), (.int (nar .char (((48 : Int32) + x16).toUInt32.toUInt16.toUInt32.toInt32))), (.int (nar .char (((48 : Int32) + x17).toUInt32.toUInt16.toUInt32.toInt32))), (.int (0 : Int32))]]
abbrev mem18 (x0 : Addr) (x1 : Int32) (x2 : Int32) (x3 : Int32) (x4 : Int32) (x5 : Int32) (x6 : Int32) (x7 : Int32) (x8 : Int32) (x9 : Int32) (x10 : Int32) (x11 : Int32) (x12 : Int32) (x13 : Int32) (x14 : Int32) (x15 : Int32) (x16 : Int32) (x17 : Int32) (x18 : Int32) : Mem := [ar x0 .char [(.int (nar .char (((48 : Int32) + x1).toUInt32.toUInt16.toUInt32.toInt32))), (.int (nar .char (((48 : Int32) + x2).toUInt32.toUInt16.toUInt32.toInt32))), (.int (nar .char (((48 : Int32) + x3).toUInt32.toUInt16.toUInt32.toInt32))), (.int (nar .char (((48 : Int32) + x4).toUInt32.toUInt16.toUInt32.toInt32))), (.int (nar .char (((48 : Int32) + x5).toUInt32.toUInt16.toUInt32.toInt32))), (.int (nar .char (((48 : Int32) + x6).toUInt32.toUInt16.toUInt32.toInt32))), (.int (nar .char (((48 : Int32) + x7).toUInt32.toUInt16.toUInt32.toInt32))), (.int (nar .char (((48 : Int32) + x8).toUInt32.toUInt16.toUInt32.toInt32))), (.int (nar .char (((48 : Int32) + x9).toUInt32.toUInt16.toUInt32.toInt32))), (.int (nar .char (((48 : Int32) + x10).toUInt32.toUInt16.toUInt32.toInt32))), (.int (nar .char (((48 : Int32) + x11).toUInt32.toUInt16.toUInt32.toInt32))), (.int (nar .char (((48 : Int32) + x12).toUInt32.toUInt16.toUInt32.toInt32))), (.int (nar .char (((48 : Int32) + x13).toUInt32.toUInt16.toUInt32.toInt32))), (.int (nar .char (((48 : Int32) + x14).toUInt32.toUInt16.toUInt32.toInt32))), (.int (nar .char (((48 : Int32) + x15).toUInt32.toUInt16.toUInt32.toInt32))), (.int (nar .char (((48 : Int32) + x16).toUInt32.toUInt16.toUInt32.toInt32))), (.int (nar .char (((48 : Int32) + x17).toUInt32.toUInt16.toUInt32.toInt32))), (.int (nar .char (((48 : Int32) + x18).toUInt32.toUInt16.toUInt32.toInt32)))]]
abbrev mem19 (x0 : Addr) (x1 : Addr) (x2 : Int32) (x3 : Int32) (x4 : Int32) (x5 : Int32) (x6 : Int32) (x7 : Int32) (x8 : Int32) (x9 : Int32) (x10 : Int32) (x11 : Int32) (x12 : Int32) (x13 : Int32) (x14 : Int32) (x15 : Int32) (x16 : Int32) (x17 : Int32) (x18 : Int32) (x19 : Int32) : Mem := [ob x0 "java/lang/String" [("java/lang/String", "value", "[B", (.ref x1)), ("java/lang/String", "coder", "B", (.int (0 : Int32)))], ar x1 .byte [(.int (x2.toInt8.toInt32)), (.int (x3.toInt8.toInt32)), (.int (x4.toInt8.toInt32)), (.int (x5.toInt8.toInt32)), (.int (x6.toInt8.toInt32)), (.int (x7.toInt8.toInt32)), (.int (x8.toInt8.toInt32)), (.int (x9.toInt8.toInt32)), (.int (x10.toInt8.toInt32)), (.int (x11.toInt8.toInt32)), (.int (x12.toInt8.toInt32)), (.int (x13.toInt8.toInt32)), (.int (x14.toInt8.toInt32)), (.int (x15.toInt8.toInt32)), (.int (x16.toInt8.toInt32)), (.int (x17.toInt8.toInt32)), (.int (x18.toInt8.toInt32)), (.int (x19.toInt8.toInt32))]]
abbrev mem20 (x0 : Addr) (x1 : Int32) (x2 : Int32) (x3 : Int32) (x4 : Int32) (x5 : Int32) (x6 : Int32) (x7 : Int32) (x8 : Int32) (x9 : Int32) (x10 : Int32) (x11 : Int32) (x12 : Int32) (x13 : Int32) (x14 : Int32) (x15 : Int32) (x16 : Int32) (x17 : Int32) (x18 : Int32) (x19 : Addr) : Mem := [ar x0 .byte [(.int (x1.toInt8.toInt32)), (.int (x2.toInt8.toInt32)), (.int (x3.toInt8.toInt32)), (.int (x4.toInt8.toInt32)), (.int (x5.toInt8.toInt32)), (.int (x6.toInt8.toInt32)), (.int (x7.toInt8.toInt32)), (.int (x8.toInt8.toInt32)), (.int (x9.toInt8.toInt32)), (.int (x10.toInt8.toInt32)), (.int (x11.toInt8.toInt32)), (.int (x12.toInt8.toInt32)), (.int (x13.toInt8.toInt32)), (.int (x14.toInt8.toInt32)), (.int (x15.toInt8.toInt32)), (.int (x16.toInt8.toInt32)), (.int (x17.toInt8.toInt32)), (.int (x18.toInt8.toInt32))], ob x19 "java/lang/String" [("java/lang/String", "value", "[B", (.ref x0)), ("java/lang/String", "coder", "B", (.int (0 : Int32)))]]
abbrev mem21 (x0 : Addr) (x1 : Int32) (x2 : Int32) (x3 : Int32) (x4 : Int32) (x5 : Int32) (x6 : Int32) (x7 : Int32) (x8 : Int32) (x9 : Int32) (x10 : Int32) (x11 : Int32) (x12 : Int32) (x13 : Int32) (x14 : Int32) (x15 : Int32) (x16 : Int32) (x17 : Int32) (x18 : Int32) : Mem := [ar x0 .byte [(.int (x1.toInt8.toInt32)), (.int (x2.toInt8.toInt32)), (.int (x3.toInt8.toInt32)), (.int (x4.toInt8.toInt32)), (.int (x5.toInt8.toInt32)), (.int (x6.toInt8.toInt32)), (.int (x7.toInt8.toInt32)), (.int (x8.toInt8.toInt32)), (.int (x9.toInt8.toInt32)), (.int (x10.toInt8.toInt32)), (.int (x11.toInt8.toInt32)), (.int (x12.toInt8.toInt32)), (.int (x13.toInt8.toInt32)), (.int (x14.toInt8.toInt32)), (.int (x15.toInt8.toInt32)), (.int (x16.toInt8.toInt32)), (.int (x17.toInt8.toInt32)), (.int (x18.toInt8.toInt32))]]
abbrev mem22 (x0 : Addr) (x1 : Int64) (x2 : Addr) (x3 : Addr) (x4 : Int32) (x5 : Int32) (x6 : Int32) (x7 : Int32) (x8 : Int32) (x9 : Int32) (x10 : Int32) (x11 : Int32) (x12 : Int32) (x13 : Int32) (x14 : Int32) (x15 : Int32) (x16 : Int32) (x17 : Int32) (x18 : Int32) (x19 : Int32) (x20 : Int32) (x21 : Int32) : Mem := [ob x0 "com/example/cartonmark/cartonmark/gs1/Sscc" [("com/example/cartonmark/cartonmark/gs1/SsccDigits", "number", "J", (.long x1))], ob x2 "java/lang/String" [("java/lang/String", "value", "[B", (.ref x3)), ("java/lang/String", "coder", "B", (.int (0 : Int32)))], ar x3 .byte [(.int (x4.toInt8.toInt32)), (.int (x5.toInt8.toInt32)), (.int (x6.toInt8.toInt32)), (.int (x7.toInt8.toInt32)), (.int (x8.toInt8.toInt32)), (.int (x9.toInt8.toInt32)), (.int (x10.toInt8.toInt32)), (.int (x11.toInt8.toInt32)), (.int (x12.toInt8.toInt32)), (.int (x13.toInt8.toInt32)), (.int (x14.toInt8.toInt32)), (.int (x15.toInt8.toInt32)), (.int (x16.toInt8.toInt32)), (.int (x17.toInt8.toInt32)), (.int (x18.toInt8.toInt32)), (.int (x19.toInt8.toInt32)), (.int (x20.toInt8.toInt32)), (.int (x21.toInt8.toInt32))]]
abbrev mem23 (x0 : Addr) (x1 : Addr) (x2 : Addr) (x3 : Int32) (x4 : Int32) (x5 : Int32) (x6 : Int32) (x7 : Int32) (x8 : Int32) (x9 : Int32) (x10 : Int32) (x11 : Int32) (x12 : Int32) (x13 : Int32) (x14 : Int32) (x15 : Int32) (x16 : Int32) (x17 : Int32) (x18 : Int32) (x19 : Int32) (x20 : Int32) : Mem := [ob x0 "com/example/cartonmark/cartonmark/gs1/Sscc" [("com/example/cartonmark/cartonmark/gs1/SsccDigits", "number", "J", (.long (0 : Int64)))], ob x1 "java/lang/String" [("java/lang/String", "value", "[B", (.ref x2)), ("java/lang/String", "coder", "B", (.int (0 : Int32)))], ar x2 .byte [(.int (x3.toInt8.toInt32)), (.int (x4.toInt8.toInt32)), (.int (x5.toInt8.toInt32)), (.int (x6.toInt8.toInt32)), (.int (x7.toInt8.toInt32)), (.int (x8.toInt8.toInt32)), (.int (x9.toInt8.toInt32)), (.int (x10.toInt8.toInt32)), (.int (x11.toInt8.toInt32)), (.int (x12.toInt8.toInt32)), (.int (x13.toInt8.toInt32)), (.int (x14.toInt8.toInt32)), (.int (x15.toInt8.toInt32)), (.int (x16.toInt8.toInt32)), (.int (x17.toInt8.toInt32)), (.int (x18.toInt8.toInt32)), (.int (x19.toInt8.toInt32)), (.int (x20.toInt8.toInt32))]]
abbrev mem24 (x0 : Addr) (x1 : Addr) (x2 : Int32) (x3 : Int32) (x4 : Int32) (x5 : Int32) (x6 : Int32) (x7 : Int32) (x8 : Int32) (x9 : Int32) (x10 : Int32) (x11 : Int32) (x12 : Int32) (x13 : Int32) (x14 : Int32) (x15 : Int32) (x16 : Int32) (x17 : Int32) (x18 : Int32) (x19 : Int32) (x20 : Addr) : Mem := [ob x0 "java/lang/String" [("java/lang/String", "value", "[B", (.ref x1)), ("java/lang/String", "coder", "B", (.int (0 : Int32)))], ar x1 .byte [(.int (x2.toInt8.toInt32)), (.int (x3.toInt8.toInt32)), (.int (x4.toInt8.toInt32)), (.int (x5.toInt8.toInt32)), (.int (x6.toInt8.toInt32)), (.int (x7.toInt8.toInt32)), (.int (x8.toInt8.toInt32)), (.int (x9.toInt8.toInt32)), (.int (x10.toInt8.toInt32)), (.int (x11.toInt8.toInt32)), (.int (x12.toInt8.toInt32)), (.int (x13.toInt8.toInt32)), (.int (x14.toInt8.toInt32)), (.int (x15.toInt8.toInt32)), (.int (x16.toInt8.toInt32)), (.int (x17.toInt8.toInt32)), (.int (x18.toInt8.toInt32)), (.int (x19.toInt8.toInt32))], ob x20 "com/example/cartonmark/cartonmark/gs1/Sscc" [("com/example/cartonmark/cartonmark/gs1/SsccDigits", "number", "J", (.long (0 : Int64)))]]
abbrev mem25 (x0 : Addr) (x1 : Int32) (x2 : Int32) (x3 : Int32) (x4 : Int32) (x5 : Int32) (x6 : Int32) (x7 : Int32) (x8 : Int32) (x9 : Int32) (x10 : Int32) (x11 : Int32) (x12 : Int32) (x13 : Int32) (x14 : Int32) (x15 : Int32) (x16 : Int32) (x17 : Int32) (x18 : Int32) (x19 : Addr) (x20 : Int32) (x21 : Int32) (x22 : Int32) (x23 : Int32) (x24 : Int32) (x25 : Int32) (x26 : Int32) (x27 : Int32) (x28 : Int32) (x29 : Int32) (x30 : Int32) (x31 : Int32) (x32 : Int32) (x33 : Int32) (x34 : Int32) (x35 : Int32) (x36 : Int32) (x37 : Int32) : Mem := [ar x0 .char [(.int x1), (.int x2), (.int x3), (.int x4), (.int x5), (.int x6), (.int x7), (.int x8), (.int x9), (.int x10), (.int x11), (.int x12), (.int x13), (.int x14), (.int x15), (.int x16), (.int x17), (.int x18)], ar x19 .char [(.int x20), (.int x21), (.int x22), (.int x23), (.int x24), (.int x25), (.int x26), (.int x27), (.int x28), (.int x29), (.int x30), (.int x31), (.int x32), (.int x33), (.int x34), (.int x35), (.int x36), (.int x37)]]
abbrev mem26 (x0 : Addr) (x1 : Int32) (x2 : Int32) (x3 : Int32) (x4 : Int32) (x5 : Int32) (x6 : Int32) (x7 : Int32) (x8 : Int32) (x9 : Int32) (x10 : Int32) (x11 : Int32) (x12 : Int32) (x13 : Int32) (x14 : Int32) (x15 : Int32) (x16 : Int32) (x17 : Int32) (x18 : Int32) (x19 : Addr) (x20 : Int32) (x21 : Int32) (x22 : Int32) (x23 : Int32) (x24 : Int32) (x25 : Int32) (x26 : Int32) (x27 : Int32) (x28 : Int32) (x29 : Int32) (x30 : Int32) (x31 : Int32) (x32 : Int32) (x33 : Int32) (x34 : Int32) (x35 : Int32) (x36 : Int32) (x37 : Int32) (x38 : Addr) : Mem := [ar x0 .char [(.int x1), (.int x2), (.int x3), (.int x4), (.int x5), (.int x6), (.int x7), (.int x8), (.int x9), (.int x10), (.int x11), (.int x12), (.int x13), (.int x14), (.int x15), (.int x16), (.int x17), (.int x18)], ar x19 .char [(.int x20), (.int x21), (.int x22), (.int x23), (.int x24), (.int x25), (.int x26), (.int x27), (.int x28), (.int x29), (.int x30), (.int x31), (.int x32), (.int x33), (.int x34), (.int x35), (.int x36), (.int x37)], ob x38 "com/example/cartonmark/cartonmark/gs1/Sscc" [("com/example/cartonmark/cartonmark/gs1/SsccDigits", "number", "J", (.long (0 : Int64)))]]
abbrev mem27 (x0 : Addr) (x1 : Int32) (x2 : Int32) (x3 : Int32) (x4 : Int32) (x5 : Int32) (x6 : Int32) (x7 : Int32) (x8 : Int32) (x9 : Int32) (x10 : Int32) (x11 : Int32) (x12 : Int32) (x13 : Int32) (x14 : Int32) (x15 : Int32) (x16 : Int32) (x17 : Int32) (x18 : Int32) (x19 : Addr) (x20 : Int32) (x21 : Int32) (x22 : Int32) (x23 : Int32) (x24 : Int32) (x25 : Int32) (x26 : Int32) (x27 : Int32) (x28 : Int32) (x29 : Int32) (x30 : Int32) (x31 : Int32) (x32 : Int32) (x33 : Int32) (x34 : Int32) (x35 : Int32) (x36 : Int32) (x37 : Int32) (x38 : Addr) (x39 : Addr) : Mem := [ar x0 .char [(.int x1), (.int x2), (.int x3), (.int x4), (.int x5), (.int x6), (.int x7), (.int x8), (.int x9), (.int x10), (.int x11), (.int x12), (.int x13), (.int x14), (.int x15), (.int x16), (.int x17), (.int x18)], ar x19 .char [(.int x20), (.int x21), (.int x22), (.int x23), (.int x24), (.int x25), (.int x26), (.int x27), (.int x28), (.int x29), (.int x30), (.int x31), (.int x32), (.int x33), (.int x34), (.int x35), (.int x36), (.int x37)], ob x38 "com/example/cartonmark/cartonmark/gs1/Sscc" [("com/example/cartonmark/cartonmark/gs1/SsccDigits", "number", "J", (.long (0 : Int64)))], ob x39 "java/lang/String" [("java/lang/String", "coder", "B", (.int (0 : Int32))), ("java/lang/String", "value", "[B", .null)]]
abbrev mem28 (x0 : Addr) (x1 : Int32) (x2 : Int32) (x3 : Int32) (x4 : Int32) (x5 : Int32) (x6 : Int32) (x7 : Int32) (x8 : Int32) (x9 : Int32) (x10 : Int32) (x11 : Int32) (x12 : Int32) (x13 : Int32) (x14 : Int32) (x15 : Int32) (x16 : Int32) (x17 : Int32) (x18 : Int32) (x19 : Addr) (x20 : Int32) (x21 : Int32) (x22 : Int32) (x23 : Int32) (x24 : Int32) (x25 : Int32) (x26 : Int32) (x27 : Int32) (x28 : Int32) (x29 : Int32) (x30 : Int32) (x31 : Int32) (x32 : Int32) (x33 : Int32) (x34 : Int32) (x35 : Int32) (x36 : Int32) (x37 : Int32) (x38 : Addr) (x39 : Addr) (x40 : Addr) : Mem := [ar x0 .char [(.int x1), (.int x2), (.int x3), (.int x4), (.int x5), (.int x6), (.int x7), (.int x8), (.int x9), (.int x10), (.int x11), (.int x12), (.int x13), (.int x14), (.int x15), (.int x16), (.int x17), (.int x18)], ar x19 .char [(.int x20), (.int x21), (.int x22), (.int x23), (.int x24), (.int x25), (.int x26), (.int x27), (.int x28), (.int x29), (.int x30), (.int x31), (.int x32), (.int x33), (.int x34), (.int x35), (.int x36), (.int x37)], ob x38 "com/example/cartonmark/cartonmark/gs1/Sscc" [("com/example/cartonmark/cartonmark/gs1/SsccDigits", "number", "J", (.long (0 : Int64)))], ob x39 "java/lang/String" [("java/lang/String", "value", "[B", (.ref x40)), ("java/lang/String", "coder", "B", (.int (0 : Int32)))], ar x40 .byte [(.int (x20.toInt8.toInt32)), (.int (x21.toInt8.toInt32)), (.int (x22.toInt8.toInt32)), (.int (x23.toInt8.toInt32)), (.int (x24.toInt8.toInt32)), (.int (x25.toInt8.toInt32)), (.int (x26.toInt8.toInt32)), (.int (x27.toInt8.toInt32)), (.int (x28.toInt8.toInt32)), (.int (x29.toInt8.toInt32)), (.int (x30.toInt8.toInt32)), (.int (x31.toInt8.toInt32)), (.int (x32.toInt8.toInt32)), (.int (x33.toInt8.toInt32)), (.int (x34.toInt8.toInt32)), (.int (x35.toInt8.toInt32)), (.int (x36.toInt8.toInt32)), (.int (x37.toInt8.toInt32))]]
abbrev mem29 (x0 : Addr) (x1 : Addr) (x2 : Addr) (x3 : Int32) (x4 : Int32) (x5 : Int32) (x6 : Int32) (x7 : Int32) (x8 : Int32) (x9 : Int32) (x10 : Int32) (x11 : Int32) (x12 : Int32) (x13 : Int32) (x14 : Int32) (x15 : Int32) (x16 : Int32) (x17 : Int32) (x18 : Int32) (x19 : Int32) (x20 : Int32) (x21 : Addr) (x22 : Int32) (x23 : Int32) (x24 : Int32) (x25 : Int32) (x26 : Int32) (x27 : Int32) (x28 : Int32) (x29 : Int32) (x30 : Int32) (x31 : Int32) (x32 : Int32) (x33 : Int32) (x34 : Int32) (x35 : Int32) (x36 : Int32) (x37 : Int32) (x38 : Int32) (x39 : Int32) (x40 : Addr) : Mem := [ob x0 "com/example/cartonmark/cartonmark/gs1/Sscc" [("com/example/cartonmark/cartonmark/gs1/SsccDigits", "number", "J", (.long (0 : Int64)))], ob x1 "java/lang/String" [("java/lang/String", "value", "[B", (.ref x2)), ("java/lang/String", "coder", "B", (.int (0 : Int32)))], ar x2 .byte [(.int (x3.toInt8.toInt32)), (.int (x4.toInt8.toInt32)), (.int (x5.toInt8.toInt32)), (.int (x6.toInt8.toInt32)), (.int (x7.toInt8.toInt32)), (.int (x8.toInt8.toInt32)), (.int (x9.toInt8.toInt32)), (.int (x10.toInt8.toInt32)), (.int (x11.toInt8.toInt32)), (.int (x12.toInt8.toInt32)), (.int (x13.toInt8.toInt32)), (.int (x14.toInt8.toInt32)), (.int (x15.toInt8.toInt32)), (.int (x16.toInt8.toInt32)), (.int (x17.toInt8.toInt32)), (.int (x18.toInt8.toInt32)), (.int (x19.toInt8.toInt32)), (.int (x20.toInt8.toInt32))], ar x21 .char [(.int x22), (.int x23), (.int x24), (.int x25), (.int x26), (.int x27), (.int x28), (.int x29), (.int x30), (.int x31), (.int x32), (.int x33), (.int x34), (.int x35), (.int x36), (.int x37), (.int x38), (.int x39)], ar x40 .char [(.int x3), (.int x4), (.int x5), (.int x6), (.int x7), (.int x8), (.int x9), (.int x10), (.int x11), (.int x12), (.int x13), (.int x14), (.int x15), (.int x16), (.int x17), (.int x18), (.int x19), (.int x20)]]
abbrev mem30 (x0 : Addr) (x1 : Int64) (x2 : Addr) (x3 : Addr) (x4 : Int32) (x5 : Int32) (x6 : Int32) (x7 : Int32) (x8 : Int32) (x9 : Int32) (x10 : Int32) (x11 : Int32) (x12 : Int32) (x13 : Int32) (x14 : Int32) (x15 : Int32) (x16 : Int32) (x17 : Int32) (x18 : Int32) (x19 : Int32) (x20 : Int32) (x21 : Int32) (x22 : Addr) (x23 : Int32) (x24 : Int32) (x25 : Int32) (x26 : Int32) (x27 : Int32) (x28 : Int32) (x29 : Int32) (x30 : Int32) (x31 : Int32) (x32 : Int32) (x33 : Int32) (x34 : Int32) (x35 : Int32) (x36 : Int32) (x37 : Int32) (x38 : Int32) (x39 : Int32) (x40 : Int32) (x41 : Addr) : Mem := [ob x0 "com/example/cartonmark/cartonmark/gs1/Sscc" [("com/example/cartonmark/cartonmark/gs1/SsccDigits", "number", "J", (.long x1))], ob x2 "java/lang/String" [("java/lang/String", "value", "[B", (.ref x3)), ("java/lang/String", "coder", "B", (.int (0 : Int32)))], ar x3 .byte [(.int (x4.toInt8.toInt32)), (.int (x5.toInt8.toInt32)), (.int (x6.toInt8.toInt32)), (.int (x7.toInt8.toInt32)), (.int (x8.toInt8.toInt32)), (.int (x9.toInt8.toInt32)), (.int (x10.toInt8.toInt32)), (.int (x11.toInt8.toInt32)), (.int (x12.toInt8.toInt32)), (.int (x13.toInt8.toInt32)), (.int (x14.toInt8.toInt32)), (.int (x15.toInt8.toInt32)), (.int (x16.toInt8.toInt32)), (.int (x17.toInt8.toInt32)), (.int (x18.toInt8.toInt32)), (.int (x19.toInt8.toInt32)), (.int (x20.toInt8.toInt32)), (.int (x21.toInt8.toInt32))], ar x22 .char [(.int x23), (.int x24), (.int x25), (.int x26), (.int x27), (.int x28), (.int x29), (.int x30), (.int x31), (.int x32), (.int x33), (.int x34), (.int x35), (.int x36), (.int x37), (.int x38), (.int x39), (.int x40)], ar x41 .char [(.int x4), (.int x5), (.int x6), (.int x7), (.int x8), (.int x9), (.int x10), (.int x11), (.int x12), (.int x13), (.int x14), (.int x15), (.int x16), (.int x17), (.int x18), (.int x19), (.int x20), (.int x21)]]
abbrev mem31 (x0 : Addr) (x1 : Int64) (x2 : Addr) (x3 : Addr) (x4 : Int32) (x5 : Int32) (x6 : Int32) (x7 : Int32) (x8 : Int32) (x9 : Int32) (x10 : Int32) (x11 : Int32) (x12 : Int32) (x13 : Int32) (x14 : Int32) (x15 : Int32) (x16 : Int32) (x17 : Int32) (x18 : Int32) (x19 : Int32) (x20 : Int32) (x21 : Int32) (x22 : Addr) (x23 : Int32) (x24 : Int32) (x25 : Int32) (x26 : Int32) (x27 : Int32) (x28 : Int32) (x29 : Int32) (x30 : Int32) (x31 : Int32) (x32 : Int32) (x33 : Int32) (x34 : Int32) (x35 : Int32) (x36 : Int32) (x37 : Int32) (x38 : Int32) (x39 : Int32) (x40 : Int32) (x41 : Addr) (x42 : Addr) : Mem := [ob x0 "com/example/cartonmark/cartonmark/gs1/Sscc" [("com/example/cartonmark/cartonmark/gs1/SsccDigits", "number", "J", (.long x1))], ob x2 "java/lang/String" [("java/lang/String", "value", "[B", (.ref x3)), ("java/lang/String", "coder", "B", (.int (0 : Int32)))], ar x3 .byte [(.int (x4.toInt8.toInt32)), (.int (x5.toInt8.toInt32)), (.int (x6.toInt8.toInt32)), (.int (x7.toInt8.toInt32)), (.int (x8.toInt8.toInt32)), (.int (x9.toInt8.toInt32)), (.int (x10.toInt8.toInt32)), (.int (x11.toInt8.toInt32)), (.int (x12.toInt8.toInt32)), (.int (x13.toInt8.toInt32)), (.int (x14.toInt8.toInt32)), (.int (x15.toInt8.toInt32)), (.int (x16.toInt8.toInt32)), (.int (x17.toInt8.toInt32)), (.int (x18.toInt8.toInt32)), (.int (x19.toInt8.toInt32)), (.int (x20.toInt8.toInt32)), (.int (x21.toInt8.toInt32))], ar x22 .char [(.int x23), (.int x24), (.int x25), (.int x26), (.int x27), (.int x28), (.int x29), (.int x30), (.int x31), (.int x32), (.int x33), (.int x34), (.int x35), (.int x36), (.int x37), (.int x38), (.int x39), (.int x40)], ar x41 .char [(.int x4), (.int x5), (.int x6), (.int x7), (.int x8), (.int x9), (.int x10), (.int x11), (.int x12), (.int x13), (.int x14), (.int x15), (.int x16), (.int x17), (.int x18), (.int x19), (.int x20), (.int x21)], ob x42 "com/example/cartonmark/cartonmark/gs1/Sscc" [("com/example/cartonmark/cartonmark/gs1/SsccDigits", "number", "J", (.long (0 : Int64)))]]
abbrev mem32 (x0 : Addr) (x1 : Int64) (x2 : Addr) (x3 : Addr) (x4 : Int32) (x5 : Int32) (x6 : Int32) (x7 : Int32) (x8 : Int32) (x9 : Int32) (x10 : Int32) (x11 : Int32) (x12 : Int32) (x13 : Int32) (x14 : Int32) (x15 : Int32) (x16 : Int32) (x17 : Int32) (x18 : Int32) (x19 : Int32) (x20 : Int32) (x21 : Int32) (x22 : Addr) (x23 : Int32) (x24 : Int32) (x25 : Int32) (x26 : Int32) (x27 : Int32) (x28 : Int32) (x29 : Int32) (x30 : Int32) (x31 : Int32) (x32 : Int32) (x33 : Int32) (x34 : Int32) (x35 : Int32) (x36 : Int32) (x37 : Int32) (x38 : Int32) (x39 : Int32) (x40 : Int32) (x41 : Addr) (x42 : Addr) (x43 : Addr) : Mem := [ob x0 "com/example/cartonmark/cartonmark/gs1/Sscc" [("com/example/cartonmark/cartonmark/gs1/SsccDigits", "number", "J", (.long x1))], ob x2 "java/lang/String" [("java/lang/String", "value", "[B", (.ref x3)), ("java/lang/String", "coder", "B", (.int (0 : Int32)))], ar x3 .byte [(.int (x4.toInt8.toInt32)), (.int (x5.toInt8.toInt32)), (.int (x6.toInt8.toInt32)), (.int (x7.toInt8.toInt32)), (.int (x8.toInt8.toInt32)), (.int (x9.toInt8.toInt32)), (.int (x10.toInt8.toInt32)), (.int (x11.toInt8.toInt32)), (.int (x12.toInt8.toInt32)), (.int (x13.toInt8.toInt32)), (.int (x14.toInt8.toInt32)), (.int (x15.toInt8.toInt32)), (.int (x16.toInt8.toInt32)), (.int (x17.toInt8.toInt32)), (.int (x18.toInt8.toInt32)), (.int (x19.toInt8.toInt32)), (.int (x20.toInt8.toInt32)), (.int (x21.toInt8.toInt32))], ar x22 .char [(.int x23), (.int x24), (.int x25), (.int x26), (.int x27), (.int x28), (.int x29), (.int x30), (.int x31), (.int x32), (.int x33), (.int x34), (.int x35), (.int x36), (.int x37), (.int x38), (.int x39), (.int x40)], ar x41 .char [(.int x4), (.int x5), (.int x6), (.int x7), (.int x8), (.int x9), (.int x10), (.int x11), (.int x12), (.int x13), (.int x14), (.int x15), (.int x16), (.int x17), (.int x18), (.int x19), (.int x20), (.int x21)], ob x42 "com/example/cartonmark/cartonmark/gs1/Sscc" [("com/example/cartonmark/cartonmark/gs1/SsccDigits", "number", "J", (.long (0 : Int64)))], ob x43 "java/lang/String" [("java/lang/String", "coder", "B", (.int (0 : Int32))), ("java/lang/String", "value", "[B", .null)]]
abbrev mem33 (x0 : Addr) (x1 : Int64) (x2 : Addr) (x3 : Addr) (x4 : Int32) (x5 : Int32) (x6 : Int32) (x7 : Int32) (x8 : Int32) (x9 : Int32) (x10 : Int32) (x11 : Int32) (x12 : Int32) (x13 : Int32) (x14 : Int32) (x15 : Int32) (x16 : Int32) (x17 : Int32) (x18 : Int32) (x19 : Int32) (x20 : Int32) (x21 : Int32) (x22 : Addr) (x23 : Int32) (x24 : Int32) (x25 : Int32) (x26 : Int32) (x27 : Int32) (x28 : Int32) (x29 : Int32) (x30 : Int32) (x31 : Int32) (x32 : Int32) (x33 : Int32) (x34 : Int32) (x35 : Int32) (x36 : Int32) (x37 : Int32) (x38 : Int32) (x39 : Int32) (x40 : Int32) (x41 : Addr) (x42 : Addr) (x43 : Addr) (x44 : Addr) : Mem := [ob x0 "com/example/cartonmark/cartonmark/gs1/Sscc" [("com/example/cartonmark/cartonmark/gs1/SsccDigits", "number", "J", (.long x1))], ob x2 "java/lang/String" [("java/lang/String", "value", "[B", (.ref x3)), ("java/lang/String", "coder", "B", (.int (0 : Int32)))], ar x3 .byte [(.int (x4.toInt8.toInt32)), (.int (x5.toInt8.toInt32)), (.int (x6.toInt8.toInt32)), (.int (x7.toInt8.toInt32)), (.int (x8.toInt8.toInt32)), (.int (x9.toInt8.toInt32)), (.int (x10.toInt8.toInt32)), (.int (x11.toInt8.toInt32)), (.int (x12.toInt8.toInt32)), (.int (x13.toInt8.toInt32)), (.int (x14.toInt8.toInt32)), (.int (x15.toInt8.toInt32)), (.int (x16.toInt8.toInt32)), (.int (x17.toInt8.toInt32)), (.int (x18.toInt8.toInt32)), (.int (x19.toInt8.toInt32)), (.int (x20.toInt8.toInt32)), (.int (x21.toInt8.toInt32))], ar x22 .char [(.int x23), (.int x24), (.int x25), (.int x26), (.int x27), (.int x28), (.int x29), (.int x30), (.int x31), (.int x32), (.int x33), (.int x34), (.int x35), (.int x36), (.int x37), (.int x38), (.int x39), (.int x40)], ar x41 .char [(.int x4), (.int x5), (.int x6), (.int x7), (.int x8), (.int x9), (.int x10), (.int x11), (.int x12), (.int x13), (.int x14), (.int x15), (.int x16), (.int x17), (.int x18), (.int x19), (.int x20), (.int x21)], ob x42 "com/example/cartonmark/cartonmark/gs1/Sscc" [("com/example/cartonmark/cartonmark/gs1/SsccDigits", "number", "J", (.long (0 : Int64)))], ob x43 "java/lang/String" [("java/lang/String", "value", "[B", (.ref x44)), ("java/lang/String", "coder", "B", (.int (0 : Int32)))], ar x44 .byte [(.int (x23.toInt8.toInt32)), (.int (x24.toInt8.toInt32)), (.int (x25.toInt8.toInt32)), (.int (x26.toInt8.toInt32)), (.int (x27.toInt8.toInt32)), (.int (x28.toInt8.toInt32)), (.int (x29.toInt8.toInt32)), (.int (x30.toInt8.toInt32)), (.int (x31.toInt8.toInt32)), (.int (x32.toInt8.toInt32)), (.int (x33.toInt8.toInt32)), (.int (x34.toInt8.toInt32)), (.int (x35.toInt8.toInt32)), (.int (x36.toInt8.toInt32)), (.int (x37.toInt8.toInt32)), (.int (x38.toInt8.toInt32)), (.int (x39.toInt8.toInt32)), (.int (x40.toInt8.toInt32))]]
abbrev mem34 (x0 : Addr) (x1 : Addr) (x2 : Addr) (x3 : Int32) (x4 : Int32) (x5 : Int32) (x6 : Int32) (x7 : Int32) (x8 : Int32) (x9 : Int32) (x10 : Int32) (x11 : Int32) (x12 : Int32) (x13 : Int32) (x14 : Int32) (x15 : Int32) (x16 : Int32) (x17 : Int32) (x18 : Int32) (x19 : Int32) (x20 : Int32) (x21 : Addr) (x22 : Int64) (x23 : Addr) (x24 : Addr) (x25 : Int32) (x26 : Int32) (x27 : Int32) (x28 : Int32) (x29 : Int32) (x30 : Int32) (x31 : Int32) (x32 : Int32) (x33 : Int32) (x34 : Int32) (x35 : Int32) (x36 : Int32) (x37 : Int32) (x38 : Int32) (x39 : Int32) (x40 : Int32) (x41 : Int32) (x42 : Int32) (x43 : Addr) (x44 : Addr) : Mem := [ob x0 "com/example/cartonmark/cartonmark/gs1/Sscc" [("com/example/cartonmark/cartonmark/gs1/SsccDigits", "number", "J", (.long (0 : Int64)))], ob x1 "java/lang/String" [("java/lang/String", "value", "[B", (.ref x2)), ("java/lang/String", "coder", "B", (.int (0 : Int32)))], ar x2 .byte [(.int (x3.toInt8.toInt32)), (.int (x4.toInt8.toInt32)), (.int (x5.toInt8.toInt32)), (.int (x6.toInt8.toInt32)), (.int (x7.toInt8.toInt32)), (.int (x8.toInt8.toInt32)), (.int (x9.toInt8.toInt32)), (.int (x10.toInt8.toInt32)), (.int (x11.toInt8.toInt32)), (.int (x12.toInt8.toInt32)), (.int (x13.toInt8.toInt32)), (.int (x14.toInt8.toInt32)), (.int (x15.toInt8.toInt32)), (.int (x16.toInt8.toInt32)), (.int (x17.toInt8.toInt32)), (.int (x18.toInt8.toInt32)), (.int (x19.toInt8.toInt32)), (.int (x20.toInt8.toInt32))], ob x21 "com/example/cartonmark/cartonmark/gs1/Sscc" [("com/example/cartonmark/cartonmark/gs1/SsccDigits", "number", "J", (.long x22))], ob x23 "java/lang/String" [("java/lang/String", "value", "[B", (.ref x24)), ("java/lang/String", "coder", "B", (.int (0 : Int32)))], ar x24 .byte [(.int (x25.toInt8.toInt32)), (.int (x26.toInt8.toInt32)), (.int (x27.toInt8.toInt32)), (.int (x28.toInt8.toInt32)), (.int (x29.toInt8.toInt32)), (.int (x30.toInt8.toInt32)), (.int (x31.toInt8.toInt32)), (.int (x32.toInt8.toInt32)), (.int (x33.toInt8.toInt32)), (.int (x34.toInt8.toInt32)), (.int (x35.toInt8.toInt32)), (.int (x36.toInt8.toInt32)), (.int (x37.toInt8.toInt32)), (.int (x38.toInt8.toInt32)), (.int (x39.toInt8.toInt32)), (.int (x40.toInt8.toInt32)), (.int (x41.toInt8.toInt32)), (.int (x42.toInt8.toInt32))], ar x43 .char [(.int x3), (.int x4), (.int x5), (.int x6), (.int x7), (.int x8), (.int x9), (.int x10), (.int x11), (.int x12), (.int x13), (.int x14), (.int x15), (.int x16), (.int x17), (.int x18), (.int x19), (.int x20)], ar x44 .char [(.int x25), (.int x26), (.int x27), (.int x28), (.int x29), (.int x30), (.int x31), (.int x32), (.int x33), (.int x34), (.int x35), (.int x36), (.int x37), (.int x38), (.int x39), (.int x40), (.int x41), (.int x42)]]
abbrev mem35 (x0 : Addr) (x1 : Int64) (x2 : Addr) (x3 : Addr) (x4 : Int32) (x5 : Int32) (x6 : Int32) (x7 : Int32) (x8 : Int32) (x9 : Int32) (x10 : Int32) (x11 : Int32) (x12 : Int32) (x13 : Int32) (x14 : Int32) (x15 : Int32) (x16 : Int32) (x17 : Int32) (x18 : Int32) (x19 : Int32) (x20 : Int32) (x21 : Int32) (x22 : Addr) (x23 : Int64) (x24 : Addr) (x25 : Addr) (x26 : Int32) (x27 : Int32) (x28 : Int32) (x29 : Int32) (x30 : Int32) (x31 : Int32) (x32 : Int32) (x33 : Int32) (x34 : Int32) (x35 : Int32) (x36 : Int32) (x37 : Int32) (x38 : Int32) (x39 : Int32) (x40 : Int32) (x41 : Int32) (x42 : Int32) (x43 : Int32) (x44 : Addr) (x45 : Addr) : Mem := [ob x0 "com/example/cartonmark/cartonmark/gs1/Sscc" [("com/example/cartonmark/cartonmark/gs1/SsccDigits", "number", "J", (.long x1))], ob x2 "java/lang/String" [("java/lang/String", "value", "[B", (.ref x3)), ("java/lang/String", "coder", "B", (.int (0 : Int32)))], ar x3 .byte [(.int (x4.toInt8.toInt32)), (.int (x5.toInt8.toInt32)), (.int (x6.toInt8.toInt32)), (.int (x7.toInt8.toInt32)), (.int (x8.toInt8.toInt32)), (.int (x9.toInt8.toInt32)), (.int (x10.toInt8.toInt32)), (.int (x11.toInt8.toInt32)), (.int (x12.toInt8.toInt32)), (.int (x13.toInt8.toInt32)), (.int (x14.toInt8.toInt32)), (.int (x15.toInt8.toInt32)), (.int (x16.toInt8.toInt32)), (.int (x17.toInt8.toInt32)), (.int (x18.toInt8.toInt32)), (.int (x19.toInt8.toInt32)), (.int (x20.toInt8.toInt32)), (.int (x21.toInt8.toInt32))], ob x22 "com/example/cartonmark/cartonmark/gs1/Sscc" [("com/example/cartonmark/cartonmark/gs1/SsccDigits", "number", "J", (.long x23))], ob x24 "java/lang/String" [("java/lang/String", "value", "[B", (.ref x25)), ("java/lang/String", "coder", "B", (.int (0 : Int32)))], ar x25 .byte [(.int (x26.toInt8.toInt32)), (.int (x27.toInt8.toInt32)), (.int (x28.toInt8.toInt32)), (.int (x29.toInt8.toInt32)), (.int (x30.toInt8.toInt32)), (.int (x31.toInt8.toInt32)), (.int (x32.toInt8.toInt32)), (.int (x33.toInt8.toInt32)), (.int (x34.toInt8.toInt32)), (.int (x35.toInt8.toInt32)), (.int (x36.toInt8.toInt32)), (.int (x37.toInt8.toInt32)), (.int (x38.toInt8.toInt32)), (.int (x39.toInt8.toInt32)), (.int (x40.toInt8.toInt32)), (.int (x41.toInt8.toInt32)), (.int (x42.toInt8.toInt32)), (.int (x43.toInt8.toInt32))], ar x44 .char [(.int x4), (.int x5), (.int x6), (.int x7), (.int x8), (.int x9), (.int x10), (.int x11), (.int x12), (.int x13), (.int x14), (.int x15), (.int x16), (.int x17), (.int x18), (.int x19), (.int x20), (.int x21)], ar x45 .char [(.int x26), (.int x27), (.int x28), (.int x29), (.int x30), (.int x31), (.int x32), (.int x33), (.int x34), (.int x35), (.int x36), (.int x37), (.int x38), (.int x39), (.int x40), (.int x41), (.int x42), (.int x43)]]
abbrev mem36 (x0 : Addr) (x1 : Int64) (x2 : Addr) (x3 : Addr) (x4 : Int32) (x5 : Int32) (x6 : Int32) (x7 : Int32) (x8 : Int32) (x9 : Int32) (x10 : Int32) (x11 : Int32) (x12 : Int32) (x13 : Int32) (x14 : Int32) (x15 : Int32) (x16 : Int32) (x17 : Int32) (x18 : Int32) (x19 : Int32) (x20 : Int32) (x21 : Int32) (x22 : Addr) (x23 : Int64) (x24 : Addr) (x25 : Addr) (x26 : Int32) (x27 : Int32) (x28 : Int32) (x29 : Int32) (x30 : Int32) (x31 : Int32) (x32 : Int32) (x33 : Int32) (x34 : Int32) (x35 : Int32) (x36 : Int32) (x37 : Int32) (x38 : Int32) (x39 : Int32) (x40 : Int32) (x41 : Int32) (x42 : Int32) (x43 : Int32) (x44 : Addr) (x45 : Addr) (x46 : Addr) : Mem := [ob x0 "com/example/cartonmark/cartonmark/gs1/Sscc" [("com/example/cartonmark/cartonmark/gs1/SsccDigits", "number", "J", (.long x1))], ob x2 "java/lang/String" [("java/lang/String", "value", "[B", (.ref x3)), ("java/lang/String", "coder", "B", (.int (0 : Int32)))], ar x3 .byte [(.int (x4.toInt8.toInt32)), (.int (x5.toInt8.toInt32)), (.int (x6.toInt8.toInt32)), (.int (x7.toInt8.toInt32)), (.int (x8.toInt8.toInt32)), (.int (x9.toInt8.toInt32)), (.int (x10.toInt8.toInt32)), (.int (x11.toInt8.toInt32)), (.int (x12.toInt8.toInt32)), (.int (x13.toInt8.toInt32)), (.int (x14.toInt8.toInt32)), (.int (x15.toInt8.toInt32)), (.int (x16.toInt8.toInt32)), (.int (x17.toInt8.toInt32)), (.int (x18.toInt8.toInt32)), (.int (x19.toInt8.toInt32)), (.int (x20.toInt8.toInt32)), (.int (x21.toInt8.toInt32))], ob x22 "com/example/cartonmark/cartonmark/gs1/Sscc" [("com/example/cartonmark/cartonmark/gs1/SsccDigits", "number", "J", (.long x23))], ob x24 "java/lang/String" [("java/lang/String", "value", "[B", (.ref x25)), ("java/lang/String", "coder", "B", (.int (0 : Int32)))], ar x25 .byte [(.int (x26.toInt8.toInt32)), (.int (x27.toInt8.toInt32)), (.int (x28.toInt8.toInt32)), (.int (x29.toInt8.toInt32)), (.int (x30.toInt8.toInt32)), (.int (x31.toInt8.toInt32)), (.int (x32.toInt8.toInt32)), (.int (x33.toInt8.toInt32)), (.int (x34.toInt8.toInt32)), (.int (x35.toInt8.toInt32)), (.int (x36.toInt8.toInt32)), (.int (x37.toInt8.toInt32)), (.int (x38.toInt8.toInt32)), (.int (x39.toInt8.toInt32)), (.int (x40.toInt8.toInt32)), (.int (x41.toInt8.toInt32)), (.int (x42.toInt8.toInt32)), (.int (x43.toInt8.toInt32))], ar x44 .char [(.int x4), (.int x5), (.int x6), (.int x7), (.int x8), (.int x9), (.int x10), (.int x11), (.int x12), (.int x13), (.int x14), (.int x15), (.int x16), (.int x17), (.int x18), (.int x19), (.int x20), (.int x21)], ar x45 .char [(.int x26), (.int x27), (.int x28), (.int x29), (.int x30), (.int x31), (.int x32), (.int x33), (.int x34), (.int x35), (.int x36), (.int x37), (.int x38), (.int x39), (.int x40), (.int x41), (.int x42), (.int x43)], ob x46 "com/example/cartonmark/cartonmark/gs1/SsccReading" [("com/example/cartonmark/cartonmark/gs1/SsccDigits", "number", "J", (.long (0 : Int64)))]]
abbrev mem37 (x0 : Addr) (x1 : Addr) (x2 : Int64) (x3 : Addr) (x4 : Addr) (x5 : Int32) (x6 : Int32) (x7 : Int32) (x8 : Int32) (x9 : Int32) (x10 : Int32) (x11 : Int32) (x12 : Int32) (x13 : Int32) (x14 : Int32) (x15 : Int32) (x16 : Int32) (x17 : Int32) (x18 : Int32) (x19 : Int32) (x20 : Int32) (x21 : Int32) (x22 : Int32) (x23 : Addr) (x24 : Int64) (x25 : Addr) (x26 : Addr) (x27 : Int32) (x28 : Int32) (x29 : Int32) (x30 : Int32) (x31 : Int32) (x32 : Int32) (x33 : Int32) (x34 : Int32) (x35 : Int32) (x36 : Int32) (x37 : Int32) (x38 : Int32) (x39 : Int32) (x40 : Int32) (x41 : Int32) (x42 : Int32) (x43 : Int32) (x44 : Int32) (x45 : Addr) (x46 : Addr) : Mem := [ob x0 "com/example/cartonmark/cartonmark/gs1/SsccReading" [("com/example/cartonmark/cartonmark/gs1/SsccDigits", "number", "J", (.long (0 : Int64)))], ob x1 "com/example/cartonmark/cartonmark/gs1/Sscc" [("com/example/cartonmark/cartonmark/gs1/SsccDigits", "number", "J", (.long x2))], ob x3 "java/lang/String" [("java/lang/String", "value", "[B", (.ref x4)), ("java/lang/String", "coder", "B", (.int (0 : Int32)))], ar x4 .byte [(.int (x5.toInt8.toInt32)), (.int (x6.toInt8.toInt32)), (.int (x7.toInt8.toInt32)), (.int (x8.toInt8.toInt32)), (.int (x9.toInt8.toInt32)), (.int (x10.toInt8.toInt32)), (.int (x11.toInt8.toInt32)), (.int (x12.toInt8.toInt32)), (.int (x13.toInt8.toInt32)), (.int (x14.toInt8.toInt32)), (.int (x15.toInt8.toInt32)), (.int (x16.toInt8.toInt32)), (.int (x17.toInt8.toInt32)), (.int (x18.toInt8.toInt32)), (.int (x19.toInt8.toInt32)), (.int (x20.toInt8.toInt32)), (.int (x21.toInt8.toInt32)), (.int (x22.toInt8.toInt32))], ob x23 "com/example/cartonmark/cartonmark/gs1/Sscc" [("com/example/cartonmark/cartonmark/gs1/SsccDigits", "number", "J", (.long x24))], ob x25 "java/lang/String" [("java/lang/String", "value", "[B", (.ref x26)), ("java/lang/String", "coder", "B", (.int (0 : Int32)))], ar x26 .byte [(.int (x27.toInt8.toInt32)), (.int (x28.toInt8.toInt32)), (.int (x29.toInt8.toInt32)), (.int (x30.toInt8.toInt32)), (.int (x31.toInt8.toInt32)), (.int (x32.toInt8.toInt32)), (.int (x33.toInt8.toInt32)), (.int (x34.toInt8.toInt32)), (.int (x35.toInt8.toInt32)), (.int (x36.toInt8.toInt32)), (.int (x37.toInt8.toInt32)), (.int (x38.toInt8.toInt32)), (.int (x39.toInt8.toInt32)), (.int (x40.toInt8.toInt32)), (.int (x41.toInt8.toInt32)), (.int (x42.toInt8.toInt32)), (.int (x43.toInt8.toInt32)), (.int (x44.toInt8.toInt32))], ar x45 .char [(.int x5), (.int x6), (.int x7), (.int x8), (.int x9), (.int x10), (.int x11), (.int x12), (.int x13), (.int x14), (.int x15), (.int x16), (.int x17), (.int x18), (.int x19), (.int x20), (.int x21), (.int x22)], ar x46 .char [(.int x27), (.int x28), (.int x29), (.int x30), (.int x31), (.int x32), (.int x33), (.int x34), (.int x35), (.int x36), (.int x37), (.int x38), (.int x39), (.int x40), (.int x41), (.int x42), (.int x43), (.int x44)]]
abbrev mem38 (x0 : Addr) (x1 : Int64) (x2 : Addr) (x3 : Int64) (x4 : Addr) (x5 : Addr) (x6 : Int32) (x7 : Int32) (x8 : Int32) (x9 : Int32) (x10 : Int32) (x11 : Int32) (x12 : Int32) (x13 : Int32) (x14 : Int32) (x15 : Int32) (x16 : Int32) (x17 : Int32) (x18 : Int32) (x19 : Int32) (x20 : Int32) (x21 : Int32) (x22 : Int32) (x23 : Int32) (x24 : Addr) (x25 : Int64) (x26 : Addr) (x27 : Addr) (x28 : Int32) (x29 : Int32) (x30 : Int32) (x31 : Int32) (x32 : Int32) (x33 : Int32) (x34 : Int32) (x35 : Int32) (x36 : Int32) (x37 : Int32) (x38 : Int32) (x39 : Int32) (x40 : Int32) (x41 : Int32) (x42 : Int32) (x43 : Int32) (x44 : Int32) (x45 : Int32) (x46 : Addr) (x47 : Addr) : Mem := [ob x0 "com/example/cartonmark/cartonmark/gs1/SsccReading" [("com/example/cartonmark/cartonmark/gs1/SsccDigits", "number", "J", (.long x1))], ob x2 "com/example/cartonmark/cartonmark/gs1/Sscc" [("com/example/cartonmark/cartonmark/gs1/SsccDigits", "number", "J", (.long x3))], ob x4 "java/lang/String" [("java/lang/String", "value", "[B", (.ref x5)), ("java/lang/String", "coder", "B", (.int (0 : Int32)))], ar x5 .byte [(.int (x6.toInt8.toInt32)), (.int (x7.toInt8.toInt32)), (.int (x8.toInt8.toInt32)), (.int (x9.toInt8.toInt32)), (.int (x10.toInt8.toInt32)), (.int (x11.toInt8.toInt32)), (.int (x12.toInt8.toInt32)), (.int (x13.toInt8.toInt32)), (.int (x14.toInt8.toInt32)), (.int (x15.toInt8.toInt32)), (.int (x16.toInt8.toInt32)), (.int (x17.toInt8.toInt32)), (.int (x18.toInt8.toInt32)), (.int (x19.toInt8.toInt32)), (.int (x20.toInt8.toInt32)), (.int (x21.toInt8.toInt32)), (.int (x22.toInt8.toInt32)), (.int (x23.toInt8.toInt32))], ob x24 "com/example/cartonmark/cartonmark/gs1/Sscc" [("com/example/cartonmark/cartonmark/gs1/SsccDigits", "number", "J", (.long x25))], ob x26 "java/lang/String" [("java/lang/String", "value", "[B", (.ref x27)), ("java/lang/String", "coder", "B", (.int (0 : Int32)))], ar x27 .byte [(.int (x28.toInt8.toInt32)), (.int (x29.toInt8.toInt32)), (.int (x30.toInt8.toInt32)), (.int (x31.toInt8.toInt32)), (.int (x32.toInt8.toInt32)), (.int (x33.toInt8.toInt32)), (.int (x34.toInt8.toInt32)), (.int (x35.toInt8.toInt32)), (.int (x36.toInt8.toInt32)), (.int (x37.toInt8.toInt32)), (.int (x38.toInt8.toInt32)), (.int (x39.toInt8.toInt32)), (.int (x40.toInt8.toInt32)), (.int (x41.toInt8.toInt32)), (.int (x42.toInt8.toInt32)), (.int (x43.toInt8.toInt32)), (.int (x44.toInt8.toInt32)), (.int (x45.toInt8.toInt32))], ar x46 .char [(.int x6), (.int x7), (.int x8), (.int x9), (.int x10), (.int x11), (.int x12), (.int x13), (.int x14), (.int x15), (.int x16), (.int x17), (.int x18), (.int x19), (.int x20), (.int x21), (.int x22), (.int x23)], ar x47 .char [(.int x28), (.int x29), (.int x30), (.int x31), (.int x32), (.int x33), (.int x34), (.int x35), (.int x36), (.int x37), (.int x38), (.int x39), (.int x40), (.int x41), (.int x42), (.int x43), (.int x44), (.int x45)]]
abbrev mem39 (x0 : Addr) (x1 : Int64) (x2 : Addr) (x3 : Int64) (x4 : Addr) (x5 : Addr) (x6 : Int32) (x7 : Int32) (x8 : Int32) (x9 : Int32) (x10 : Int32) (x11 : Int32) (x12 : Int32) (x13 : Int32) (x14 : Int32) (x15 : Int32) (x16 : Int32) (x17 : Int32) (x18 : Int32) (x19 : Int32) (x20 : Int32) (x21 : Int32) (x22 : Int32) (x23 : Int32) (x24 : Addr) (x25 : Int64) (x26 : Addr) (x27 : Addr) (x28 : Int32) (x29 : Int32) (x30 : Int32) (x31 : Int32) (x32 : Int32) (x33 : Int32) (x34 : Int32) (x35 : Int32) (x36 : Int32) (x37 : Int32) (x38 : Int32) (x39 : Int32) (x40 : Int32) (x41 : Int32) (x42 : Int32) (x43 : Int32) (x44 : Int32) (x45 : Int32) (x46 : Addr) (x47 : Addr) (x48 : Addr) : Mem := [ob x0 "com/example/cartonmark/cartonmark/gs1/SsccReading" [("com/example/cartonmark/cartonmark/gs1/SsccDigits", "number", "J", (.long x1))], ob x2 "com/example/cartonmark/cartonmark/gs1/Sscc" [("com/example/cartonmark/cartonmark/gs1/SsccDigits", "number", "J", (.long x3))], ob x4 "java/lang/String" [("java/lang/String", "value", "[B", (.ref x5)), ("java/lang/String", "coder", "B", (.int (0 : Int32)))], ar x5 .byte [(.int (x6.toInt8.toInt32)), (.int (x7.toInt8.toInt32)), (.int (x8.toInt8.toInt32)), (.int (x9.toInt8.toInt32)), (.int (x10.toInt8.toInt32)), (.int (x11.toInt8.toInt32)), (.int (x12.toInt8.toInt32)), (.int (x13.toInt8.toInt32)), (.int (x14.toInt8.toInt32)), (.int (x15.toInt8.toInt32)), (.int (x16.toInt8.toInt32)), (.int (x17.toInt8.toInt32)), (.int (x18.toInt8.toInt32)), (.int (x19.toInt8.toInt32)), (.int (x20.toInt8.toInt32)), (.int (x21.toInt8.toInt32)), (.int (x22.toInt8.toInt32)), (.int (x23.toInt8.toInt32))], ob x24 "com/example/cartonmark/cartonmark/gs1/Sscc" [("com/example/cartonmark/cartonmark/gs1/SsccDigits", "number", "J", (.long x25))], ob x26 "java/lang/String" [("java/lang/String", "value", "[B", (.ref x27)), ("java/lang/String", "coder", "B", (.int (0 : Int32)))], ar x27 .byte [(.int (x28.toInt8.toInt32)), (.int (x29.toInt8.toInt32)), (.int (x30.toInt8.toInt32)), (.int (x31.toInt8.toInt32)), (.int (x32.toInt8.toInt32)), (.int (x33.toInt8.toInt32)), (.int (x34.toInt8.toInt32)), (.int (x35.toInt8.toInt32)), (.int (x36.toInt8.toInt32)), (.int (x37.toInt8.toInt32)), (.int (x38.toInt8.toInt32)), (.int (x39.toInt8.toInt32)), (.int (x40.toInt8.toInt32)), (.int (x41.toInt8.toInt32)), (.int (x42.toInt8.toInt32)), (.int (x43.toInt8.toInt32)), (.int (x44.toInt8.toInt32)), (.int (x45.toInt8.toInt32))], ar x46 .char [(.int x6), (.int x7), (.int x8), (.int x9), (.int x10), (.int x11), (.int x12), (.int x13), (.int x14), (.int x15), (.int x16), (.int x17), (.int x18), (.int x19), (.int x20), (.int x21), (.int x22), (.int x23)], ar x47 .char [(.int x28), (.int x29), (.int x30), (.int x31), (.int x32), (.int x33), (.int x34), (.int x35), (.int x36), (.int x37), (.int x38), (.int x39), (.int x40), (.int x41), (.int x42), (.int x43), (.int x44), (.int x45)], ob x48 "java/lang/String" [("java/lang/String", "coder", "B", (.int (0 : Int32))), ("java/lang/String", "value", "[B", .null)]]
abbrev mem40 (x0 : Addr) (x1 : Int64) (x2 : Addr) (x3 : Int64) (x4 : Addr) (x5 : Addr) (x6 : Int32) (x7 : Int32) (x8 : Int32) (x9 : Int32) (x10 : Int32) (x11 : Int32) (x12 : Int32) (x13 : Int32) (x14 : Int32) (x15 : Int32) (x16 : Int32) (x17 : Int32) (x18 : Int32) (x19 : Int32) (x20 : Int32) (x21 : Int32) (x22 : Int32) (x23 : Int32) (x24 : Addr) (x25 : Int64) (x26 : Addr) (x27 : Addr) (x28 : Int32) (x29 : Int32) (x30 : Int32) (x31 : Int32) (x32 : Int32) (x33 : Int32) (x34 : Int32) (x35 : Int32) (x36 : Int32) (x37 : Int32) (x38 : Int32) (x39 : Int32) (x40 : Int32) (x41 : Int32) (x42 : Int32) (x43 : Int32) (x44 : Int32) (x45 : Int32) (x46 : Addr) (x47 : Addr) (x48 : Addr) (x49 : Addr) : Mem := [ob x0 "com/example/cartonmark/cartonmark/gs1/SsccReading" [("com/example/cartonmark/cartonmark/gs1/SsccDigits", "number", "J", (.long x1))], ob x2 "com/example/cartonmark/cartonmark/gs1/Sscc" [("com/example/cartonmark/cartonmark/gs1/SsccDigits", "number", "J", (.long x3))], ob x4 "java/lang/String" [("java/lang/String", "value", "[B", (.ref x5)), ("java/lang/String", "coder", "B", (.int (0 : Int32)))], ar x5 .byte [(.int (x6.toInt8.toInt32)), (.int (x7.toInt8.toInt32)), (.int (x8.toInt8.toInt32)), (.int (x9.toInt8.toInt32)), (.int (x10.toInt8.toInt32)), (.int (x11.toInt8.toInt32)), (.int (x12.toInt8.toInt32)), (.int (x13.toInt8.toInt32)), (.int (x14.toInt8.toInt32)), (.int (x15.toInt8.toInt32)), (.int (x16.toInt8.toInt32)), (.int (x17.toInt8.toInt32)), (.int (x18.toInt8.toInt32)), (.int (x19.toInt8.toInt32)), (.int (x20.toInt8.toInt32)), (.int (x21.toInt8.toInt32)), (.int (x22.toInt8.toInt32)), (.int (x23.toInt8.toInt32))], ob x24 "com/example/cartonmark/cartonmark/gs1/Sscc" [("com/example/cartonmark/cartonmark/gs1/SsccDigits", "number", "J", (.long x25))], ob x26 "java/lang/String" [("java/lang/String", "value", "[B", (.ref x27)), ("java/lang/String", "coder", "B", (.int (0 : Int32)))], ar x27 .byte [(.int (x28.toInt8.toInt32)), (.int (x29.toInt8.toInt32)), (.int (x30.toInt8.toInt32)), (.int (x31.toInt8.toInt32)), (.int (x32.toInt8.toInt32)), (.int (x33.toInt8.toInt32)), (.int (x34.toInt8.toInt32)), (.int (x35.toInt8.toInt32)), (.int (x36.toInt8.toInt32)), (.int (x37.toInt8.toInt32)), (.int (x38.toInt8.toInt32)), (.int (x39.toInt8.toInt32)), (.int (x40.toInt8.toInt32)), (.int (x41.toInt8.toInt32)), (.int (x42.toInt8.toInt32)), (.int (x43.toInt8.toInt32)), (.int (x44.toInt8.toInt32)), (.int (x45.toInt8.toInt32))], ar x46 .char [(.int x6), (.int x7), (.int x8), (.int x9), (.int x10), (.int x11), (.int x12), (.int x13), (.int x14), (.int x15), (.int x16), (.int x17), (.int x18), (.int x19), (.int x20), (.int x21), (.int x22), (.int x23)], ar x47 .char [(.int x28), (.int x29), (.int x30), (.int x31), (.int x32), (.int x33), (.int x34), (.int x35), (.int x36), (.int x37), (.int x38), (.int x39), (.int x40), (.int x41), (.int x42), (.int x43), (.int x44), (.int x45)], ob x48 "java/lang/String" [("java/lang/String", "value", "[B", (.ref x49)), ("java/lang/String", "coder", "B", (.int (0 : Int32)))], ar x49 .byte [(.int (x6.toInt8.toInt32)), (.int (x7.toInt8.toInt32)), (.int (x8.toInt8.toInt32)), (.int (x9.toInt8.toInt32)), (.int (x10.toInt8.toInt32)), (.int (x11.toInt8.toInt32)), (.int (x12.toInt8.toInt32)), (.int (x13.toInt8.toInt32)), (.int (x14.toInt8.toInt32)), (.int (x15.toInt8.toInt32)), (.int (x16.toInt8.toInt32)), (.int (x17.toInt8.toInt32)), (.int (x18.toInt8.toInt32)), (.int (x19.toInt8.toInt32)), (.int (x20.toInt8.toInt32)), (.int (x21.toInt8.toInt32)), (.int (x22.toInt8.toInt32)), (.int (x23.toInt8.toInt32))]]
abbrev mem41 (x0 : Addr) (x1 : Int64) (x2 : Addr) (x3 : Addr) (x4 : Int32) (x5 : Int32) (x6 : Int32) (x7 : Int32) (x8 : Int32) (x9 : Int32) (x10 : Int32) (x11 : Int32) (x12 : Int32) (x13 : Int32) (x14 : Int32) (x15 : Int32) (x16 : Int32) (x17 : Int32) (x18 : Int32) (x19 : Int32) (x20 : Int32) (x21 : Int32) (x22 : Addr) (x23 : Int64) (x24 : Addr) (x25 : Int64) (x26 : Addr) (x27 : Addr) (x28 : Addr) (x29 : Addr) (x30 : Int32) (x31 : Int32) (x32 : Int32) (x33 : Int32) (x34 : Int32) (x35 : Int32) (x36 : Int32) (x37 : Int32) (x38 : Int32) (x39 : Int32) (x40 : Int32) (x41 : Int32) (x42 : Int32) (x43 : Int32) (x44 : Int32) (x45 : Int32) (x46 : Int32) (x47 : Int32) (x48 : Addr) (x49 : Addr) : Mem := [ob x0 "com/example/cartonmark/cartonmark/gs1/Sscc" [("com/example/cartonmark/cartonmark/gs1/SsccDigits", "number", "J", (.long x1))], ob x2 "java/lang/String" [("java/lang/String", "value", "[B", (.ref x3)), ("java/lang/String", "coder", "B", (.int (0 : Int32)))], ar x3 .byte [(.int (x4.toInt8.toInt32)), (.int (x5.toInt8.toInt32)), (.int (x6.toInt8.toInt32)), (.int (x7.toInt8.toInt32)), (.int (x8.toInt8.toInt32)), (.int (x9.toInt8.toInt32)), (.int (x10.toInt8.toInt32)), (.int (x11.toInt8.toInt32)), (.int (x12.toInt8.toInt32)), (.int (x13.toInt8.toInt32)), (.int (x14.toInt8.toInt32)), (.int (x15.toInt8.toInt32)), (.int (x16.toInt8.toInt32)), (.int (x17.toInt8.toInt32)), (.int (x18.toInt8.toInt32)), (.int (x19.toInt8.toInt32)), (.int (x20.toInt8.toInt32)), (.int (x21.toInt8.toInt32))], ob x22 "com/example/cartonmark/cartonmark/gs1/SsccReading" [("com/example/cartonmark/cartonmark/gs1/SsccDigits", "number", "J", (.long x23))], ob x24 "com/example/cartonmark/cartonmark/gs1/Sscc" [("com/example/cartonmark/cartonmark/gs1/SsccDigits", "number", "J", (.long x25))], ob x26 "java/lang/String" [("java/lang/String", "value", "[B", (.ref x27)), ("java/lang/String", "coder", "B", (.int (0 : Int32)))], ar x27 .byte [(.int (x4.toInt8.toInt32)), (.int (x5.toInt8.toInt32)), (.int (x6.toInt8.toInt32)), (.int (x7.toInt8.toInt32)), (.int (x8.toInt8.toInt32)), (.int (x9.toInt8.toInt32)), (.int (x10.toInt8.toInt32)), (.int (x11.toInt8.toInt32)), (.int (x12.toInt8.toInt32)), (.int (x13.toInt8.toInt32)), (.int (x14.toInt8.toInt32)), (.int (x15.toInt8.toInt32)), (.int (x16.toInt8.toInt32)), (.int (x17.toInt8.toInt32)), (.int (x18.toInt8.toInt32)), (.int (x19.toInt8.toInt32)), (.int (x20.toInt8.toInt32)), (.int (x21.toInt8.toInt32))], ob x28 "java/lang/String" [("java/lang/String", "value", "[B", (.ref x29)), ("java/lang/String", "coder", "B", (.int (0 : Int32)))], ar x29 .byte [(.int (x30.toInt8.toInt32)), (.int (x31.toInt8.toInt32)), (.int (x32.toInt8.toInt32)), (.int (x33.toInt8.toInt32)), (.int (x34.toInt8.toInt32)), (.int (x35.toInt8.toInt32)), (.int (x36.toInt8.toInt32)), (.int (x37.toInt8.toInt32)), (.int (x38.toInt8.toInt32)), (.int (x39.toInt8.toInt32)), (.int (x40.toInt8.toInt32)), (.int (x41.toInt8.toInt32)), (.int (x42.toInt8.toInt32)), (.int (x43.toInt8.toInt32)), (.int (x44.toInt8.toInt32)), (.int (x45.toInt8.toInt32)), (.int (x46.toInt8.toInt32)), (.int (x47.toInt8.toInt32))], ar x48 .char [(.int x4), (.int x5), (.int x6), (.int x7), (.int x8), (.int x9), (.int x10), (.int x11), (.int x12), (.int x13), (.int x14), (.int x15), (.int x16), (.int x17), (.int x18), (.int x19), (.int x20), (.int x21)], ar x49 .char [(.int x30), (.int x31), (.int x32), (.int x33), (.int x34), (.int x35), (.int x36), (.int x37), (.int x38), (.int x39), (.int x40), (.int x41), (.int x42), (.int x43), (.int x44), (.int x45), (.int x46), (.int x47)]]
abbrev mem42 (x0 : Addr) (x1 : Int64) (x2 : Addr) (x3 : Int64) (x4 : Addr) (x5 : Addr) (x6 : Int32) (x7 : Int32) (x8 : Int32) (x9 : Int32) (x10 : Int32) (x11 : Int32) (x12 : Int32) (x13 : Int32) (x14 : Int32) (x15 : Int32) (x16 : Int32) (x17 : Int32) (x18 : Int32) (x19 : Int32) (x20 : Int32) (x21 : Int32) (x22 : Int32) (x23 : Int32) (x24 : Addr) (x25 : Addr) (x26 : Int32) (x27 : Int32) (x28 : Int32) (x29 : Int32) (x30 : Int32) (x31 : Int32) (x32 : Int32) (x33 : Int32) (x34 : Int32) (x35 : Int32) (x36 : Int32) (x37 : Int32) (x38 : Int32) (x39 : Int32) (x40 : Int32) (x41 : Int32) (x42 : Int32) (x43 : Int32) (x44 : Addr) (x45 : Addr) : Mem := [ob x0 "com/example/cartonmark/cartonmark/gs1/SsccReading" [("com/example/cartonmark/cartonmark/gs1/SsccDigits", "number", "J", (.long x1))], ob x2 "com/example/cartonmark/cartonmark/gs1/Sscc" [("com/example/cartonmark/cartonmark/gs1/SsccDigits", "number", "J", (.long x3))], ob x4 "java/lang/String" [("java/lang/String", "value", "[B", (.ref x5)), ("java/lang/String", "coder", "B", (.int (0 : Int32)))], ar x5 .byte [(.int (x6.toInt8.toInt32)), (.int (x7.toInt8.toInt32)), (.int (x8.toInt8.toInt32)), (.int (x9.toInt8.toInt32)), (.int (x10.toInt8.toInt32)), (.int (x11.toInt8.toInt32)), (.int (x12.toInt8.toInt32)), (.int (x13.toInt8.toInt32)), (.int (x14.toInt8.toInt32)), (.int (x15.toInt8.toInt32)), (.int (x16.toInt8.toInt32)), (.int (x17.toInt8.toInt32)), (.int (x18.toInt8.toInt32)), (.int (x19.toInt8.toInt32)), (.int (x20.toInt8.toInt32)), (.int (x21.toInt8.toInt32)), (.int (x22.toInt8.toInt32)), (.int (x23.toInt8.toInt32))], ob x24 "java/lang/String" [("java/lang/String", "value", "[B", (.ref x25)), ("java/lang/String", "coder", "B", (.int (0 : Int32)))], ar x25 .byte [(.int (x26.toInt8.toInt32)), (.int (x27.toInt8.toInt32)), (.int (x28.toInt8.toInt32)), (.int (x29.toInt8.toInt32)), (.int (x30.toInt8.toInt32)), (.int (x31.toInt8.toInt32)), (.int (x32.toInt8.toInt32)), (.int (x33.toInt8.toInt32)), (.int (x34.toInt8.toInt32)), (.int (x35.toInt8.toInt32)), (.int (x36.toInt8.toInt32)), (.int (x37.toInt8.toInt32)), (.int (x38.toInt8.toInt32)), (.int (x39.toInt8.toInt32)), (.int (x40.toInt8.toInt32)), (.int (x41.toInt8.toInt32)), (.int (x42.toInt8.toInt32)), (.int (x43.toInt8.toInt32))], ar x44 .char [(.int x6), (.int x7), (.int x8), (.int x9), (.int x10), (.int x11), (.int x12), (.int x13), (.int x14), (.int x15), (.int x16), (.int x17), (.int x18), (.int x19), (.int x20), (.int x21), (.int x22), (.int x23)], ar x45 .char [(.int x26), (.int x27), (.int x28), (.int x29), (.int x30), (.int x31), (.int x32), (.int x33), (.int x34), (.int x35), (.int x36), (.int x37), (.int x38), (.int x39), (.int x40), (.int x41), (.int x42), (.int x43)]]
abbrev mem43 (x0 : Addr) (x1 : Int64) (x2 : Addr) (x3 : Int64) (x4 : Addr) (x5 : Int64) (x6 : Addr) (x7 : Addr) (x8 : Int32) (x9 : Int32) (x10 : Int32) (x11 : Int32) (x12 : Int32) (x13 : Int32) (x14 : Int32) (x15 : Int32) (x16 : Int32) (x17 : Int32) (x18 : Int32) (x19 : Int32) (x20 : Int32) (x21 : Int32) (x22 : Int32) (x23 : Int32) (x24 : Int32) (x25 : Int32) (x26 : Addr) (x27 : Addr) (x28 : Int32) (x29 : Int32) (x30 : Int32) (x31 : Int32) (x32 : Int32) (x33 : Int32) (x34 : Int32) (x35 : Int32) (x36 : Int32) (x37 : Int32) (x38 : Int32) (x39 : Int32) (x40 : Int32) (x41 : Int32) (x42 : Int32) (x43 : Int32) (x44 : Int32) (x45 : Int32) (x46 : Addr) (x47 : Addr) (x48 : Addr) (x49 : Addr) : Mem := [ob x0 "com/example/cartonmark/cartonmark/gs1/Sscc" [("com/example/cartonmark/cartonmark/gs1/SsccDigits", "number", "J", (.long x1))], ob x2 "com/example/cartonmark/cartonmark/gs1/SsccReading" [("com/example/cartonmark/cartonmark/gs1/SsccDigits", "number", "J", (.long x3))], ob x4 "com/example/cartonmark/cartonmark/gs1/Sscc" [("com/example/cartonmark/cartonmark/gs1/SsccDigits", "number", "J", (.long x5))], ob x6 "java/lang/String" [("java/lang/String", "value", "[B", (.ref x7)), ("java/lang/String", "coder", "B", (.int (0 : Int32)))], ar x7 .byte [(.int (x8.toInt8.toInt32)), (.int (x9.toInt8.toInt32)), (.int (x10.toInt8.toInt32)), (.int (x11.toInt8.toInt32)), (.int (x12.toInt8.toInt32)), (.int (x13.toInt8.toInt32)), (.int (x14.toInt8.toInt32)), (.int (x15.toInt8.toInt32)), (.int (x16.toInt8.toInt32)), (.int (x17.toInt8.toInt32)), (.int (x18.toInt8.toInt32)), (.int (x19.toInt8.toInt32)), (.int (x20.toInt8.toInt32)), (.int (x21.toInt8.toInt32)), (.int (x22.toInt8.toInt32)), (.int (x23.toInt8.toInt32)), (.int (x24.toInt8.toInt32)), (.int (x25.toInt8.toInt32))], ob x26 "java/lang/String" [("java/lang/String", "value", "[B", (.ref x27)), ("java/lang/String", "coder", "B", (.int (0 : Int32)))], ar x27 .byte [(.int (x28.toInt8.toInt32)), (.int (x29.toInt8.toInt32)), (.int (x30.toInt8.toInt32)), (.int (x31.toInt8.toInt32)), (.int (x32.toInt8.toInt32)), (.int (x33.toInt8.toInt32)), (.int (x34.toInt8.toInt32)), (.int (x35.toInt8.toInt32)), (.int (x36.toInt8.toInt32)), (.int (x37.toInt8.toInt32)), (.int (x38.toInt8.toInt32)), (.int (x39.toInt8.toInt32)), (.int (x40.toInt8.toInt32)), (.int (x41.toInt8.toInt32)), (.int (x42.toInt8.toInt32)), (.int (x43.toInt8.toInt32)), (.int (x44.toInt8.toInt32)), (.int (x45.toInt8.toInt32))], ar x46 .char [(.int x8), (.int x9), (.int x10), (.int x11), (.int x12), (.int x13), (.int x14), (.int x15), (.int x16), (.int x17), (.int x18), (.int x19), (.int x20), (.int x21), (.int x22), (.int x23), (.int x24), (.int x25)], ar x47 .char [(.int x28), (.int x29), (.int x30), (.int x31), (.int x32), (.int x33), (.int x34), (.int x35), (.int x36), (.int x37), (.int x38), (.int x39), (.int x40), (.int x41), (.int x42), (.int x43), (.int x44), (.int x45)], ob x48 "java/lang/String" [("java/lang/String", "value", "[B", (.ref x49)), ("java/lang/String", "coder", "B", (.int (0 : Int32)))], ar x49 .byte [(.int (x8.toInt8.toInt32)), (.int (x9.toInt8.toInt32)), (.int (x10.toInt8.toInt32)), (.int (x11.toInt8.toInt32)), (.int (x12.toInt8.toInt32)), (.int (x13.toInt8.toInt32)), (.int (x14.toInt8.toInt32)), (.int (x15.toInt8.toInt32)), (.int (x16.toInt8.toInt32)), (.int (x17.toInt8.toInt32)), (.int (x18.toInt8.toInt32)), (.int (x19.toInt8.toInt32)), (.int (x20.toInt8.toInt32)), (.int (x21.toInt8.toInt32)), (.int (x22.toInt8.toInt32)), (.int (x23.toInt8.toInt32)), (.int (x24.toInt8.toInt32)), (.int (x25.toInt8.toInt32))]]
abbrev mem44 (x0 : Addr) (x1 : Int64) (x2 : Addr) (x3 : Int64) (x4 : Addr) (x5 : Addr) (x6 : Int32) (x7 : Int32) (x8 : Int32) (x9 : Int32) (x10 : Int32) (x11 : Int32) (x12 : Int32) (x13 : Int32) (x14 : Int32) (x15 : Int32) (x16 : Int32) (x17 : Int32) (x18 : Int32) (x19 : Int32) (x20 : Int32) (x21 : Int32) (x22 : Int32) (x23 : Int32) (x24 : Addr) (x25 : Addr) (x26 : Int32) (x27 : Int32) (x28 : Int32) (x29 : Int32) (x30 : Int32) (x31 : Int32) (x32 : Int32) (x33 : Int32) (x34 : Int32) (x35 : Int32) (x36 : Int32) (x37 : Int32) (x38 : Int32) (x39 : Int32) (x40 : Int32) (x41 : Int32) (x42 : Int32) (x43 : Int32) (x44 : Addr) (x45 : Addr) (x46 : Addr) (x47 : Addr) : Mem := [ob x0 "com/example/cartonmark/cartonmark/gs1/SsccReading" [("com/example/cartonmark/cartonmark/gs1/SsccDigits", "number", "J", (.long x1))], ob x2 "com/example/cartonmark/cartonmark/gs1/Sscc" [("com/example/cartonmark/cartonmark/gs1/SsccDigits", "number", "J", (.long x3))], ob x4 "java/lang/String" [("java/lang/String", "value", "[B", (.ref x5)), ("java/lang/String", "coder", "B", (.int (0 : Int32)))], ar x5 .byte [(.int (x6.toInt8.toInt32)), (.int (x7.toInt8.toInt32)), (.int (x8.toInt8.toInt32)), (.int (x9.toInt8.toInt32)), (.int (x10.toInt8.toInt32)), (.int (x11.toInt8.toInt32)), (.int (x12.toInt8.toInt32)), (.int (x13.toInt8.toInt32)), (.int (x14.toInt8.toInt32)), (.int (x15.toInt8.toInt32)), (.int (x16.toInt8.toInt32)), (.int (x17.toInt8.toInt32)), (.int (x18.toInt8.toInt32)), (.int (x19.toInt8.toInt32)), (.int (x20.toInt8.toInt32)), (.int (x21.toInt8.toInt32)), (.int (x22.toInt8.toInt32)), (.int (x23.toInt8.toInt32))], ob x24 "java/lang/String" [("java/lang/String", "value", "[B", (.ref x25)), ("java/lang/String", "coder", "B", (.int (0 : Int32)))], ar x25 .byte [(.int (x26.toInt8.toInt32)), (.int (x27.toInt8.toInt32)), (.int (x28.toInt8.toInt32)), (.int (x29.toInt8.toInt32)), (.int (x30.toInt8.toInt32)), (.int (x31.toInt8.toInt32)), (.int (x32.toInt8.toInt32)), (.int (x33.toInt8.toInt32)), (.int (x34.toInt8.toInt32)), (.int (x35.toInt8.toInt32)), (.int (x36.toInt8.toInt32)), (.int (x37.toInt8.toInt32)), (.int (x38.toInt8.toInt32)), (.int (x39.toInt8.toInt32)), (.int (x40.toInt8.toInt32)), (.int (x41.toInt8.toInt32)), (.int (x42.toInt8.toInt32)), (.int (x43.toInt8.toInt32))], ar x44 .char [(.int x6), (.int x7), (.int x8), (.int x9), (.int x10), (.int x11), (.int x12), (.int x13), (.int x14), (.int x15), (.int x16), (.int x17), (.int x18), (.int x19), (.int x20), (.int x21), (.int x22), (.int x23)], ar x45 .char [(.int x26), (.int x27), (.int x28), (.int x29), (.int x30), (.int x31), (.int x32), (.int x33), (.int x34), (.int x35), (.int x36), (.int x37), (.int x38), (.int x39), (.int x40), (.int x41), (.int x42), (.int x43)], ob x46 "java/lang/String" [("java/lang/String", "value", "[B", (.ref x47)), ("java/lang/String", "coder", "B", (.int (0 : Int32)))], ar x47 .byte [(.int (x6.toInt8.toInt32)), (.int (x7.toInt8.toInt32)), (.int (x8.toInt8.toInt32)), (.int (x9.toInt8.toInt32)), (.int (x10.toInt8.toInt32)), (.int (x11.toInt8.toInt32)), (.int (x12.toInt8.toInt32)), (.int (x13.toInt8.toInt32)), (.int (x14.toInt8.toInt32)), (.int (x15.toInt8.toInt32)), (.int (x16.toInt8.toInt32)), (.int (x17.toInt8.toInt32)), (.int (x18.toInt8.toInt32)), (.int (x19.toInt8.toInt32)), (.int (x20.toInt8.toInt32)), (.int (x21.toInt8.toInt32)), (.int (x22.toInt8.toInt32)), (.int (x23.toInt8.toInt32))]]
abbrev mem45 (x0 : Addr) (x1 : Int64) (x2 : Addr) (x3 : Int64) (x4 : Addr) (x5 : Int64) (x6 : Addr) (x7 : Addr) (x8 : Int32) (x9 : Int32) (x10 : Int32) (x11 : Int32) (x12 : Int32) (x13 : Int32) (x14 : Int32) (x15 : Int32) (x16 : Int32) (x17 : Int32) (x18 : Int32) (x19 : Int32) (x20 : Int32) (x21 : Int32) (x22 : Int32) (x23 : Int32) (x24 : Int32) (x25 : Int32) (x26 : Addr) (x27 : Addr) (x28 : Int32) (x29 : Int32) (x30 : Int32) (x31 : Int32) (x32 : Int32) (x33 : Int32) (x34 : Int32) (x35 : Int32) (x36 : Int32) (x37 : Int32) (x38 : Int32) (x39 : Int32) (x40 : Int32) (x41 : Int32) (x42 : Int32) (x43 : Int32) (x44 : Int32) (x45 : Int32) (x46 : Addr) (x47 : Addr) (x48 : Addr) (x49 : Addr) : Mem := [ob x0 "com/example/cartonmark/cartonmark/gs1/SsccReading" [("com/example/cartonmark/cartonmark/gs1/SsccDigits", "number", "J", (.long x1))], ob x2 "com/example/cartonmark/cartonmark/gs1/Sscc" [("com/example/cartonmark/cartonmark/gs1/SsccDigits", "number", "J", (.long x3))], ob x4 "com/example/cartonmark/cartonmark/gs1/Sscc" [("com/example/cartonmark/cartonmark/gs1/SsccDigits", "number", "J", (.long x5))], ob x6 "java/lang/String" [("java/lang/String", "value", "[B", (.ref x7)), ("java/lang/String", "coder", "B", (.int (0 : Int32)))], ar x7 .byte [(.int (x8.toInt8.toInt32)), (.int (x9.toInt8.toInt32)), (.int (x10.toInt8.toInt32)), (.int (x11.toInt8.toInt32)), (.int (x12.toInt8.toInt32)), (.int (x13.toInt8.toInt32)), (.int (x14.toInt8.toInt32)), (.int (x15.toInt8.toInt32)), (.int (x16.toInt8.toInt32)), (.int (x17.toInt8.toInt32)), (.int (x18.toInt8.toInt32)), (.int (x19.toInt8.toInt32)), (.int (x20.toInt8.toInt32)), (.int (x21.toInt8.toInt32)), (.int (x22.toInt8.toInt32)), (.int (x23.toInt8.toInt32)), (.int (x24.toInt8.toInt32)), (.int (x25.toInt8.toInt32))], ob x26 "java/lang/String" [("java/lang/String", "value", "[B", (.ref x27)), ("java/lang/String", "coder", "B", (.int (0 : Int32)))], ar x27 .byte [(.int (x28.toInt8.toInt32)), (.int (x29.toInt8.toInt32)), (.int (x30.toInt8.toInt32)), (.int (x31.toInt8.toInt32)), (.int (x32.toInt8.toInt32)), (.int (x33.toInt8.toInt32)), (.int (x34.toInt8.toInt32)), (.int (x35.toInt8.toInt32)), (.int (x36.toInt8.toInt32)), (.int (x37.toInt8.toInt32)), (.int (x38.toInt8.toInt32)), (.int (x39.toInt8.toInt32)), (.int (x40.toInt8.toInt32)), (.int (x41.toInt8.toInt32)), (.int (x42.toInt8.toInt32)), (.int (x43.toInt8.toInt32)), (.int (x44.toInt8.toInt32)), (.int (x45.toInt8.toInt32))], ar x46 .char [(.int x8), (.int x9), (.int x10), (.int x11), (.int x12), (.int x13), (.int x14), (.int x15), (.int x16), (.int x17), (.int x18), (.int x19), (.int x20), (.int x21), (.int x22), (.int x23), (.int x24), (.int x25)], ar x47 .char [(.int x28), (.int x29), (.int x30), (.int x31), (.int x32), (.int x33), (.int x34), (.int x35), (.int x36), (.int x37), (.int x38), (.int x39), (.int x40), (.int x41), (.int x42), (.int x43), (.int x44), (.int x45)], ob x48 "java/lang/String" [("java/lang/String", "value", "[B", (.ref x49)), ("java/lang/String", "coder", "B", (.int (0 : Int32)))], ar x49 .byte [(.int (x8.toInt8.toInt32)), (.int (x9.toInt8.toInt32)), (.int (x10.toInt8.toInt32)), (.int (x11.toInt8.toInt32)), (.int (x12.toInt8.toInt32)), (.int (x13.toInt8.toInt32)), (.int (x14.toInt8.toInt32)), (.int (x15.toInt8.toInt32)), (.int (x16.toInt8.toInt32)), (.int (x17.toInt8.toInt32)), (.int (x18.toInt8.toInt32)), (.int (x19.toInt8.toInt32)), (.int (x20.toInt8.toInt32)), (.int (x21.toInt8.toInt32)), (.int (x22.toInt8.toInt32)), (.int (x23.toInt8.toInt32)), (.int (x24.toInt8.toInt32)), (.int (x25.toInt8.toInt32))]]
abbrev mem46 (x0 : Addr) (x1 : Int64) (x2 : Addr) (x3 : Addr) (x4 : Int32) (x5 : Int32) (x6 : Int32) (x7 : Int32) (x8 : Int32) (x9 : Int32) (x10 : Int32) (x11 : Int32) (x12 : Int32) (x13 : Int32) (x14 : Int32) (x15 : Int32) (x16 : Int32) (x17 : Int32) (x18 : Int32) (x19 : Int32) (x20 : Int32) (x21 : Int32) (x22 : Addr) (x23 : Addr) (x24 : Int32) (x25 : Int32) (x26 : Int32) (x27 : Int32) (x28 : Int32) (x29 : Int32) (x30 : Int32) (x31 : Int32) (x32 : Int32) (x33 : Int32) (x34 : Int32) (x35 : Int32) (x36 : Int32) (x37 : Int32) (x38 : Int32) (x39 : Int32) (x40 : Int32) (x41 : Int32) (x42 : Addr) (x43 : Addr) (x44 : Addr) (x45 : Addr) : Mem := [ob x0 "com/example/cartonmark/cartonmark/gs1/Sscc" [("com/example/cartonmark/cartonmark/gs1/SsccDigits", "number", "J", (.long x1))], ob x2 "java/lang/String" [("java/lang/String", "value", "[B", (.ref x3)), ("java/lang/String", "coder", "B", (.int (0 : Int32)))], ar x3 .byte [(.int (x4.toInt8.toInt32)), (.int (x5.toInt8.toInt32)), (.int (x6.toInt8.toInt32)), (.int (x7.toInt8.toInt32)), (.int (x8.toInt8.toInt32)), (.int (x9.toInt8.toInt32)), (.int (x10.toInt8.toInt32)), (.int (x11.toInt8.toInt32)), (.int (x12.toInt8.toInt32)), (.int (x13.toInt8.toInt32)), (.int (x14.toInt8.toInt32)), (.int (x15.toInt8.toInt32)), (.int (x16.toInt8.toInt32)), (.int (x17.toInt8.toInt32)), (.int (x18.toInt8.toInt32)), (.int (x19.toInt8.toInt32)), (.int (x20.toInt8.toInt32)), (.int (x21.toInt8.toInt32))], ob x22 "java/lang/String" [("java/lang/String", "value", "[B", (.ref x23)), ("java/lang/String", "coder", "B", (.int (0 : Int32)))], ar x23 .byte [(.int (x24.toInt8.toInt32)), (.int (x25.toInt8.toInt32)), (.int (x26.toInt8.toInt32)), (.int (x27.toInt8.toInt32)), (.int (x28.toInt8.toInt32)), (.int (x29.toInt8.toInt32)), (.int (x30.toInt8.toInt32)), (.int (x31.toInt8.toInt32)), (.int (x32.toInt8.toInt32)), (.int (x33.toInt8.toInt32)), (.int (x34.toInt8.toInt32)), (.int (x35.toInt8.toInt32)), (.int (x36.toInt8.toInt32)), (.int (x37.toInt8.toInt32)), (.int (x38.toInt8.toInt32)), (.int (x39.toInt8.toInt32)), (.int (x40.toInt8.toInt32)), (.int (x41.toInt8.toInt32))], ar x42 .char [(.int x4), (.int x5), (.int x6), (.int x7), (.int x8), (.int x9), (.int x10), (.int x11), (.int x12), (.int x13), (.int x14), (.int x15), (.int x16), (.int x17), (.int x18), (.int x19), (.int x20), (.int x21)], ar x43 .char [(.int x24), (.int x25), (.int x26), (.int x27), (.int x28), (.int x29), (.int x30), (.int x31), (.int x32), (.int x33), (.int x34), (.int x35), (.int x36), (.int x37), (.int x38), (.int x39), (.int x40), (.int x41)], ob x44 "java/lang/String" [("java/lang/String", "value", "[B", (.ref x45)), ("java/lang/String", "coder", "B", (.int (0 : Int32)))], ar x45 .byte [(.int (x4.toInt8.toInt32)), (.int (x5.toInt8.toInt32)), (.int (x6.toInt8.toInt32)), (.int (x7.toInt8.toInt32)), (.int (x8.toInt8.toInt32)), (.int (x9.toInt8.toInt32)), (.int (x10.toInt8.toInt32)), (.int (x11.toInt8.toInt32)), (.int (x12.toInt8.toInt32)), (.int (x13.toInt8.toInt32)), (.int (x14.toInt8.toInt32)), (.int (x15.toInt8.toInt32)), (.int (x16.toInt8.toInt32)), (.int (x17.toInt8.toInt32)), (.int (x18.toInt8.toInt32)), (.int (x19.toInt8.toInt32)), (.int (x20.toInt8.toInt32)), (.int (x21.toInt8.toInt32))]]
abbrev mem47 (x0 : Addr) (x1 : Int64) (x2 : Addr) (x3 : Int64) (x4 : Addr) (x5 : Int64) (x6 : Addr) (x7 : Addr) (x8 : Int32) (x9 : Int32) (x10 : Int32) (x11 : Int32) (x12 : Int32) (x13 : Int32) (x14 : Int32) (x15 : Int32) (x16 : Int32) (x17 : Int32) (x18 : Int32) (x19 : Int32) (x20 : Int32) (x21 : Int32) (x22 : Int32) (x23 : Int32) (x24 : Int32) (x25 : Int32) (x26 : Addr) (x27 : Addr) (x28 : Int32) (x29 : Int32) (x30 : Int32) (x31 : Int32) (x32 : Int32) (x33 : Int32) (x34 : Int32) (x35 : Int32) (x36 : Int32) (x37 : Int32) (x38 : Int32) (x39 : Int32) (x40 : Int32) (x41 : Int32) (x42 : Int32) (x43 : Int32) (x44 : Int32) (x45 : Int32) (x46 : Addr) (x47 : Addr) (x48 : Addr) (x49 : Addr) : Mem := [ob x0 "com/example/cartonmark/cartonmark/gs1/Sscc" [("com/example/cartonmark/cartonmark/gs1/SsccDigits", "number", "J", (.long x1))], ob x2 "com/example/cartonmark/cartonmark/gs1/Sscc" [("com/example/cartonmark/cartonmark/gs1/SsccDigits", "number", "J", (.long x3))], ob x4 "com/example/cartonmark/cartonmark/gs1/SsccReading" [("com/example/cartonmark/cartonmark/gs1/SsccDigits", "number", "J", (.long x5))], ob x6 "java/lang/String" [("java/lang/String", "value", "[B", (.ref x7)), ("java/lang/String", "coder", "B", (.int (0 : Int32)))], ar x7 .byte [(.int (x8.toInt8.toInt32)), (.int (x9.toInt8.toInt32)), (.int (x10.toInt8.toInt32)), (.int (x11.toInt8.toInt32)), (.int (x12.toInt8.toInt32)), (.int (x13.toInt8.toInt32)), (.int (x14.toInt8.toInt32)), (.int (x15.toInt8.toInt32)), (.int (x16.toInt8.toInt32)), (.int (x17.toInt8.toInt32)), (.int (x18.toInt8.toInt32)), (.int (x19.toInt8.toInt32)), (.int (x20.toInt8.toInt32)), (.int (x21.toInt8.toInt32)), (.int (x22.toInt8.toInt32)), (.int (x23.toInt8.toInt32)), (.int (x24.toInt8.toInt32)), (.int (x25.toInt8.toInt32))], ob x26 "java/lang/String" [("java/lang/String", "value", "[B", (.ref x27)), ("java/lang/String", "coder", "B", (.int (0 : Int32)))], ar x27 .byte [(.int (x28.toInt8.toInt32)), (.int (x29.toInt8.toInt32)), (.int (x30.toInt8.toInt32)), (.int (x31.toInt8.toInt32)), (.int (x32.toInt8.toInt32)), (.int (x33.toInt8.toInt32)), (.int (x34.toInt8.toInt32)), (.int (x35.toInt8.toInt32)), (.int (x36.toInt8.toInt32)), (.int (x37.toInt8.toInt32)), (.int (x38.toInt8.toInt32)), (.int (x39.toInt8.toInt32)), (.int (x40.toInt8.toInt32)), (.int (x41.toInt8.toInt32)), (.int (x42.toInt8.toInt32)), (.int (x43.toInt8.toInt32)), (.int (x44.toInt8.toInt32)), (.int (x45.toInt8.toInt32))], ar x46 .char [(.int x8), (.int x9), (.int x10), (.int x11), (.int x12), (.int x13), (.int x14), (.int x15), (.int x16), (.int x17), (.int x18), (.int x19), (.int x20), (.int x21), (.int x22), (.int x23), (.int x24), (.int x25)], ar x47 .char [(.int x28), (.int x29), (.int x30), (.int x31), (.int x32), (.int x33), (.int x34), (.int x35), (.int x36), (.int x37), (.int x38), (.int x39), (.int x40), (.int x41), (.int x42), (.int x43), (.int x44), (.int x45)], ob x48 "java/lang/String" [("java/lang/String", "value", "[B", (.ref x49)), ("java/lang/String", "coder", "B", (.int (0 : Int32)))], ar x49 .byte [(.int (x8.toInt8.toInt32)), (.int (x9.toInt8.toInt32)), (.int (x10.toInt8.toInt32)), (.int (x11.toInt8.toInt32)), (.int (x12.toInt8.toInt32)), (.int (x13.toInt8.toInt32)), (.int (x14.toInt8.toInt32)), (.int (x15.toInt8.toInt32)), (.int (x16.toInt8.toInt32)), (.int (x17.toInt8.toInt32)), (.int (x18.toInt8.toInt32)), (.int (x19.toInt8.toInt32)), (.int (x20.toInt8.toInt32)), (.int (x21.toInt8.toInt32)), (.int (x22.toInt8.toInt32)), (.int (x23.toInt8.toInt32)), (.int (x24.toInt8.toInt32)), (.int (x25.toInt8.toInt32))]]
abbrev mem48 (x0 : Addr) (x1 : Int64) (x2 : Addr) (x3 : Addr) (x4 : Int32) (x5 : Int32) (x6 : Int32) (x7 : Int32) (x8 : Int32) (x9 : Int32) (x10 : Int32) (x11 : Int32) (x12 : Int32) (x13 : Int32) (x14 : Int32) (x15 : Int32) (x16 : Int32) (x17 : Int32) (x18 : Int32) (x19 : Int32) (x20 : Int32) (x21 : Int32) (x22 : Addr) (x23 : Addr) (x24 : Int32) (x25 : Int32) (x26 : Int32) (x27 : Int32) (x28 : Int32) (x29 : Int32) (x30 : Int32) (x31 : Int32) (x32 : Int32) (x33 : Int32) (x34 : Int32) (x35 : Int32) (x36 : Int32) (x37 : Int32) (x38 : Int32) (x39 : Int32) (x40 : Int32) (x41 : Int32) (x42 : Addr) (x43 : Addr) (x44 : Addr) (x45 : Addr) : Mem := [ob x0 "com/example/cartonmark/cartonmark/gs1/SsccReading" [("com/example/cartonmark/cartonmark/gs1/SsccDigits", "number", "J", (.long x1))], ob x2 "java/lang/String" [("java/lang/String", "value", "[B", (.ref x3)), ("java/lang/String", "coder", "B", (.int (0 : Int32)))], ar x3 .byte [(.int (x4.toInt8.toInt32)), (.int (x5.toInt8.toInt32)), (.int (x6.toInt8.toInt32)), (.int (x7.toInt8.toInt32)), (.int (x8.toInt8.toInt32)), (.int (x9.toInt8.toInt32)), (.int (x10.toInt8.toInt32)), (.int (x11.toInt8.toInt32)), (.int (x12.toInt8.toInt32)), (.int (x13.toInt8.toInt32)), (.int (x14.toInt8.toInt32)), (.int (x15.toInt8.toInt32)), (.int (x16.toInt8.toInt32)), (.int (x17.toInt8.toInt32)), (.int (x18.toInt8.toInt32)), (.int (x19.toInt8.toInt32)), (.int (x20.toInt8.toInt32)), (.int (x21.toInt8.toInt32))], ob x22 "java/lang/String" [("java/lang/String", "value", "[B", (.ref x23)), ("java/lang/String", "coder", "B", (.int (0 : Int32)))], ar x23 .byte [(.int (x24.toInt8.toInt32)), (.int (x25.toInt8.toInt32)), (.int (x26.toInt8.toInt32)), (.int (x27.toInt8.toInt32)), (.int (x28.toInt8.toInt32)), (.int (x29.toInt8.toInt32)), (.int (x30.toInt8.toInt32)), (.int (x31.toInt8.toInt32)), (.int (x32.toInt8.toInt32)), (.int (x33.toInt8.toInt32)), (.int (x34.toInt8.toInt32)), (.int (x35.toInt8.toInt32)), (.int (x36.toInt8.toInt32)), (.int (x37.toInt8.toInt32)), (.int (x38.toInt8.toInt32)), (.int (x39.toInt8.toInt32)), (.int (x40.toInt8.toInt32)), (.int (x41.toInt8.toInt32))], ar x42 .char [(.int x4), (.int x5), (.int x6), (.int x7), (.int x8), (.int x9), (.int x10), (.int x11), (.int x12), (.int x13), (.int x14), (.int x15), (.int x16), (.int x17), (.int x18), (.int x19), (.int x20), (.int x21)], ar x43 .char [(.int x24), (.int x25), (.int x26), (.int x27), (.int x28), (.int x29), (.int x30), (.int x31), (.int x32), (.int x33), (.int x34), (.int x35), (.int x36), (.int x37), (.int x38), (.int x39), (.int x40), (.int x41)], ob x44 "java/lang/String" [("java/lang/String", "value", "[B", (.ref x45)), ("java/lang/String", "coder", "B", (.int (0 : Int32)))], ar x45 .byte [(.int (x4.toInt8.toInt32)), (.int (x5.toInt8.toInt32)), (.int (x6.toInt8.toInt32)), (.int (x7.toInt8.toInt32)), (.int (x8.toInt8.toInt32)), (.int (x9.toInt8.toInt32)), (.int (x10.toInt8.toInt32)), (.int (x11.toInt8.toInt32)), (.int (x12.toInt8.toInt32)), (.int (x13.toInt8.toInt32)), (.int (x14.toInt8.toInt32)), (.int (x15.toInt8.toInt32)), (.int (x16.toInt8.toInt32)), (.int (x17.toInt8.toInt32)), (.int (x18.toInt8.toInt32)), (.int (x19.toInt8.toInt32)), (.int (x20.toInt8.toInt32)), (.int (x21.toInt8.toInt32))]]

theorem d2_0 : decode method_3_code 0 = .ok (.lload_n 0, 1) := by decide +kernel
theorem d2_1 : decode method_3_code 1 = .ok (.lload_n 2, 1) := by decide +kernel
theorem d2_2 : decode method_3_code 2 = .ok (.ldiv, 1) := by decide +kernel
theorem d2_3 : decode method_3_code 3 = .ok (.ldc2_w 13, 3) := by decide +kernel
theorem d2_6 : decode method_3_code 6 = .ok (.lrem, 1) := by decide +kernel
theorem d2_7 : decode method_3_code 7 = .ok (.l2i, 1) := by decide +kernel
theorem d2_8 : decode method_3_code 8 = .ok (.ireturn, 1) := by decide +kernel
theorem pn2 : plainFor (⟨"com/example/cartonmark/cartonmark/gs1/SsccEqualsPinLaw", "d", "(JJ)I"⟩ : MethodName) = true := by first | (apply plainFor_of_name; simp [plainName, overriddenIn]; done) | decide +kernel
def B2 : Bdy := (⟨"com/example/cartonmark/cartonmark/gs1/SsccEqualsPinLaw", "d", "(JJ)I"⟩, method_3_code, 4, (some .int), ({ frames := 0, cells := 0, slots := 0, locals := 0 } : Room))
theorem m_d (Z : State) (a0 : Array Value) (hw : ∀ d ∈ tables_1, d.before a0 Z = true) (h0 : Heap) (ds : Mem) (q1 q2 : Int64) (p : Int) (nz : q2 ≠ 0) (hP : q2.toInt = p) (hp : 0 < p) (hq : 0 ≤ q1.toInt) :
    Met B2 Z a0 h0 #[(.long q1), (.long q2)] ds (fun v ds' => ∃ z : Int32, v = some (.int z) ∧ ds = ds' ∧ z.toInt = q1.toInt / p % 10) := by
  refine Met.of pn2 (ls := #[.val (.long q1), .second, .val (.long q2), .second]) (fun m => by first | (simp [entryFrame, mkF, argsToLocals, Value.category, B2]; done) | rfl) ?_
  show Go B2 Z a0 h0 _ 0 0 ds 0 #[.val (.long q1), .second, .val (.long q2), .second] []
  refine go_lloadN 1 rfl d2_0 rfl ?_
  refine go_lloadN 2 rfl d2_1 rfl ?_
  refine go_ldiv 3 rfl d2_2 rfl nz ?_
  refine go_ldc2 (v := (10 : Int64)) 6 rfl d2_3 (wd hw 2 rfl) ?_
  refine go_lrem 7 rfl d2_6 rfl (by decide) ?_
  refine go_l2i 8 rfl d2_7 rfl ?_
  exact go_ireturn d2_8 rfl (Or.inl rfl) rfl rfl (by decide) (by decide) ⟨_, rfl, rfl, dgv q1 q2 p hP hp hq⟩
theorem d1_0 : decode method_4_code 0 = .ok (.ldc2_w 46, 3) := by decide +kernel
theorem d1_3 : decode method_4_code 3 = .ok (.lload_n 0, 1) := by decide +kernel
theorem d1_4 : decode method_4_code 4 = .ok (.lconst 1, 1) := by decide +kernel
theorem d1_5 : decode method_4_code 5 = .ok (.invokestatic 48, 3) := by decide +kernel
theorem d1_8 : decode method_4_code 8 = .ok (.i2l, 1) := by decide +kernel
theorem d1_9 : decode method_4_code 9 = .ok (.lmul, 1) := by decide +kernel
theorem d1_10 : decode method_4_code 10 = .ok (.lload_n 0, 1) := by decide +kernel
theorem d1_11 : decode method_4_code 11 = .ok (.ldc2_w 13, 3) := by decide +kernel
theorem d1_14 : decode method_4_code 14 = .ok (.invokestatic 48, 3) := by decide +kernel
theorem d1_17 : decode method_4_code 17 = .ok (.i2l, 1) := by decide +kernel
theorem d1_18 : decode method_4_code 18 = .ok (.ladd, 1) := by decide +kernel
theorem d1_19 : decode method_4_code 19 = .ok (.ldc2_w 46, 3) := by decide +kernel
theorem d1_22 : decode method_4_code 22 = .ok (.lload_n 0, 1) := by decide +kernel
theorem d1_23 : decode method_4_code 23 = .ok (.ldc2_w 52, 3) := by decide +kernel
theorem d1_26 : decode method_4_code 26 = .ok (.invokestatic 48, 3) := by decide +kernel
theorem d1_29 : decode method_4_code 29 = .ok (.i2l, 1) := by decide +kernel
theorem d1_30 : decode method_4_code 30 = .ok (.lmul, 1) := by decide +kernel
theorem d1_31 : decode method_4_code 31 = .ok (.ladd, 1) := by decide +kernel
theorem d1_32 : decode method_4_code 32 = .ok (.lload_n 0, 1) := by decide +kernel
theorem d1_33 : decode method_4_code 33 = .ok (.ldc2_w 54, 3) := by decide +kernel
theorem d1_36 : decode method_4_code 36 = .ok (.invokestatic 48, 3) := by decide +kernel
theorem d1_39 : decode method_4_code 39 = .ok (.i2l, 1) := by decide +kernel
theorem d1_40 : decode method_4_code 40 = .ok (.ladd, 1) := by decide +kernel
theorem d1_41 : decode method_4_code 41 = .ok (.ldc2_w 46, 3) := by decide +kernel
theorem d1_44 : decode method_4_code 44 = .ok (.lload_n 0, 1) := by decide +kernel
theorem d1_45 : decode method_4_code 45 = .ok (.ldc2_w 56, 3) := by decide +kernel
theorem d1_48 : decode method_4_code 48 = .ok (.invokestatic 48, 3) := by decide +kernel
theorem d1_51 : decode method_4_code 51 = .ok (.i2l, 1) := by decide +kernel
theorem d1_52 : decode method_4_code 52 = .ok (.lmul, 1) := by decide +kernel
theorem d1_53 : decode method_4_code 53 = .ok (.ladd, 1) := by decide +kernel
theorem d1_54 : decode method_4_code 54 = .ok (.lload_n 0, 1) := by decide +kernel
theorem d1_55 : decode method_4_code 55 = .ok (.ldc2_w 58, 3) := by decide +kernel
theorem d1_58 : decode method_4_code 58 = .ok (.invokestatic 48, 3) := by decide +kernel
theorem d1_61 : decode method_4_code 61 = .ok (.i2l, 1) := by decide +kernel
theorem d1_62 : decode method_4_code 62 = .ok (.ladd, 1) := by decide +kernel
theorem d1_63 : decode method_4_code 63 = .ok (.ldc2_w 46, 3) := by decide +kernel
theorem d1_66 : decode method_4_code 66 = .ok (.lload_n 0, 1) := by decide +kernel
theorem d1_67 : decode method_4_code 67 = .ok (.ldc2_w 60, 3) := by decide +kernel
theorem d1_70 : decode method_4_code 70 = .ok (.invokestatic 48, 3) := by decide +kernel
theorem d1_73 : decode method_4_code 73 = .ok (.i2l, 1) := by decide +kernel
theorem d1_74 : decode method_4_code 74 = .ok (.lmul, 1) := by decide +kernel
theorem d1_75 : decode method_4_code 75 = .ok (.ladd, 1) := by decide +kernel
theorem d1_76 : decode method_4_code 76 = .ok (.lload_n 0, 1) := by decide +kernel
theorem d1_77 : decode method_4_code 77 = .ok (.ldc2_w 62, 3) := by decide +kernel
theorem d1_80 : decode method_4_code 80 = .ok (.invokestatic 48, 3) := by decide +kernel
theorem d1_83 : decode method_4_code 83 = .ok (.i2l, 1) := by decide +kernel
theorem d1_84 : decode method_4_code 84 = .ok (.ladd, 1) := by decide +kernel
theorem d1_85 : decode method_4_code 85 = .ok (.ldc2_w 46, 3) := by decide +kernel
theorem d1_88 : decode method_4_code 88 = .ok (.lload_n 0, 1) := by decide +kernel
theorem d1_89 : decode method_4_code 89 = .ok (.ldc2_w 64, 3) := by decide +kernel
theorem d1_92 : decode method_4_code 92 = .ok (.invokestatic 48, 3) := by decide +kernel
theorem d1_95 : decode method_4_code 95 = .ok (.i2l, 1) := by decide +kernel
theorem d1_96 : decode method_4_code 96 = .ok (.lmul, 1) := by decide +kernel
theorem d1_97 : decode method_4_code 97 = .ok (.ladd, 1) := by decide +kernel
theorem d1_98 : decode method_4_code 98 = .ok (.lload_n 0, 1) := by decide +kernel
theorem d1_99 : decode method_4_code 99 = .ok (.ldc2_w 66, 3) := by decide +kernel
theorem d1_102 : decode method_4_code 102 = .ok (.invokestatic 48, 3) := by decide +kernel
theorem d1_105 : decode method_4_code 105 = .ok (.i2l, 1) := by decide +kernel
theorem d1_106 : decode method_4_code 106 = .ok (.ladd, 1) := by decide +kernel
theorem d1_107 : decode method_4_code 107 = .ok (.ldc2_w 46, 3) := by decide +kernel
theorem d1_110 : decode method_4_code 110 = .ok (.lload_n 0, 1) := by decide +kernel
theorem d1_111 : decode method_4_code 111 = .ok (.ldc2_w 68, 3) := by decide +kernel
theorem d1_114 : decode method_4_code 114 = .ok (.invokestatic 48, 3) := by decide +kernel
theorem d1_117 : decode method_4_code 117 = .ok (.i2l, 1) := by decide +kernel
theorem d1_118 : decode method_4_code 118 = .ok (.lmul, 1) := by decide +kernel
theorem d1_119 : decode method_4_code 119 = .ok (.ladd, 1) := by decide +kernel
theorem d1_120 : decode method_4_code 120 = .ok (.lload_n 0, 1) := by decide +kernel
theorem d1_121 : decode method_4_code 121 = .ok (.ldc2_w 70, 3) := by decide +kernel
theorem d1_124 : decode method_4_code 124 = .ok (.invokestatic 48, 3) := by decide +kernel
theorem d1_127 : decode method_4_code 127 = .ok (.i2l, 1) := by decide +kernel
theorem d1_128 : decode method_4_code 128 = .ok (.ladd, 1) := by decide +kernel
theorem d1_129 : decode method_4_code 129 = .ok (.ldc2_w 46, 3) := by decide +kernel
theorem d1_132 : decode method_4_code 132 = .ok (.lload_n 0, 1) := by decide +kernel
theorem d1_133 : decode method_4_code 133 = .ok (.ldc2_w 72, 3) := by decide +kernel
theorem d1_136 : decode method_4_code 136 = .ok (.invokestatic 48, 3) := by decide +kernel
theorem d1_139 : decode method_4_code 139 = .ok (.i2l, 1) := by decide +kernel
theorem d1_140 : decode method_4_code 140 = .ok (.lmul, 1) := by decide +kernel
theorem d1_141 : decode method_4_code 141 = .ok (.ladd, 1) := by decide +kernel
theorem d1_142 : decode method_4_code 142 = .ok (.lload_n 0, 1) := by decide +kernel
theorem d1_143 : decode method_4_code 143 = .ok (.ldc2_w 74, 3) := by decide +kernel
theorem d1_146 : decode method_4_code 146 = .ok (.invokestatic 48, 3) := by decide +kernel
theorem d1_149 : decode method_4_code 149 = .ok (.i2l, 1) := by decide +kernel
theorem d1_150 : decode method_4_code 150 = .ok (.ladd, 1) := by decide +kernel
theorem d1_151 : decode method_4_code 151 = .ok (.ldc2_w 46, 3) := by decide +kernel
theorem d1_154 : decode method_4_code 154 = .ok (.lload_n 0, 1) := by decide +kernel
theorem d1_155 : decode method_4_code 155 = .ok (.ldc2_w 76, 3) := by decide +kernel
theorem d1_158 : decode method_4_code 158 = .ok (.invokestatic 48, 3) := by decide +kernel
theorem d1_161 : decode method_4_code 161 = .ok (.i2l, 1) := by decide +kernel
theorem d1_162 : decode method_4_code 162 = .ok (.lmul, 1) := by decide +kernel
theorem d1_163 : decode method_4_code 163 = .ok (.ladd, 1) := by decide +kernel
theorem d1_164 : decode method_4_code 164 = .ok (.lload_n 0, 1) := by decide +kernel
theorem d1_165 : decode method_4_code 165 = .ok (.ldc2_w 78, 3) := by decide +kernel
theorem d1_168 : decode method_4_code 168 = .ok (.invokestatic 48, 3) := by decide +kernel
theorem d1_171 : decode method_4_code 171 = .ok (.i2l, 1) := by decide +kernel
theorem d1_172 : decode method_4_code 172 = .ok (.ladd, 1) := by decide +kernel
theorem d1_173 : decode method_4_code 173 = .ok (.ldc2_w 46, 3) := by decide +kernel
theorem d1_176 : decode method_4_code 176 = .ok (.lload_n 0, 1) := by decide +kernel
theorem d1_177 : decode method_4_code 177 = .ok (.ldc2_w 80, 3) := by decide +kernel
theorem d1_180 : decode method_4_code 180 = .ok (.invokestatic 48, 3) := by decide +kernel
theorem d1_183 : decode method_4_code 183 = .ok (.i2l, 1) := by decide +kernel
theorem d1_184 : decode method_4_code 184 = .ok (.lmul, 1) := by decide +kernel
theorem d1_185 : decode method_4_code 185 = .ok (.ladd, 1) := by decide +kernel
theorem d1_186 : decode method_4_code 186 = .ok (.lstore_n 2, 1) := by decide +kernel
theorem d1_187 : decode method_4_code 187 = .ok (.ldc2_w 13, 3) := by decide +kernel
theorem d1_190 : decode method_4_code 190 = .ok (.lload_n 2, 1) := by decide +kernel
theorem d1_191 : decode method_4_code 191 = .ok (.ldc2_w 13, 3) := by decide +kernel
theorem d1_194 : decode method_4_code 194 = .ok (.lrem, 1) := by decide +kernel
theorem d1_195 : decode method_4_code 195 = .ok (.lsub, 1) := by decide +kernel
theorem d1_196 : decode method_4_code 196 = .ok (.ldc2_w 13, 3) := by decide +kernel
theorem d1_199 : decode method_4_code 199 = .ok (.lrem, 1) := by decide +kernel
theorem d1_200 : decode method_4_code 200 = .ok (.l2i, 1) := by decide +kernel
theorem d1_201 : decode method_4_code 201 = .ok (.ireturn, 1) := by decide +kernel
theorem pn1 : plainFor (⟨"com/example/cartonmark/cartonmark/gs1/SsccEqualsPinLaw", "check", "(J)I"⟩ : MethodName) = true := by first | (apply plainFor_of_name; simp [plainName, overriddenIn]; done) | decide +kernel
def B1 : Bdy := (⟨"com/example/cartonmark/cartonmark/gs1/SsccEqualsPinLaw", "check", "(J)I"⟩, method_4_code, 4, (some .int), ({ frames := 1, cells := 0, slots := 0, locals := 19 } : Room))
theorem m_check (Z : State) (a0 : Array Value) (hw : ∀ d ∈ tables_1, d.before a0 Z = true) (h0 : Heap) (ds : Mem) (q1 : Int64) (hq : 0 ≤ q1.toInt) :
    Met B1 Z a0 h0 #[(.long q1)] ds (fun v ds' => ∃ z : Int32, v = some (.int z) ∧ ds = ds' ∧ z.toInt = (10 - SB q1.toInt % 10) % 10) := by
  refine Met.of pn1 (ls := #[.val (.long q1), .second, .unset, .unset]) (fun m => by first | (simp [entryFrame, mkF, argsToLocals, Value.category, B1]; done) | rfl) ?_
  show Go B1 Z a0 h0 _ 0 0 ds 0 #[.val (.long q1), .second, .unset, .unset] []
  refine go_ldc2 (v := (3 : Int64)) 3 rfl d1_0 (wd hw 7 rfl) ?_
  refine go_lloadN 4 rfl d1_3 rfl ?_
  refine go_lconst (1 : Int64) 5 rfl d1_4 rfl ?_
  refine go_callS 8 rfl d1_5 (wd hw 8 rfl) (wd hw 9 rfl) (wd hw 5 rfl) (wd hw 10 rfl) (by decide) (m_d Z a0 hw h0 ds q1 (1 : Int64) 1 (by decide) rfl (by decide) hq) (argsL := [(.long q1), (.long (1 : Int64))]) (rest := [(.long (3 : Int64))]) rfl (ps := [.long, .long]) (by decide +kernel) rfl rfl 2 rfl (by decide) (by decide) (by decide) (by decide) ?_
  rintro _ _ ⟨z40, rfl, rfl, e0⟩
  show Go B1 Z a0 h0 _ 0 0 ds 8 #[.val (.long q1), .second, .unset, .unset] [(.int z40), (.long (3 : Int64))]
  have f0 : 0 ≤ z40.toInt ∧ z40.toInt ≤ 9 := by rw [e0]; omega
  refine go_i2l 9 rfl d1_8 rfl ?_
  refine go_lmul 10 rfl d1_9 rfl ?_
  refine go_lloadN 11 rfl d1_10 rfl ?_
  refine go_ldc2 (v := (10 : Int64)) 14 rfl d1_11 (wd hw 2 rfl) ?_
  refine go_callS 17 rfl d1_14 (wd hw 8 rfl) (wd hw 9 rfl) (wd hw 5 rfl) (wd hw 10 rfl) (by decide) (m_d Z a0 hw h0 ds q1 (10 : Int64) 10 (by decide) rfl (by decide) hq) (argsL := [(.long q1), (.long (10 : Int64))]) (rest := [(.long ((3 : Int64) * (z40.toInt64)))]) rfl (ps := [.long, .long]) (by decide +kernel) rfl rfl 2 rfl (by decide) (by decide) (by decide) (by decide) ?_
  rintro _ _ ⟨z41, rfl, rfl, e1⟩
  show Go B1 Z a0 h0 _ 0 0 ds 17 #[.val (.long q1), .second, .unset, .unset] [(.int z41), (.long ((3 : Int64) * (z40.toInt64)))]
  have f1 : 0 ≤ z41.toInt ∧ z41.toInt ≤ 9 := by rw [e1]; omega
  refine go_i2l 18 rfl d1_17 rfl ?_
  refine go_ladd 19 rfl d1_18 rfl ?_
  refine go_ldc2 (v := (3 : Int64)) 22 rfl d1_19 (wd hw 7 rfl) ?_
  refine go_lloadN 23 rfl d1_22 rfl ?_
  refine go_ldc2 (v := (100 : Int64)) 26 rfl d1_23 (wd hw 11 rfl) ?_
  refine go_callS 29 rfl d1_26 (wd hw 8 rfl) (wd hw 9 rfl) (wd hw 5 rfl) (wd hw 10 rfl) (by decide) (m_d Z a0 hw h0 ds q1 (100 : Int64) 100 (by decide) rfl (by decide) hq) (argsL := [(.long q1), (.long (100 : Int64))]) (rest := [(.long (3 : Int64)), (.long (((3 : Int64) * (z40.toInt64)) + (z41.toInt64)))]) rfl (ps := [.long, .long]) (by decide +kernel) rfl rfl 4 rfl (by decide) (by decide) (by decide) (by decide) ?_
  rintro _ _ ⟨z42, rfl, rfl, e2⟩
  show Go B1 Z a0 h0 _ 0 0 ds 29 #[.val (.long q1), .second, .unset, .unset] [(.int z42), (.long (3 : Int64)), (.long (((3 : Int64) * (z40.toInt64)) + (z41.toInt64)))]
  have f2 : 0 ≤ z42.toInt ∧ z42.toInt ≤ 9 := by rw [e2]; omega
  refine go_i2l 30 rfl d1_29 rfl ?_
  refine go_lmul 31 rfl d1_30 rfl ?_
  refine go_ladd 32 rfl d1_31 rfl ?_
  refine go_lloadN 33 rfl d1_32 rfl ?_
  refine go_ldc2 (v := (1000 : Int64)) 36 rfl d1_33 (wd hw 12 rfl) ?_
  refine go_callS 39 rfl d1_36 (wd hw 8 rfl) (wd hw 9 rfl) (wd hw 5 rfl) (wd hw 10 rfl) (by decide) (m_d Z a0 hw h0 ds q1 (1000 : Int64) 1000 (by decide) rfl (by decide) hq) (argsL := [(.long q1), (.long (1000 : Int64))]) (rest := [(.long ((((3 : Int64) * (z40.toInt64)) + (z41.toInt64)) + ((3 : Int64) * (z42.toInt64))))]) rfl (ps := [.long, .long]) (by decide +kernel) rfl rfl 2 rfl (by decide) (by decide) (by decide) (by decide) ?_
  rintro _ _ ⟨z43, rfl, rfl, e3⟩
  show Go B1 Z a0 h0 _ 0 0 ds 39 #[.val (.long q1), .second, .unset, .unset] [(.int z43), (.long ((((3 : Int64) * (z40.toInt64)) + (z41.toInt64)) + ((3 : Int64) * (z42.toInt64))))]
  have f3 : 0 ≤ z43.toInt ∧ z43.toInt ≤ 9 := by rw [e3]; omega
  refine go_i2l 40 rfl d1_39 rfl ?_
  refine go_ladd 41 rfl d1_40 rfl ?_
  refine go_ldc2 (v := (3 : Int64)) 44 rfl d1_41 (wd hw 7 rfl) ?_
  refine go_lloadN 45 rfl d1_44 rfl ?_
  refine go_ldc2 (v := (10000 : Int64)) 48 rfl d1_45 (wd hw 13 rfl) ?_
  refine go_callS 51 rfl d1_48 (wd hw 8 rfl) (wd hw 9 rfl) (wd hw 5 rfl) (wd hw 10 rfl) (by decide) (m_d Z a0 hw h0 ds q1 (10000 : Int64) 10000 (by decide) rfl (by decide) hq) (argsL := [(.long q1), (.long (10000 : Int64))]) (rest := [(.long (3 : Int64)), (.long (((((3 : Int64) * (z40.toInt64)) + (z41.toInt64)) + ((3 : Int64) * (z42.toInt64))) + (z43.toInt64)))]) rfl (ps := [.long, .long]) (by decide +kernel) rfl rfl 4 rfl (by decide) (by decide) (by decide) (by decide) ?_
  rintro _ _ ⟨z44, rfl, rfl, e4⟩
  show Go B1 Z a0 h0 _ 0 0 ds 51 #[.val (.long q1), .second, .unset, .unset] [(.int z44), (.long (3 : Int64)), (.long (((((3 : Int64) * (z40.toInt64)) + (z41.toInt64)) + ((3 : Int64) * (z42.toInt64))) + (z43.toInt64)))]
  have f4 : 0 ≤ z44.toInt ∧ z44.toInt ≤ 9 := by rw [e4]; omega
  refine go_i2l 52 rfl d1_51 rfl ?_
  refine go_lmul 53 rfl d1_52 rfl ?_
  refine go_ladd 54 rfl d1_53 rfl ?_
  refine go_lloadN 55 rfl d1_54 rfl ?_
  refine go_ldc2 (v := (100000 : Int64)) 58 rfl d1_55 (wd hw 14 rfl) ?_
  refine go_callS 61 rfl d1_58 (wd hw 8 rfl) (wd hw 9 rfl) (wd hw 5 rfl) (wd hw 10 rfl) (by decide) (m_d Z a0 hw h0 ds q1 (100000 : Int64) 100000 (by decide) rfl (by decide) hq) (argsL := [(.long q1), (.long (100000 : Int64))]) (rest := [(.long ((((((3 : Int64) * (z40.toInt64)) + (z41.toInt64)) + ((3 : Int64) * (z42.toInt64))) + (z43.toInt64)) + ((3 : Int64) * (z44.toInt64))))]) rfl (ps := [.long, .long]) (by decide +kernel) rfl rfl 2 rfl (by decide) (by decide) (by decide) (by decide) ?_
  rintro _ _ ⟨z45, rfl, rfl, e5⟩
  show Go B1 Z a0 h0 _ 0 0 ds 61 #[.val (.long q1), .second, .unset, .unset] [(.int z45), (.long ((((((3 : Int64) * (z40.toInt64)) + (z41.toInt64)) + ((3 : Int64) * (z42.toInt64))) + (z43.toInt64)) + ((3 : Int64) * (z44.toInt64))))]
  have f5 : 0 ≤ z45.toInt ∧ z45.toInt ≤ 9 := by rw [e5]; omega
  refine go_i2l 62 rfl d1_61 rfl ?_
  refine go_ladd 63 rfl d1_62 rfl ?_
  refine go_ldc2 (v := (3 : Int64)) 66 rfl d1_63 (wd hw 7 rfl) ?_
  refine go_lloadN 67 rfl d1_66 rfl ?_
  refine go_ldc2 (v := (1000000 : Int64)) 70 rfl d1_67 (wd hw 15 rfl) ?_
  refine go_callS 73 rfl d1_70 (wd hw 8 rfl) (wd hw 9 rfl) (wd hw 5 rfl) (wd hw 10 rfl) (by decide) (m_d Z a0 hw h0 ds q1 (1000000 : Int64) 1000000 (by decide) rfl (by decide) hq) (argsL := [(.long q1), (.long (1000000 : Int64))]) (rest := [(.long (3 : Int64)), (.long (((((((3 : Int64) * (z40.toInt64)) + (z41.toInt64)) + ((3 : Int64) * (z42.toInt64))) + (z43.toInt64)) + ((3 : Int64) * (z44.toInt64))) + (z45.toInt64)))]) rfl (ps := [.long, .long]) (by decide +kernel) rfl rfl 4 rfl (by decide) (by decide) (by decide) (by decide) ?_
  rintro _ _ ⟨z46, rfl, rfl, e6⟩
  show Go B1 Z a0 h0 _ 0 0 ds 73 #[.val (.long q1), .second, .unset, .unset] [(.int z46), (.long (3 : Int64)), (.long (((((((3 : Int64) * (z40.toInt64)) + (z41.toInt64)) + ((3 : Int64) * (z42.toInt64))) + (z43.toInt64)) + ((3 : Int64) * (z44.toInt64))) + (z45.toInt64)))]
  have f6 : 0 ≤ z46.toInt ∧ z46.toInt ≤ 9 := by rw [e6]; omega
  refine go_i2l 74 rfl d1_73 rfl ?_
  refine go_lmul 75 rfl d1_74 rfl ?_
  refine go_ladd 76 rfl d1_75 rfl ?_
  refine go_lloadN 77 rfl d1_76 rfl ?_
  refine go_ldc2 (v := (10000000 : Int64)) 80 rfl d1_77 (wd hw 16 rfl) ?_
  refine go_callS 83 rfl d1_80 (wd hw 8 rfl) (wd hw 9 rfl) (wd hw 5 rfl) (wd hw 10 rfl) (by decide) (m_d Z a0 hw h0 ds q1 (10000000 : Int64) 10000000 (by decide) rfl (by decide) hq) (argsL := [(.long q1), (.long (10000000 : Int64))]) (rest := [(.long ((((((((3 : Int64) * (z40.toInt64)) + (z41.toInt64)) + ((3 : Int64) * (z42.toInt64))) + (z43.toInt64)) + ((3 : Int64) * (z44.toInt64))) + (z45.toInt64)) + ((3 : Int64) * (z46.toInt64))))]) rfl (ps := [.long, .long]) (by decide +kernel) rfl rfl 2 rfl (by decide) (by decide) (by decide) (by decide) ?_
  rintro _ _ ⟨z47, rfl, rfl, e7⟩
  show Go B1 Z a0 h0 _ 0 0 ds 83 #[.val (.long q1), .second, .unset, .unset] [(.int z47), (.long ((((((((3 : Int64) * (z40.toInt64)) + (z41.toInt64)) + ((3 : Int64) * (z42.toInt64))) + (z43.toInt64)) + ((3 : Int64) * (z44.toInt64))) + (z45.toInt64)) + ((3 : Int64) * (z46.toInt64))))]
  have f7 : 0 ≤ z47.toInt ∧ z47.toInt ≤ 9 := by rw [e7]; omega
  refine go_i2l 84 rfl d1_83 rfl ?_
  refine go_ladd 85 rfl d1_84 rfl ?_
  refine go_ldc2 (v := (3 : Int64)) 88 rfl d1_85 (wd hw 7 rfl) ?_
  refine go_lloadN 89 rfl d1_88 rfl ?_
  refine go_ldc2 (v := (100000000 : Int64)) 92 rfl d1_89 (wd hw 17 rfl) ?_
  refine go_callS 95 rfl d1_92 (wd hw 8 rfl) (wd hw 9 rfl) (wd hw 5 rfl) (wd hw 10 rfl) (by decide) (m_d Z a0 hw h0 ds q1 (100000000 : Int64) 100000000 (by decide) rfl (by decide) hq) (argsL := [(.long q1), (.long (100000000 : Int64))]) (rest := [(.long (3 : Int64)), (.long (((((((((3 : Int64) * (z40.toInt64)) + (z41.toInt64)) + ((3 : Int64) * (z42.toInt64))) + (z43.toInt64)) + ((3 : Int64) * (z44.toInt64))) + (z45.toInt64)) + ((3 : Int64) * (z46.toInt64))) + (z47.toInt64)))]) rfl (ps := [.long, .long]) (by decide +kernel) rfl rfl 4 rfl (by decide) (by decide) (by decide) (by decide) ?_
  rintro _ _ ⟨z48, rfl, rfl, e8⟩
  show Go B1 Z a0 h0 _ 0 0 ds 95 #[.val (.long q1), .second, .unset, .unset] [(.int z48), (.long (3 : Int64)), (.long (((((((((3 : Int64) * (z40.toInt64)) + (z41.toInt64)) + ((3 : Int64) * (z42.toInt64))) + (z43.toInt64)) + ((3 : Int64) * (z44.toInt64))) + (z45.toInt64)) + ((3 : Int64) * (z46.toInt64))) + (z47.toInt64)))]
  have f8 : 0 ≤ z48.toInt ∧ z48.toInt ≤ 9 := by rw [e8]; omega
  refine go_i2l 96 rfl d1_95 rfl ?_
  refine go_lmul 97 rfl d1_96 rfl ?_
  refine go_ladd 98 rfl d1_97 rfl ?_
  refine go_lloadN 99 rfl d1_98 rfl ?_
  refine go_ldc2 (v := (1000000000 : Int64)) 102 rfl d1_99 (wd hw 18 rfl) ?_
  refine go_callS 105 rfl d1_102 (wd hw 8 rfl) (wd hw 9 rfl) (wd hw 5 rfl) (wd hw 10 rfl) (by decide) (m_d Z a0 hw h0 ds q1 (1000000000 : Int64) 1000000000 (by decide) rfl (by decide) hq) (argsL := [(.long q1), (.long (1000000000 : Int64))]) (rest := [(.long ((((((((((3 : Int64) * (z40.toInt64)) + (z41.toInt64)) + ((3 : Int64) * (z42.toInt64))) + (z43.toInt64)) + ((3 : Int64) * (z44.toInt64))) + (z45.toInt64)) + ((3 : Int64) * (z46.toInt64))) + (z47.toInt64)) + ((3 : Int64) * (z48.toInt64))))]) rfl (ps := [.long, .long]) (by decide +kernel) rfl rfl 2 rfl (by decide) (by decide) (by decide) (by decide) ?_
  rintro _ _ ⟨z49, rfl, rfl, e9⟩
  show Go B1 Z a0 h0 _ 0 0 ds 105 #[.val (.long q1), .second, .unset, .unset] [(.int z49), (.long ((((((((((3 : Int64) * (z40.toInt64)) + (z41.toInt64)) + ((3 : Int64) * (z42.toInt64))) + (z43.toInt64)) + ((3 : Int64) * (z44.toInt64))) + (z45.toInt64)) + ((3 : Int64) * (z46.toInt64))) + (z47.toInt64)) + ((3 : Int64) * (z48.toInt64))))]
  have f9 : 0 ≤ z49.toInt ∧ z49.toInt ≤ 9 := by rw [e9]; omega
  refine go_i2l 106 rfl d1_105 rfl ?_
  refine go_ladd 107 rfl d1_106 rfl ?_
  refine go_ldc2 (v := (3 : Int64)) 110 rfl d1_107 (wd hw 7 rfl) ?_
  refine go_lloadN 111 rfl d1_110 rfl ?_
  refine go_ldc2 (v := (10000000000 : Int64)) 114 rfl d1_111 (wd hw 19 rfl) ?_
  refine go_callS 117 rfl d1_114 (wd hw 8 rfl) (wd hw 9 rfl) (wd hw 5 rfl) (wd hw 10 rfl) (by decide) (m_d Z a0 hw h0 ds q1 (10000000000 : Int64) 10000000000 (by decide) rfl (by decide) hq) (argsL := [(.long q1), (.long (10000000000 : Int64))]) (rest := [(.long (3 : Int64)), (.long (((((((((((3 : Int64) * (z40.toInt64)) + (z41.toInt64)) + ((3 : Int64) * (z42.toInt64))) + (z43.toInt64)) + ((3 : Int64) * (z44.toInt64))) + (z45.toInt64)) + ((3 : Int64) * (z46.toInt64))) + (z47.toInt64)) + ((3 : Int64) * (z48.toInt64))) + (z49.toInt64)))]) rfl (ps := [.long, .long]) (by decide +kernel) rfl rfl 4 rfl (by decide) (by decide) (by decide) (by decide) ?_
  rintro _ _ ⟨z50, rfl, rfl, e10⟩
  show Go B1 Z a0 h0 _ 0 0 ds 117 #[.val (.long q1), .second, .unset, .unset] [(.int z50), (.long (3 : Int64)), (.long (((((((((((3 : Int64) * (z40.toInt64)) + (z41.toInt64)) + ((3 : Int64) * (z42.toInt64))) + (z43.toInt64)) + ((3 : Int64) * (z44.toInt64))) + (z45.toInt64)) + ((3 : Int64) * (z46.toInt64))) + (z47.toInt64)) + ((3 : Int64) * (z48.toInt64))) + (z49.toInt64)))]
  have f10 : 0 ≤ z50.toInt ∧ z50.toInt ≤ 9 := by rw [e10]; omega
  refine go_i2l 118 rfl d1_117 rfl ?_
  refine go_lmul 119 rfl d1_118 rfl ?_
  refine go_ladd 120 rfl d1_119 rfl ?_
  refine go_lloadN 121 rfl d1_120 rfl ?_
  refine go_ldc2 (v := (100000000000 : Int64)) 124 rfl d1_121 (wd hw 20 rfl) ?_
  refine go_callS 127 rfl d1_124 (wd hw 8 rfl) (wd hw 9 rfl) (wd hw 5 rfl) (wd hw 10 rfl) (by decide) (m_d Z a0 hw h0 ds q1 (100000000000 : Int64) 100000000000 (by decide) rfl (by decide) hq) (argsL := [(.long q1), (.long (100000000000 : Int64))]) (rest := [(.long ((((((((((((3 : Int64) * (z40.toInt64)) + (z41.toInt64)) + ((3 : Int64) * (z42.toInt64))) + (z43.toInt64)) + ((3 : Int64) * (z44.toInt64))) + (z45.toInt64)) + ((3 : Int64) * (z46.toInt64))) + (z47.toInt64)) + ((3 : Int64) * (z48.toInt64))) + (z49.toInt64)) + ((3 : Int64) * (z50.toInt64))))]) rfl (ps := [.long, .long]) (by decide +kernel) rfl rfl 2 rfl (by decide) (by decide) (by decide) (by decide) ?_
  rintro _ _ ⟨z51, rfl, rfl, e11⟩
  show Go B1 Z a0 h0 _ 0 0 ds 127 #[.val (.long q1), .second, .unset, .unset] [(.int z51), (.long ((((((((((((3 : Int64) * (z40.toInt64)) + (z41.toInt64)) + ((3 : Int64) * (z42.toInt64))) + (z43.toInt64)) + ((3 : Int64) * (z44.toInt64))) + (z45.toInt64)) + ((3 : Int64) * (z46.toInt64))) + (z47.toInt64)) + ((3 : Int64) * (z48.toInt64))) + (z49.toInt64)) + ((3 : Int64) * (z50.toInt64))))]
  have f11 : 0 ≤ z51.toInt ∧ z51.toInt ≤ 9 := by rw [e11]; omega
  refine go_i2l 128 rfl d1_127 rfl ?_
  refine go_ladd 129 rfl d1_128 rfl ?_
  refine go_ldc2 (v := (3 : Int64)) 132 rfl d1_129 (wd hw 7 rfl) ?_
  refine go_lloadN 133 rfl d1_132 rfl ?_
  refine go_ldc2 (v := (1000000000000 : Int64)) 136 rfl d1_133 (wd hw 21 rfl) ?_
  refine go_callS 139 rfl d1_136 (wd hw 8 rfl) (wd hw 9 rfl) (wd hw 5 rfl) (wd hw 10 rfl) (by decide) (m_d Z a0 hw h0 ds q1 (1000000000000 : Int64) 1000000000000 (by decide) rfl (by decide) hq) (argsL := [(.long q1), (.long (1000000000000 : Int64))]) (rest := [(.long (3 : Int64)), (.long (((((((((((((3 : Int64) * (z40.toInt64)) + (z41.toInt64)) + ((3 : Int64) * (z42.toInt64))) + (z43.toInt64)) + ((3 : Int64) * (z44.toInt64))) + (z45.toInt64)) + ((3 : Int64) * (z46.toInt64))) + (z47.toInt64)) + ((3 : Int64) * (z48.toInt64))) + (z49.toInt64)) + ((3 : Int64) * (z50.toInt64))) + (z51.toInt64)))]) rfl (ps := [.long, .long]) (by decide +kernel) rfl rfl 4 rfl (by decide) (by decide) (by decide) (by decide) ?_
  rintro _ _ ⟨z52, rfl, rfl, e12⟩
  show Go B1 Z a0 h0 _ 0 0 ds 139 #[.val (.long q1), .second, .unset, .unset] [(.int z52), (.long (3 : Int64)), (.long (((((((((((((3 : Int64) * (z40.toInt64)) + (z41.toInt64)) + ((3 : Int64) * (z42.toInt64))) + (z43.toInt64)) + ((3 : Int64) * (z44.toInt64))) + (z45.toInt64)) + ((3 : Int64) * (z46.toInt64))) + (z47.toInt64)) + ((3 : Int64) * (z48.toInt64))) + (z49.toInt64)) + ((3 : Int64) * (z50.toInt64))) + (z51.toInt64)))]
  have f12 : 0 ≤ z52.toInt ∧ z52.toInt ≤ 9 := by rw [e12]; omega
  refine go_i2l 140 rfl d1_139 rfl ?_
  refine go_lmul 141 rfl d1_140 rfl ?_
  refine go_ladd 142 rfl d1_141 rfl ?_
  refine go_lloadN 143 rfl d1_142 rfl ?_
  refine go_ldc2 (v := (10000000000000 : Int64)) 146 rfl d1_143 (wd hw 22 rfl) ?_
  refine go_callS 149 rfl d1_146 (wd hw 8 rfl) (wd hw 9 rfl) (wd hw 5 rfl) (wd hw 10 rfl) (by decide) (m_d Z a0 hw h0 ds q1 (10000000000000 : Int64) 10000000000000 (by decide) rfl (by decide) hq) (argsL := [(.long q1), (.long (10000000000000 : Int64))]) (rest := [(.long ((((((((((((((3 : Int64) * (z40.toInt64)) + (z41.toInt64)) + ((3 : Int64) * (z42.toInt64))) + (z43.toInt64)) + ((3 : Int64) * (z44.toInt64))) + (z45.toInt64)) + ((3 : Int64) * (z46.toInt64))) + (z47.toInt64)) + ((3 : Int64) * (z48.toInt64))) + (z49.toInt64)) + ((3 : Int64) * (z50.toInt64))) + (z51.toInt64)) + ((3 : Int64) * (z52.toInt64))))]) rfl (ps := [.long, .long]) (by decide +kernel) rfl rfl 2 rfl (by decide) (by decide) (by decide) (by decide) ?_
  rintro _ _ ⟨z53, rfl, rfl, e13⟩
  show Go B1 Z a0 h0 _ 0 0 ds 149 #[.val (.long q1), .second, .unset, .unset] [(.int z53), (.long ((((((((((((((3 : Int64) * (z40.toInt64)) + (z41.toInt64)) + ((3 : Int64) * (z42.toInt64))) + (z43.toInt64)) + ((3 : Int64) * (z44.toInt64))) + (z45.toInt64)) + ((3 : Int64) * (z46.toInt64))) + (z47.toInt64)) + ((3 : Int64) * (z48.toInt64))) + (z49.toInt64)) + ((3 : Int64) * (z50.toInt64))) + (z51.toInt64)) + ((3 : Int64) * (z52.toInt64))))]
  have f13 : 0 ≤ z53.toInt ∧ z53.toInt ≤ 9 := by rw [e13]; omega
  refine go_i2l 150 rfl d1_149 rfl ?_
  refine go_ladd 151 rfl d1_150 rfl ?_
  refine go_ldc2 (v := (3 : Int64)) 154 rfl d1_151 (wd hw 7 rfl) ?_
  refine go_lloadN 155 rfl d1_154 rfl ?_
  refine go_ldc2 (v := (100000000000000 : Int64)) 158 rfl d1_155 (wd hw 23 rfl) ?_
  refine go_callS 161 rfl d1_158 (wd hw 8 rfl) (wd hw 9 rfl) (wd hw 5 rfl) (wd hw 10 rfl) (by decide) (m_d Z a0 hw h0 ds q1 (100000000000000 : Int64) 100000000000000 (by decide) rfl (by decide) hq) (argsL := [(.long q1), (.long (100000000000000 : Int64))]) (rest := [(.long (3 : Int64)), (.long (((((((((((((((3 : Int64) * (z40.toInt64)) + (z41.toInt64)) + ((3 : Int64) * (z42.toInt64))) + (z43.toInt64)) + ((3 : Int64) * (z44.toInt64))) + (z45.toInt64)) + ((3 : Int64) * (z46.toInt64))) + (z47.toInt64)) + ((3 : Int64) * (z48.toInt64))) + (z49.toInt64)) + ((3 : Int64) * (z50.toInt64))) + (z51.toInt64)) + ((3 : Int64) * (z52.toInt64))) + (z53.toInt64)))]) rfl (ps := [.long, .long]) (by decide +kernel) rfl rfl 4 rfl (by decide) (by decide) (by decide) (by decide) ?_
  rintro _ _ ⟨z54, rfl, rfl, e14⟩
  show Go B1 Z a0 h0 _ 0 0 ds 161 #[.val (.long q1), .second, .unset, .unset] [(.int z54), (.long (3 : Int64)), (.long (((((((((((((((3 : Int64) * (z40.toInt64)) + (z41.toInt64)) + ((3 : Int64) * (z42.toInt64))) + (z43.toInt64)) + ((3 : Int64) * (z44.toInt64))) + (z45.toInt64)) + ((3 : Int64) * (z46.toInt64))) + (z47.toInt64)) + ((3 : Int64) * (z48.toInt64))) + (z49.toInt64)) + ((3 : Int64) * (z50.toInt64))) + (z51.toInt64)) + ((3 : Int64) * (z52.toInt64))) + (z53.toInt64)))]
  have f14 : 0 ≤ z54.toInt ∧ z54.toInt ≤ 9 := by rw [e14]; omega
  refine go_i2l 162 rfl d1_161 rfl ?_
  refine go_lmul 163 rfl d1_162 rfl ?_
  refine go_ladd 164 rfl d1_163 rfl ?_
  refine go_lloadN 165 rfl d1_164 rfl ?_
  refine go_ldc2 (v := (1000000000000000 : Int64)) 168 rfl d1_165 (wd hw 24 rfl) ?_
  refine go_callS 171 rfl d1_168 (wd hw 8 rfl) (wd hw 9 rfl) (wd hw 5 rfl) (wd hw 10 rfl) (by decide) (m_d Z a0 hw h0 ds q1 (1000000000000000 : Int64) 1000000000000000 (by decide) rfl (by decide) hq) (argsL := [(.long q1), (.long (1000000000000000 : Int64))]) (rest := [(.long ((((((((((((((((3 : Int64) * (z40.toInt64)) + (z41.toInt64)) + ((3 : Int64) * (z42.toInt64))) + (z43.toInt64)) + ((3 : Int64) * (z44.toInt64))) + (z45.toInt64)) + ((3 : Int64) * (z46.toInt64))) + (z47.toInt64)) + ((3 : Int64) * (z48.toInt64))) + (z49.toInt64)) + ((3 : Int64) * (z50.toInt64))) + (z51.toInt64)) + ((3 : Int64) * (z52.toInt64))) + (z53.toInt64)) + ((3 : Int64) * (z54.toInt64))))]) rfl (ps := [.long, .long]) (by decide +kernel) rfl rfl 2 rfl (by decide) (by decide) (by decide) (by decide) ?_
  rintro _ _ ⟨z55, rfl, rfl, e15⟩
  show Go B1 Z a0 h0 _ 0 0 ds 171 #[.val (.long q1), .second, .unset, .unset] [(.int z55), (.long ((((((((((((((((3 : Int64) * (z40.toInt64)) + (z41.toInt64)) + ((3 : Int64) * (z42.toInt64))) + (z43.toInt64)) + ((3 : Int64) * (z44.toInt64))) + (z45.toInt64)) + ((3 : Int64) * (z46.toInt64))) + (z47.toInt64)) + ((3 : Int64) * (z48.toInt64))) + (z49.toInt64)) + ((3 : Int64) * (z50.toInt64))) + (z51.toInt64)) + ((3 : Int64) * (z52.toInt64))) + (z53.toInt64)) + ((3 : Int64) * (z54.toInt64))))]
  have f15 : 0 ≤ z55.toInt ∧ z55.toInt ≤ 9 := by rw [e15]; omega
  refine go_i2l 172 rfl d1_171 rfl ?_
  refine go_ladd 173 rfl d1_172 rfl ?_
  refine go_ldc2 (v := (3 : Int64)) 176 rfl d1_173 (wd hw 7 rfl) ?_
  refine go_lloadN 177 rfl d1_176 rfl ?_
  refine go_ldc2 (v := (10000000000000000 : Int64)) 180 rfl d1_177 (wd hw 25 rfl) ?_
  refine go_callS 183 rfl d1_180 (wd hw 8 rfl) (wd hw 9 rfl) (wd hw 5 rfl) (wd hw 10 rfl) (by decide) (m_d Z a0 hw h0 ds q1 (10000000000000000 : Int64) 10000000000000000 (by decide) rfl (by decide) hq) (argsL := [(.long q1), (.long (10000000000000000 : Int64))]) (rest := [(.long (3 : Int64)), (.long (((((((((((((((((3 : Int64) * (z40.toInt64)) + (z41.toInt64)) + ((3 : Int64) * (z42.toInt64))) + (z43.toInt64)) + ((3 : Int64) * (z44.toInt64))) + (z45.toInt64)) + ((3 : Int64) * (z46.toInt64))) + (z47.toInt64)) + ((3 : Int64) * (z48.toInt64))) + (z49.toInt64)) + ((3 : Int64) * (z50.toInt64))) + (z51.toInt64)) + ((3 : Int64) * (z52.toInt64))) + (z53.toInt64)) + ((3 : Int64) * (z54.toInt64))) + (z55.toInt64)))]) rfl (ps := [.long, .long]) (by decide +kernel) rfl rfl 4 rfl (by decide) (by decide) (by decide) (by decide) ?_
  rintro _ _ ⟨z56, rfl, rfl, e16⟩
  show Go B1 Z a0 h0 _ 0 0 ds 183 #[.val (.long q1), .second, .unset, .unset] [(.int z56), (.long (3 : Int64)), (.long (((((((((((((((((3 : Int64) * (z40.toInt64)) + (z41.toInt64)) + ((3 : Int64) * (z42.toInt64))) + (z43.toInt64)) + ((3 : Int64) * (z44.toInt64))) + (z45.toInt64)) + ((3 : Int64) * (z46.toInt64))) + (z47.toInt64)) + ((3 : Int64) * (z48.toInt64))) + (z49.toInt64)) + ((3 : Int64) * (z50.toInt64))) + (z51.toInt64)) + ((3 : Int64) * (z52.toInt64))) + (z53.toInt64)) + ((3 : Int64) * (z54.toInt64))) + (z55.toInt64)))]
  have f16 : 0 ≤ z56.toInt ∧ z56.toInt ≤ 9 := by rw [e16]; omega
  refine go_i2l 184 rfl d1_183 rfl ?_
  refine go_lmul 185 rfl d1_184 rfl ?_
  refine go_ladd 186 rfl d1_185 rfl ?_
  refine go_lstoreN #[.val (.long q1), .second, .val (.long ((((((((((((((((((3 : Int64) * (z40.toInt64)) + (z41.toInt64)) + ((3 : Int64) * (z42.toInt64))) + (z43.toInt64)) + ((3 : Int64) * (z44.toInt64))) + (z45.toInt64)) + ((3 : Int64) * (z46.toInt64))) + (z47.toInt64)) + ((3 : Int64) * (z48.toInt64))) + (z49.toInt64)) + ((3 : Int64) * (z50.toInt64))) + (z51.toInt64)) + ((3 : Int64) * (z52.toInt64))) + (z53.toInt64)) + ((3 : Int64) * (z54.toInt64))) + (z55.toInt64)) + ((3 : Int64) * (z56.toInt64)))), .second] 187 rfl d1_186 rfl rfl ?_
  refine go_ldc2 (v := (10 : Int64)) 190 rfl d1_187 (wd hw 2 rfl) ?_
  refine go_lloadN 191 rfl d1_190 rfl ?_
  refine go_ldc2 (v := (10 : Int64)) 194 rfl d1_191 (wd hw 2 rfl) ?_
  refine go_lrem 195 rfl d1_194 rfl (by decide) ?_
  refine go_lsub 196 rfl d1_195 rfl ?_
  refine go_ldc2 (v := (10 : Int64)) 199 rfl d1_196 (wd hw 2 rfl) ?_
  refine go_lrem 200 rfl d1_199 rfl (by decide) ?_
  refine go_l2i 201 rfl d1_200 rfl ?_
  exact go_ireturn d1_201 rfl (Or.inl rfl) rfl rfl (by decide) (by decide) ⟨_, rfl, rfl, (chkv z40 z41 z42 z43 z44 z45 z46 z47 z48 z49 z50 z51 z52 z53 z54 z55 z56 f0 f1 f2 f3 f4 f5 f6 f7 f8 f9 f10 f11 f12 f13 f14 f15 f16).trans (by rw [e0, e1, e2, e3, e4, e5, e6, e7, e8, e9, e10, e11, e12, e13, e14, e15, e16]; rfl)⟩
theorem d3_0 : decode method_5_code 0 = .ok (.bipush 18, 2) := by decide +kernel
theorem d3_2 : decode method_5_code 2 = .ok (.newarray .char, 2) := by decide +kernel
theorem d3_4 : decode method_5_code 4 = .ok (.astore_n 2, 1) := by decide +kernel
theorem d3_5 : decode method_5_code 5 = .ok (.aload_n 2, 1) := by decide +kernel
theorem d3_6 : decode method_5_code 6 = .ok (.iconst 0, 1) := by decide +kernel
theorem d3_7 : decode method_5_code 7 = .ok (.bipush 48, 2) := by decide +kernel
theorem d3_9 : decode method_5_code 9 = .ok (.lload_n 0, 1) := by decide +kernel
theorem d3_10 : decode method_5_code 10 = .ok (.ldc2_w 11, 3) := by decide +kernel
theorem d3_13 : decode method_5_code 13 = .ok (.invokestatic 48, 3) := by decide +kernel
theorem d3_16 : decode method_5_code 16 = .ok (.iadd, 1) := by decide +kernel
theorem d3_17 : decode method_5_code 17 = .ok (.i2c, 1) := by decide +kernel
theorem d3_18 : decode method_5_code 18 = .ok (.castore, 1) := by decide +kernel
theorem d3_19 : decode method_5_code 19 = .ok (.aload_n 2, 1) := by decide +kernel
theorem d3_20 : decode method_5_code 20 = .ok (.iconst 1, 1) := by decide +kernel
theorem d3_21 : decode method_5_code 21 = .ok (.bipush 48, 2) := by decide +kernel
theorem d3_23 : decode method_5_code 23 = .ok (.lload_n 0, 1) := by decide +kernel
theorem d3_24 : decode method_5_code 24 = .ok (.ldc2_w 80, 3) := by decide +kernel
theorem d3_27 : decode method_5_code 27 = .ok (.invokestatic 48, 3) := by decide +kernel
theorem d3_30 : decode method_5_code 30 = .ok (.iadd, 1) := by decide +kernel
theorem d3_31 : decode method_5_code 31 = .ok (.i2c, 1) := by decide +kernel
theorem d3_32 : decode method_5_code 32 = .ok (.castore, 1) := by decide +kernel
theorem d3_33 : decode method_5_code 33 = .ok (.aload_n 2, 1) := by decide +kernel
theorem d3_34 : decode method_5_code 34 = .ok (.iconst 2, 1) := by decide +kernel
theorem d3_35 : decode method_5_code 35 = .ok (.bipush 48, 2) := by decide +kernel
theorem d3_37 : decode method_5_code 37 = .ok (.lload_n 0, 1) := by decide +kernel
theorem d3_38 : decode method_5_code 38 = .ok (.ldc2_w 78, 3) := by decide +kernel
theorem d3_41 : decode method_5_code 41 = .ok (.invokestatic 48, 3) := by decide +kernel
theorem d3_44 : decode method_5_code 44 = .ok (.iadd, 1) := by decide +kernel
theorem d3_45 : decode method_5_code 45 = .ok (.i2c, 1) := by decide +kernel
theorem d3_46 : decode method_5_code 46 = .ok (.castore, 1) := by decide +kernel
theorem d3_47 : decode method_5_code 47 = .ok (.aload_n 2, 1) := by decide +kernel
theorem d3_48 : decode method_5_code 48 = .ok (.iconst 3, 1) := by decide +kernel
theorem d3_49 : decode method_5_code 49 = .ok (.bipush 48, 2) := by decide +kernel
theorem d3_51 : decode method_5_code 51 = .ok (.lload_n 0, 1) := by decide +kernel
theorem d3_52 : decode method_5_code 52 = .ok (.ldc2_w 76, 3) := by decide +kernel
theorem d3_55 : decode method_5_code 55 = .ok (.invokestatic 48, 3) := by decide +kernel
theorem d3_58 : decode method_5_code 58 = .ok (.iadd, 1) := by decide +kernel
theorem d3_59 : decode method_5_code 59 = .ok (.i2c, 1) := by decide +kernel
theorem d3_60 : decode method_5_code 60 = .ok (.castore, 1) := by decide +kernel
theorem d3_61 : decode method_5_code 61 = .ok (.aload_n 2, 1) := by decide +kernel
theorem d3_62 : decode method_5_code 62 = .ok (.iconst 4, 1) := by decide +kernel
theorem d3_63 : decode method_5_code 63 = .ok (.bipush 48, 2) := by decide +kernel
theorem d3_65 : decode method_5_code 65 = .ok (.lload_n 0, 1) := by decide +kernel
theorem d3_66 : decode method_5_code 66 = .ok (.ldc2_w 74, 3) := by decide +kernel
theorem d3_69 : decode method_5_code 69 = .ok (.invokestatic 48, 3) := by decide +kernel
theorem d3_72 : decode method_5_code 72 = .ok (.iadd, 1) := by decide +kernel
theorem d3_73 : decode method_5_code 73 = .ok (.i2c, 1) := by decide +kernel
theorem d3_74 : decode method_5_code 74 = .ok (.castore, 1) := by decide +kernel
theorem d3_75 : decode method_5_code 75 = .ok (.aload_n 2, 1) := by decide +kernel
theorem d3_76 : decode method_5_code 76 = .ok (.iconst 5, 1) := by decide +kernel
theorem d3_77 : decode method_5_code 77 = .ok (.bipush 48, 2) := by decide +kernel
theorem d3_79 : decode method_5_code 79 = .ok (.lload_n 0, 1) := by decide +kernel
theorem d3_80 : decode method_5_code 80 = .ok (.ldc2_w 72, 3) := by decide +kernel
theorem d3_83 : decode method_5_code 83 = .ok (.invokestatic 48, 3) := by decide +kernel
theorem d3_86 : decode method_5_code 86 = .ok (.iadd, 1) := by decide +kernel
theorem d3_87 : decode method_5_code 87 = .ok (.i2c, 1) := by decide +kernel
theorem d3_88 : decode method_5_code 88 = .ok (.castore, 1) := by decide +kernel
theorem d3_89 : decode method_5_code 89 = .ok (.aload_n 2, 1) := by decide +kernel
theorem d3_90 : decode method_5_code 90 = .ok (.bipush 6, 2) := by decide +kernel
theorem d3_92 : decode method_5_code 92 = .ok (.bipush 48, 2) := by decide +kernel
theorem d3_94 : decode method_5_code 94 = .ok (.lload_n 0, 1) := by decide +kernel
theorem d3_95 : decode method_5_code 95 = .ok (.ldc2_w 70, 3) := by decide +kernel
theorem d3_98 : decode method_5_code 98 = .ok (.invokestatic 48, 3) := by decide +kernel
theorem d3_101 : decode method_5_code 101 = .ok (.iadd, 1) := by decide +kernel
theorem d3_102 : decode method_5_code 102 = .ok (.i2c, 1) := by decide +kernel
theorem d3_103 : decode method_5_code 103 = .ok (.castore, 1) := by decide +kernel
theorem d3_104 : decode method_5_code 104 = .ok (.aload_n 2, 1) := by decide +kernel
theorem d3_105 : decode method_5_code 105 = .ok (.bipush 7, 2) := by decide +kernel
theorem d3_107 : decode method_5_code 107 = .ok (.bipush 48, 2) := by decide +kernel
theorem d3_109 : decode method_5_code 109 = .ok (.lload_n 0, 1) := by decide +kernel
theorem d3_110 : decode method_5_code 110 = .ok (.ldc2_w 68, 3) := by decide +kernel
theorem d3_113 : decode method_5_code 113 = .ok (.invokestatic 48, 3) := by decide +kernel
theorem d3_116 : decode method_5_code 116 = .ok (.iadd, 1) := by decide +kernel
theorem d3_117 : decode method_5_code 117 = .ok (.i2c, 1) := by decide +kernel
theorem d3_118 : decode method_5_code 118 = .ok (.castore, 1) := by decide +kernel
theorem d3_119 : decode method_5_code 119 = .ok (.aload_n 2, 1) := by decide +kernel
theorem d3_120 : decode method_5_code 120 = .ok (.bipush 8, 2) := by decide +kernel
theorem d3_122 : decode method_5_code 122 = .ok (.bipush 48, 2) := by decide +kernel
theorem d3_124 : decode method_5_code 124 = .ok (.lload_n 0, 1) := by decide +kernel
theorem d3_125 : decode method_5_code 125 = .ok (.ldc2_w 66, 3) := by decide +kernel
theorem d3_128 : decode method_5_code 128 = .ok (.invokestatic 48, 3) := by decide +kernel
theorem d3_131 : decode method_5_code 131 = .ok (.iadd, 1) := by decide +kernel
theorem d3_132 : decode method_5_code 132 = .ok (.i2c, 1) := by decide +kernel
theorem d3_133 : decode method_5_code 133 = .ok (.castore, 1) := by decide +kernel
theorem d3_134 : decode method_5_code 134 = .ok (.aload_n 2, 1) := by decide +kernel
theorem d3_135 : decode method_5_code 135 = .ok (.bipush 9, 2) := by decide +kernel
theorem d3_137 : decode method_5_code 137 = .ok (.bipush 48, 2) := by decide +kernel
theorem d3_139 : decode method_5_code 139 = .ok (.lload_n 0, 1) := by decide +kernel
theorem d3_140 : decode method_5_code 140 = .ok (.ldc2_w 64, 3) := by decide +kernel
theorem d3_143 : decode method_5_code 143 = .ok (.invokestatic 48, 3) := by decide +kernel
theorem d3_146 : decode method_5_code 146 = .ok (.iadd, 1) := by decide +kernel
theorem d3_147 : decode method_5_code 147 = .ok (.i2c, 1) := by decide +kernel
theorem d3_148 : decode method_5_code 148 = .ok (.castore, 1) := by decide +kernel
theorem d3_149 : decode method_5_code 149 = .ok (.aload_n 2, 1) := by decide +kernel
theorem d3_150 : decode method_5_code 150 = .ok (.bipush 10, 2) := by decide +kernel
theorem d3_152 : decode method_5_code 152 = .ok (.bipush 48, 2) := by decide +kernel
theorem d3_154 : decode method_5_code 154 = .ok (.lload_n 0, 1) := by decide +kernel
theorem d3_155 : decode method_5_code 155 = .ok (.ldc2_w 62, 3) := by decide +kernel
theorem d3_158 : decode method_5_code 158 = .ok (.invokestatic 48, 3) := by decide +kernel
theorem d3_161 : decode method_5_code 161 = .ok (.iadd, 1) := by decide +kernel
theorem d3_162 : decode method_5_code 162 = .ok (.i2c, 1) := by decide +kernel
theorem d3_163 : decode method_5_code 163 = .ok (.castore, 1) := by decide +kernel
theorem d3_164 : decode method_5_code 164 = .ok (.aload_n 2, 1) := by decide +kernel
theorem d3_165 : decode method_5_code 165 = .ok (.bipush 11, 2) := by decide +kernel
theorem d3_167 : decode method_5_code 167 = .ok (.bipush 48, 2) := by decide +kernel
theorem d3_169 : decode method_5_code 169 = .ok (.lload_n 0, 1) := by decide +kernel
theorem d3_170 : decode method_5_code 170 = .ok (.ldc2_w 60, 3) := by decide +kernel
theorem d3_173 : decode method_5_code 173 = .ok (.invokestatic 48, 3) := by decide +kernel
theorem d3_176 : decode method_5_code 176 = .ok (.iadd, 1) := by decide +kernel
theorem d3_177 : decode method_5_code 177 = .ok (.i2c, 1) := by decide +kernel
theorem d3_178 : decode method_5_code 178 = .ok (.castore, 1) := by decide +kernel
theorem d3_179 : decode method_5_code 179 = .ok (.aload_n 2, 1) := by decide +kernel
theorem d3_180 : decode method_5_code 180 = .ok (.bipush 12, 2) := by decide +kernel
theorem d3_182 : decode method_5_code 182 = .ok (.bipush 48, 2) := by decide +kernel
theorem d3_184 : decode method_5_code 184 = .ok (.lload_n 0, 1) := by decide +kernel
theorem d3_185 : decode method_5_code 185 = .ok (.ldc2_w 58, 3) := by decide +kernel
theorem d3_188 : decode method_5_code 188 = .ok (.invokestatic 48, 3) := by decide +kernel
theorem d3_191 : decode method_5_code 191 = .ok (.iadd, 1) := by decide +kernel
theorem d3_192 : decode method_5_code 192 = .ok (.i2c, 1) := by decide +kernel
theorem d3_193 : decode method_5_code 193 = .ok (.castore, 1) := by decide +kernel
theorem d3_194 : decode method_5_code 194 = .ok (.aload_n 2, 1) := by decide +kernel
theorem d3_195 : decode method_5_code 195 = .ok (.bipush 13, 2) := by decide +kernel
theorem d3_197 : decode method_5_code 197 = .ok (.bipush 48, 2) := by decide +kernel
theorem d3_199 : decode method_5_code 199 = .ok (.lload_n 0, 1) := by decide +kernel
theorem d3_200 : decode method_5_code 200 = .ok (.ldc2_w 56, 3) := by decide +kernel
theorem d3_203 : decode method_5_code 203 = .ok (.invokestatic 48, 3) := by decide +kernel
theorem d3_206 : decode method_5_code 206 = .ok (.iadd, 1) := by decide +kernel
theorem d3_207 : decode method_5_code 207 = .ok (.i2c, 1) := by decide +kernel
theorem d3_208 : decode method_5_code 208 = .ok (.castore, 1) := by decide +kernel
theorem d3_209 : decode method_5_code 209 = .ok (.aload_n 2, 1) := by decide +kernel
theorem d3_210 : decode method_5_code 210 = .ok (.bipush 14, 2) := by decide +kernel
theorem d3_212 : decode method_5_code 212 = .ok (.bipush 48, 2) := by decide +kernel
theorem d3_214 : decode method_5_code 214 = .ok (.lload_n 0, 1) := by decide +kernel
theorem d3_215 : decode method_5_code 215 = .ok (.ldc2_w 54, 3) := by decide +kernel
theorem d3_218 : decode method_5_code 218 = .ok (.invokestatic 48, 3) := by decide +kernel
theorem d3_221 : decode method_5_code 221 = .ok (.iadd, 1) := by decide +kernel
theorem d3_222 : decode method_5_code 222 = .ok (.i2c, 1) := by decide +kernel
theorem d3_223 : decode method_5_code 223 = .ok (.castore, 1) := by decide +kernel
theorem d3_224 : decode method_5_code 224 = .ok (.aload_n 2, 1) := by decide +kernel
theorem d3_225 : decode method_5_code 225 = .ok (.bipush 15, 2) := by decide +kernel
theorem d3_227 : decode method_5_code 227 = .ok (.bipush 48, 2) := by decide +kernel
theorem d3_229 : decode method_5_code 229 = .ok (.lload_n 0, 1) := by decide +kernel
theorem d3_230 : decode method_5_code 230 = .ok (.ldc2_w 52, 3) := by decide +kernel
theorem d3_233 : decode method_5_code 233 = .ok (.invokestatic 48, 3) := by decide +kernel
theorem d3_236 : decode method_5_code 236 = .ok (.iadd, 1) := by decide +kernel
theorem d3_237 : decode method_5_code 237 = .ok (.i2c, 1) := by decide +kernel
theorem d3_238 : decode method_5_code 238 = .ok (.castore, 1) := by decide +kernel
theorem d3_239 : decode method_5_code 239 = .ok (.aload_n 2, 1) := by decide +kernel
theorem d3_240 : decode method_5_code 240 = .ok (.bipush 16, 2) := by decide +kernel
theorem d3_242 : decode method_5_code 242 = .ok (.bipush 48, 2) := by decide +kernel
theorem d3_244 : decode method_5_code 244 = .ok (.lload_n 0, 1) := by decide +kernel
theorem d3_245 : decode method_5_code 245 = .ok (.ldc2_w 13, 3) := by decide +kernel
theorem d3_248 : decode method_5_code 248 = .ok (.invokestatic 48, 3) := by decide +kernel
theorem d3_251 : decode method_5_code 251 = .ok (.iadd, 1) := by decide +kernel
theorem d3_252 : decode method_5_code 252 = .ok (.i2c, 1) := by decide +kernel
theorem d3_253 : decode method_5_code 253 = .ok (.castore, 1) := by decide +kernel
theorem d3_254 : decode method_5_code 254 = .ok (.aload_n 2, 1) := by decide +kernel
theorem d3_255 : decode method_5_code 255 = .ok (.bipush 17, 2) := by decide +kernel
theorem d3_257 : decode method_5_code 257 = .ok (.bipush 48, 2) := by decide +kernel
theorem d3_259 : decode method_5_code 259 = .ok (.lload_n 0, 1) := by decide +kernel
theorem d3_260 : decode method_5_code 260 = .ok (.lconst 1, 1) := by decide +kernel
theorem d3_261 : decode method_5_code 261 = .ok (.invokestatic 48, 3) := by decide +kernel
theorem d3_264 : decode method_5_code 264 = .ok (.iadd, 1) := by decide +kernel
theorem d3_265 : decode method_5_code 265 = .ok (.i2c, 1) := by decide +kernel
theorem d3_266 : decode method_5_code 266 = .ok (.castore, 1) := by decide +kernel
theorem d3_267 : decode method_5_code 267 = .ok (.aload_n 2, 1) := by decide +kernel
theorem d3_268 : decode method_5_code 268 = .ok (.areturn, 1) := by decide +kernel
theorem pn3 : plainFor (⟨"com/example/cartonmark/cartonmark/gs1/SsccEqualsPinLaw", "chars", "(J)[C"⟩ : MethodName) = true := by first | (apply plainFor_of_name; simp [plainName, overriddenIn]; done) | decide +kernel
def B3 : Bdy := (⟨"com/example/cartonmark/cartonmark/gs1/SsccEqualsPinLaw", "chars", "(J)[C"⟩, method_5_code, 3, (some (.array .char)), ({ frames := 1, cells := 1, slots := 18, locals := 18 } : Room))
theorem m_chars (Z : State) (a0 : Array Value) (hw : ∀ d ∈ tables_1, d.before a0 Z = true) (h0 : Heap) (q1 : Int64) (hq : 0 ≤ q1.toInt) :
    Met B3 Z a0 h0 #[(.long q1)] [] (fun v ds => ∃ (a1 : Addr) (z0 z1 z2 z3 z4 z5 z6 z7 z8 z9 z10 z11 z12 z13 z14 z15 z16 z17 : Int32), DG q1.toInt z0 z1 z2 z3 z4 z5 z6 z7 z8 z9 z10 z11 z12 z13 z14 z15 z16 z17 ∧ Ret (some (.ref a1)) [ar a1 .char [(.int z0), (.int z1), (.int z2), (.int z3), (.int z4), (.int z5), (.int z6), (.int z7), (.int z8), (.int z9), (.int z10), (.int z11), (.int z12), (.int z13), (.int z14), (.int z15), (.int z16), (.int z17)]] v ds) := by
  refine Met.of pn3 (ls := #[.val (.long q1), .second, .unset]) (fun m => by first | (simp [entryFrame, mkF, argsToLocals, Value.category, B3]; done) | rfl) ?_
  show Go B3 Z a0 h0 _ 0 0 [] 0 #[.val (.long q1), .second, .unset] []
  refine go_bipush (18 : Int32) 2 rfl d3_0 rfl ?_
  refine go_newarr 4 rfl d3_2 rfl (wd hw 29 rfl) (by decide) 18 (by decide) (by decide) (by decide) (by decide) (fun a1 => ?_)
  show Go B3 Z a0 h0 _ 1 18 [ar a1 .char [(.int (0 : Int32)), (.int (0 : Int32)), (.int (0 : Int32)), (.int (0 : Int32)), (.int (0 : Int32)), (.int (0 : Int32)), (.int (0 : Int32)), (.int (0 : Int32)), (.int (0 : Int32)), (.int (0 : Int32)), (.int (0 : Int32)), (.int (0 : Int32)), (.int (0 : Int32)), (.int (0 : Int32)), (.int (0 : Int32)), (.int (0 : Int32)), (.int (0 : Int32)), (.int (0 : Int32))]] 4 #[.val (.long q1), .second, .unset] [(.ref a1)]
  refine go_astoreN #[.val (.long q1), .second, .val (.ref a1)] 5 rfl d3_4 rfl rfl rfl ?_
  refine go_aloadN 6 rfl d3_5 rfl rfl ?_
  refine go_iconst (0 : Int32) 7 rfl d3_6 rfl ?_
  refine go_bipush (48 : Int32) 9 rfl d3_7 rfl ?_
  refine go_lloadN 10 rfl d3_9 rfl ?_
  refine go_ldc2 (v := (100000000000000000 : Int64)) 13 rfl d3_10 (wd hw 1 rfl) ?_
  refine go_callS 16 rfl d3_13 (wd hw 8 rfl) (wd hw 9 rfl) (wd hw 5 rfl) (wd hw 10 rfl) (by decide) (m_d Z a0 hw h0 [ar a1 .char [(.int (0 : Int32)), (.int (0 : Int32)), (.int (0 : Int32)), (.int (0 : Int32)), (.int (0 : Int32)), (.int (0 : Int32)), (.int (0 : Int32)), (.int (0 : Int32)), (.int (0 : Int32)), (.int (0 : Int32)), (.int (0 : Int32)), (.int (0 : Int32)), (.int (0 : Int32)), (.int (0 : Int32)), (.int (0 : Int32)), (.int (0 : Int32)), (.int (0 : Int32)), (.int (0 : Int32))]] q1 (100000000000000000 : Int64) 100000000000000000 (by decide) rfl (by decide) hq) (argsL := [(.long q1), (.long (100000000000000000 : Int64))]) (rest := [(.int (48 : Int32)), (.int (0 : Int32)), (.ref a1)]) rfl (ps := [.long, .long]) (by decide +kernel) rfl rfl 3 rfl (by decide) (by decide) (by decide) (by decide) ?_
  rintro _ _ ⟨z40, rfl, rfl, e0⟩
  show Go B3 Z a0 h0 _ 1 18 [ar a1 .char [(.int (0 : Int32)), (.int (0 : Int32)), (.int (0 : Int32)), (.int (0 : Int32)), (.int (0 : Int32)), (.int (0 : Int32)), (.int (0 : Int32)), (.int (0 : Int32)), (.int (0 : Int32)), (.int (0 : Int32)), (.int (0 : Int32)), (.int (0 : Int32)), (.int (0 : Int32)), (.int (0 : Int32)), (.int (0 : Int32)), (.int (0 : Int32)), (.int (0 : Int32)), (.int (0 : Int32))]] 16 #[.val (.long q1), .second, .val (.ref a1)] [(.int z40), (.int (48 : Int32)), (.int (0 : Int32)), (.ref a1)]
  have f0 : 0 ≤ z40.toInt ∧ z40.toInt ≤ 9 := by rw [e0]; omega
  refine go_iadd 17 rfl d3_16 rfl ?_
  refine go_i2c 18 rfl d3_17 rfl ?_
  refine go_castore 0 19 rfl d3_18 rfl rfl (by decide) (Nat.le_of_ble_eq_true rfl) ?_
  show Go B3 Z a0 h0 _ 1 18 (mem1 a1 z40) 19 #[.val (.long q1), .second, .val (.ref a1)] []
  refine go_aloadN 20 rfl d3_19 rfl rfl ?_
  refine go_iconst (1 : Int32) 21 rfl d3_20 rfl ?_
  refine go_bipush (48 : Int32) 23 rfl d3_21 rfl ?_
  refine go_lloadN 24 rfl d3_23 rfl ?_
  refine go_ldc2 (v := (10000000000000000 : Int64)) 27 rfl d3_24 (wd hw 25 rfl) ?_
  refine go_callS 30 rfl d3_27 (wd hw 8 rfl) (wd hw 9 rfl) (wd hw 5 rfl) (wd hw 10 rfl) (by decide) (m_d Z a0 hw h0 (mem1 a1 z40) q1 (10000000000000000 : Int64) 10000000000000000 (by decide) rfl (by decide) hq) (argsL := [(.long q1), (.long (10000000000000000 : Int64))]) (rest := [(.int (48 : Int32)), (.int (1 : Int32)), (.ref a1)]) rfl (ps := [.long, .long]) (by decide +kernel) rfl rfl 3 rfl (by decide) (by decide) (by decide) (by decide) ?_
  rintro _ _ ⟨z41, rfl, rfl, e1⟩
  show Go B3 Z a0 h0 _ 1 18 (mem1 a1 z40) 30 #[.val (.long q1), .second, .val (.ref a1)] [(.int z41), (.int (48 : Int32)), (.int (1 : Int32)), (.ref a1)]
  have f1 : 0 ≤ z41.toInt ∧ z41.toInt ≤ 9 := by rw [e1]; omega
  refine go_iadd 31 rfl d3_30 rfl ?_
  refine go_i2c 32 rfl d3_31 rfl ?_
  refine go_castore 0 33 rfl d3_32 rfl rfl (by decide) (Nat.le_of_ble_eq_true rfl) ?_
  show Go B3 Z a0 h0 _ 1 18 (mem2 a1 z40 z41) 33 #[.val (.long q1), .second, .val (.ref a1)] []
  refine go_aloadN 34 rfl d3_33 rfl rfl ?_
  refine go_iconst (2 : Int32) 35 rfl d3_34 rfl ?_
  refine go_bipush (48 : Int32) 37 rfl d3_35 rfl ?_
  refine go_lloadN 38 rfl d3_37 rfl ?_
  refine go_ldc2 (v := (1000000000000000 : Int64)) 41 rfl d3_38 (wd hw 24 rfl) ?_
  refine go_callS 44 rfl d3_41 (wd hw 8 rfl) (wd hw 9 rfl) (wd hw 5 rfl) (wd hw 10 rfl) (by decide) (m_d Z a0 hw h0 (mem2 a1 z40 z41) q1 (1000000000000000 : Int64) 1000000000000000 (by decide) rfl (by decide) hq) (argsL := [(.long q1), (.long (1000000000000000 : Int64))]) (rest := [(.int (48 : Int32)), (.int (2 : Int32)), (.ref a1)]) rfl (ps := [.long, .long]) (by decide +kernel) rfl rfl 3 rfl (by decide) (by decide) (by decide) (by decide) ?_
  rintro _ _ ⟨z42, rfl, rfl, e2⟩
  show Go B3 Z a0 h0 _ 1 18 (mem2 a1 z40 z41) 44 #[.val (.long q1), .second, .val (.ref a1)] [(.int z42), (.int (48 : Int32)), (.int (2 : Int32)), (.ref a1)]
  have f2 : 0 ≤ z42.toInt ∧ z42.toInt ≤ 9 := by rw [e2]; omega
  refine go_iadd 45 rfl d3_44 rfl ?_
  refine go_i2c 46 rfl d3_45 rfl ?_
  refine go_castore 0 47 rfl d3_46 rfl rfl (by decide) (Nat.le_of_ble_eq_true rfl) ?_
  show Go B3 Z a0 h0 _ 1 18 (mem3 a1 z40 z41 z42) 47 #[.val (.long q1), .second, .val (.ref a1)] []
  refine go_aloadN 48 rfl d3_47 rfl rfl ?_
  refine go_iconst (3 : Int32) 49 rfl d3_48 rfl ?_
  refine go_bipush (48 : Int32) 51 rfl d3_49 rfl ?_
  refine go_lloadN 52 rfl d3_51 rfl ?_
  refine go_ldc2 (v := (100000000000000 : Int64)) 55 rfl d3_52 (wd hw 23 rfl) ?_
  refine go_callS 58 rfl d3_55 (wd hw 8 rfl) (wd hw 9 rfl) (wd hw 5 rfl) (wd hw 10 rfl) (by decide) (m_d Z a0 hw h0 (mem3 a1 z40 z41 z42) q1 (100000000000000 : Int64) 100000000000000 (by decide) rfl (by decide) hq) (argsL := [(.long q1), (.long (100000000000000 : Int64))]) (rest := [(.int (48 : Int32)), (.int (3 : Int32)), (.ref a1)]) rfl (ps := [.long, .long]) (by decide +kernel) rfl rfl 3 rfl (by decide) (by decide) (by decide) (by decide) ?_
  rintro _ _ ⟨z43, rfl, rfl, e3⟩
  show Go B3 Z a0 h0 _ 1 18 (mem3 a1 z40 z41 z42) 58 #[.val (.long q1), .second, .val (.ref a1)] [(.int z43), (.int (48 : Int32)), (.int (3 : Int32)), (.ref a1)]
  have f3 : 0 ≤ z43.toInt ∧ z43.toInt ≤ 9 := by rw [e3]; omega
  refine go_iadd 59 rfl d3_58 rfl ?_
  refine go_i2c 60 rfl d3_59 rfl ?_
  refine go_castore 0 61 rfl d3_60 rfl rfl (by decide) (Nat.le_of_ble_eq_true rfl) ?_
  show Go B3 Z a0 h0 _ 1 18 (mem4 a1 z40 z41 z42 z43) 61 #[.val (.long q1), .second, .val (.ref a1)] []
  refine go_aloadN 62 rfl d3_61 rfl rfl ?_
  refine go_iconst (4 : Int32) 63 rfl d3_62 rfl ?_
  refine go_bipush (48 : Int32) 65 rfl d3_63 rfl ?_
  refine go_lloadN 66 rfl d3_65 rfl ?_
  refine go_ldc2 (v := (10000000000000 : Int64)) 69 rfl d3_66 (wd hw 22 rfl) ?_
  refine go_callS 72 rfl d3_69 (wd hw 8 rfl) (wd hw 9 rfl) (wd hw 5 rfl) (wd hw 10 rfl) (by decide) (m_d Z a0 hw h0 (mem4 a1 z40 z41 z42 z43) q1 (10000000000000 : Int64) 10000000000000 (by decide) rfl (by decide) hq) (argsL := [(.long q1), (.long (10000000000000 : Int64))]) (rest := [(.int (48 : Int32)), (.int (4 : Int32)), (.ref a1)]) rfl (ps := [.long, .long]) (by decide +kernel) rfl rfl 3 rfl (by decide) (by decide) (by decide) (by decide) ?_
  rintro _ _ ⟨z44, rfl, rfl, e4⟩
  show Go B3 Z a0 h0 _ 1 18 (mem4 a1 z40 z41 z42 z43) 72 #[.val (.long q1), .second, .val (.ref a1)] [(.int z44), (.int (48 : Int32)), (.int (4 : Int32)), (.ref a1)]
  have f4 : 0 ≤ z44.toInt ∧ z44.toInt ≤ 9 := by rw [e4]; omega
  refine go_iadd 73 rfl d3_72 rfl ?_
  refine go_i2c 74 rfl d3_73 rfl ?_
  refine go_castore 0 75 rfl d3_74 rfl rfl (by decide) (Nat.le_of_ble_eq_true rfl) ?_
  show Go B3 Z a0 h0 _ 1 18 (mem5 a1 z40 z41 z42 z43 z44) 75 #[.val (.long q1), .second, .val (.ref a1)] []
  refine go_aloadN 76 rfl d3_75 rfl rfl ?_
  refine go_iconst (5 : Int32) 77 rfl d3_76 rfl ?_
  refine go_bipush (48 : Int32) 79 rfl d3_77 rfl ?_
  refine go_lloadN 80 rfl d3_79 rfl ?_
  refine go_ldc2 (v := (1000000000000 : Int64)) 83 rfl d3_80 (wd hw 21 rfl) ?_
  refine go_callS 86 rfl d3_83 (wd hw 8 rfl) (wd hw 9 rfl) (wd hw 5 rfl) (wd hw 10 rfl) (by decide) (m_d Z a0 hw h0 (mem5 a1 z40 z41 z42 z43 z44) q1 (1000000000000 : Int64) 1000000000000 (by decide) rfl (by decide) hq) (argsL := [(.long q1), (.long (1000000000000 : Int64))]) (rest := [(.int (48 : Int32)), (.int (5 : Int32)), (.ref a1)]) rfl (ps := [.long, .long]) (by decide +kernel) rfl rfl 3 rfl (by decide) (by decide) (by decide) (by decide) ?_
  rintro _ _ ⟨z45, rfl, rfl, e5⟩
  show Go B3 Z a0 h0 _ 1 18 (mem5 a1 z40 z41 z42 z43 z44) 86 #[.val (.long q1), .second, .val (.ref a1)] [(.int z45), (.int (48 : Int32)), (.int (5 : Int32)), (.ref a1)]
  have f5 : 0 ≤ z45.toInt ∧ z45.toInt ≤ 9 := by rw [e5]; omega
  refine go_iadd 87 rfl d3_86 rfl ?_
  refine go_i2c 88 rfl d3_87 rfl ?_
  refine go_castore 0 89 rfl d3_88 rfl rfl (by decide) (Nat.le_of_ble_eq_true rfl) ?_
  show Go B3 Z a0 h0 _ 1 18 (mem6 a1 z40 z41 z42 z43 z44 z45) 89 #[.val (.long q1), .second, .val (.ref a1)] []
  refine go_aloadN 90 rfl d3_89 rfl rfl ?_
  refine go_bipush (6 : Int32) 92 rfl d3_90 rfl ?_
  refine go_bipush (48 : Int32) 94 rfl d3_92 rfl ?_
  refine go_lloadN 95 rfl d3_94 rfl ?_
  refine go_ldc2 (v := (100000000000 : Int64)) 98 rfl d3_95 (wd hw 20 rfl) ?_
  refine go_callS 101 rfl d3_98 (wd hw 8 rfl) (wd hw 9 rfl) (wd hw 5 rfl) (wd hw 10 rfl) (by decide) (m_d Z a0 hw h0 (mem6 a1 z40 z41 z42 z43 z44 z45) q1 (100000000000 : Int64) 100000000000 (by decide) rfl (by decide) hq) (argsL := [(.long q1), (.long (100000000000 : Int64))]) (rest := [(.int (48 : Int32)), (.int (6 : Int32)), (.ref a1)]) rfl (ps := [.long, .long]) (by decide +kernel) rfl rfl 3 rfl (by decide) (by decide) (by decide) (by decide) ?_
  rintro _ _ ⟨z46, rfl, rfl, e6⟩
  show Go B3 Z a0 h0 _ 1 18 (mem6 a1 z40 z41 z42 z43 z44 z45) 101 #[.val (.long q1), .second, .val (.ref a1)] [(.int z46), (.int (48 : Int32)), (.int (6 : Int32)), (.ref a1)]
  have f6 : 0 ≤ z46.toInt ∧ z46.toInt ≤ 9 := by rw [e6]; omega
  refine go_iadd 102 rfl d3_101 rfl ?_
  refine go_i2c 103 rfl d3_102 rfl ?_
  refine go_castore 0 104 rfl d3_103 rfl rfl (by decide) (Nat.le_of_ble_eq_true rfl) ?_
  show Go B3 Z a0 h0 _ 1 18 (mem7 a1 z40 z41 z42 z43 z44 z45 z46) 104 #[.val (.long q1), .second, .val (.ref a1)] []
  refine go_aloadN 105 rfl d3_104 rfl rfl ?_
  refine go_bipush (7 : Int32) 107 rfl d3_105 rfl ?_
  refine go_bipush (48 : Int32) 109 rfl d3_107 rfl ?_
  refine go_lloadN 110 rfl d3_109 rfl ?_
  refine go_ldc2 (v := (10000000000 : Int64)) 113 rfl d3_110 (wd hw 19 rfl) ?_
  refine go_callS 116 rfl d3_113 (wd hw 8 rfl) (wd hw 9 rfl) (wd hw 5 rfl) (wd hw 10 rfl) (by decide) (m_d Z a0 hw h0 (mem7 a1 z40 z41 z42 z43 z44 z45 z46) q1 (10000000000 : Int64) 10000000000 (by decide) rfl (by decide) hq) (argsL := [(.long q1), (.long (10000000000 : Int64))]) (rest := [(.int (48 : Int32)), (.int (7 : Int32)), (.ref a1)]) rfl (ps := [.long, .long]) (by decide +kernel) rfl rfl 3 rfl (by decide) (by decide) (by decide) (by decide) ?_
  rintro _ _ ⟨z47, rfl, rfl, e7⟩
  show Go B3 Z a0 h0 _ 1 18 (mem7 a1 z40 z41 z42 z43 z44 z45 z46) 116 #[.val (.long q1), .second, .val (.ref a1)] [(.int z47), (.int (48 : Int32)), (.int (7 : Int32)), (.ref a1)]
  have f7 : 0 ≤ z47.toInt ∧ z47.toInt ≤ 9 := by rw [e7]; omega
  refine go_iadd 117 rfl d3_116 rfl ?_
  refine go_i2c 118 rfl d3_117 rfl ?_
  refine go_castore 0 119 rfl d3_118 rfl rfl (by decide) (Nat.le_of_ble_eq_true rfl) ?_
  show Go B3 Z a0 h0 _ 1 18 (mem8 a1 z40 z41 z42 z43 z44 z45 z46 z47) 119 #[.val (.long q1), .second, .val (.ref a1)] []
  refine go_aloadN 120 rfl d3_119 rfl rfl ?_
  refine go_bipush (8 : Int32) 122 rfl d3_120 rfl ?_
  refine go_bipush (48 : Int32) 124 rfl d3_122 rfl ?_
  refine go_lloadN 125 rfl d3_124 rfl ?_
  refine go_ldc2 (v := (1000000000 : Int64)) 128 rfl d3_125 (wd hw 18 rfl) ?_
  refine go_callS 131 rfl d3_128 (wd hw 8 rfl) (wd hw 9 rfl) (wd hw 5 rfl) (wd hw 10 rfl) (by decide) (m_d Z a0 hw h0 (mem8 a1 z40 z41 z42 z43 z44 z45 z46 z47) q1 (1000000000 : Int64) 1000000000 (by decide) rfl (by decide) hq) (argsL := [(.long q1), (.long (1000000000 : Int64))]) (rest := [(.int (48 : Int32)), (.int (8 : Int32)), (.ref a1)]) rfl (ps := [.long, .long]) (by decide +kernel) rfl rfl 3 rfl (by decide) (by decide) (by decide) (by decide) ?_
  rintro _ _ ⟨z48, rfl, rfl, e8⟩
  show Go B3 Z a0 h0 _ 1 18 (mem8 a1 z40 z41 z42 z43 z44 z45 z46 z47) 131 #[.val (.long q1), .second, .val (.ref a1)] [(.int z48), (.int (48 : Int32)), (.int (8 : Int32)), (.ref a1)]
  have f8 : 0 ≤ z48.toInt ∧ z48.toInt ≤ 9 := by rw [e8]; omega
  refine go_iadd 132 rfl d3_131 rfl ?_
  refine go_i2c 133 rfl d3_132 rfl ?_
  refine go_castore 0 134 rfl d3_133 rfl rfl (by decide) (Nat.le_of_ble_eq_true rfl) ?_
  show Go B3 Z a0 h0 _ 1 18 (mem9 a1 z40 z41 z42 z43 z44 z45 z46 z47 z48) 134 #[.val (.long q1), .second, .val (.ref a1)] []
  refine go_aloadN 135 rfl d3_134 rfl rfl ?_
  refine go_bipush (9 : Int32) 137 rfl d3_135 rfl ?_
  refine go_bipush (48 : Int32) 139 rfl d3_137 rfl ?_
  refine go_lloadN 140 rfl d3_139 rfl ?_
  refine go_ldc2 (v := (100000000 : Int64)) 143 rfl d3_140 (wd hw 17 rfl) ?_
  refine go_callS 146 rfl d3_143 (wd hw 8 rfl) (wd hw 9 rfl) (wd hw 5 rfl) (wd hw 10 rfl) (by decide) (m_d Z a0 hw h0 (mem9 a1 z40 z41 z42 z43 z44 z45 z46 z47 z48) q1 (100000000 : Int64) 100000000 (by decide) rfl (by decide) hq) (argsL := [(.long q1), (.long (100000000 : Int64))]) (rest := [(.int (48 : Int32)), (.int (9 : Int32)), (.ref a1)]) rfl (ps := [.long, .long]) (by decide +kernel) rfl rfl 3 rfl (by decide) (by decide) (by decide) (by decide) ?_
  rintro _ _ ⟨z49, rfl, rfl, e9⟩
  show Go B3 Z a0 h0 _ 1 18 (mem9 a1 z40 z41 z42 z43 z44 z45 z46 z47 z48) 146 #[.val (.long q1), .second, .val (.ref a1)] [(.int z49), (.int (48 : Int32)), (.int (9 : Int32)), (.ref a1)]
  have f9 : 0 ≤ z49.toInt ∧ z49.toInt ≤ 9 := by rw [e9]; omega
  refine go_iadd 147 rfl d3_146 rfl ?_
  refine go_i2c 148 rfl d3_147 rfl ?_
  refine go_castore 0 149 rfl d3_148 rfl rfl (by decide) (Nat.le_of_ble_eq_true rfl) ?_
  show Go B3 Z a0 h0 _ 1 18 (mem10 a1 z40 z41 z42 z43 z44 z45 z46 z47 z48 z49) 149 #[.val (.long q1), .second, .val (.ref a1)] []
  refine go_aloadN 150 rfl d3_149 rfl rfl ?_
  refine go_bipush (10 : Int32) 152 rfl d3_150 rfl ?_
  refine go_bipush (48 : Int32) 154 rfl d3_152 rfl ?_
  refine go_lloadN 155 rfl d3_154 rfl ?_
  refine go_ldc2 (v := (10000000 : Int64)) 158 rfl d3_155 (wd hw 16 rfl) ?_
  refine go_callS 161 rfl d3_158 (wd hw 8 rfl) (wd hw 9 rfl) (wd hw 5 rfl) (wd hw 10 rfl) (by decide) (m_d Z a0 hw h0 (mem10 a1 z40 z41 z42 z43 z44 z45 z46 z47 z48 z49) q1 (10000000 : Int64) 10000000 (by decide) rfl (by decide) hq) (argsL := [(.long q1), (.long (10000000 : Int64))]) (rest := [(.int (48 : Int32)), (.int (10 : Int32)), (.ref a1)]) rfl (ps := [.long, .long]) (by decide +kernel) rfl rfl 3 rfl (by decide) (by decide) (by decide) (by decide) ?_
  rintro _ _ ⟨z50, rfl, rfl, e10⟩
  show Go B3 Z a0 h0 _ 1 18 (mem10 a1 z40 z41 z42 z43 z44 z45 z46 z47 z48 z49) 161 #[.val (.long q1), .second, .val (.ref a1)] [(.int z50), (.int (48 : Int32)), (.int (10 : Int32)), (.ref a1)]
  have f10 : 0 ≤ z50.toInt ∧ z50.toInt ≤ 9 := by rw [e10]; omega
  refine go_iadd 162 rfl d3_161 rfl ?_
  refine go_i2c 163 rfl d3_162 rfl ?_
  refine go_castore 0 164 rfl d3_163 rfl rfl (by decide) (Nat.le_of_ble_eq_true rfl) ?_
  show Go B3 Z a0 h0 _ 1 18 (mem11 a1 z40 z41 z42 z43 z44 z45 z46 z47 z48 z49 z50) 164 #[.val (.long q1), .second, .val (.ref a1)] []
  refine go_aloadN 165 rfl d3_164 rfl rfl ?_
  refine go_bipush (11 : Int32) 167 rfl d3_165 rfl ?_
  refine go_bipush (48 : Int32) 169 rfl d3_167 rfl ?_
  refine go_lloadN 170 rfl d3_169 rfl ?_
  refine go_ldc2 (v := (1000000 : Int64)) 173 rfl d3_170 (wd hw 15 rfl) ?_
  refine go_callS 176 rfl d3_173 (wd hw 8 rfl) (wd hw 9 rfl) (wd hw 5 rfl) (wd hw 10 rfl) (by decide) (m_d Z a0 hw h0 (mem11 a1 z40 z41 z42 z43 z44 z45 z46 z47 z48 z49 z50) q1 (1000000 : Int64) 1000000 (by decide) rfl (by decide) hq) (argsL := [(.long q1), (.long (1000000 : Int64))]) (rest := [(.int (48 : Int32)), (.int (11 : Int32)), (.ref a1)]) rfl (ps := [.long, .long]) (by decide +kernel) rfl rfl 3 rfl (by decide) (by decide) (by decide) (by decide) ?_
  rintro _ _ ⟨z51, rfl, rfl, e11⟩
  show Go B3 Z a0 h0 _ 1 18 (mem11 a1 z40 z41 z42 z43 z44 z45 z46 z47 z48 z49 z50) 176 #[.val (.long q1), .second, .val (.ref a1)] [(.int z51), (.int (48 : Int32)), (.int (11 : Int32)), (.ref a1)]
  have f11 : 0 ≤ z51.toInt ∧ z51.toInt ≤ 9 := by rw [e11]; omega
  refine go_iadd 177 rfl d3_176 rfl ?_
  refine go_i2c 178 rfl d3_177 rfl ?_
  refine go_castore 0 179 rfl d3_178 rfl rfl (by decide) (Nat.le_of_ble_eq_true rfl) ?_
  show Go B3 Z a0 h0 _ 1 18 (mem12 a1 z40 z41 z42 z43 z44 z45 z46 z47 z48 z49 z50 z51) 179 #[.val (.long q1), .second, .val (.ref a1)] []
  refine go_aloadN 180 rfl d3_179 rfl rfl ?_
  refine go_bipush (12 : Int32) 182 rfl d3_180 rfl ?_
  refine go_bipush (48 : Int32) 184 rfl d3_182 rfl ?_
  refine go_lloadN 185 rfl d3_184 rfl ?_
  refine go_ldc2 (v := (100000 : Int64)) 188 rfl d3_185 (wd hw 14 rfl) ?_
  refine go_callS 191 rfl d3_188 (wd hw 8 rfl) (wd hw 9 rfl) (wd hw 5 rfl) (wd hw 10 rfl) (by decide) (m_d Z a0 hw h0 (mem12 a1 z40 z41 z42 z43 z44 z45 z46 z47 z48 z49 z50 z51) q1 (100000 : Int64) 100000 (by decide) rfl (by decide) hq) (argsL := [(.long q1), (.long (100000 : Int64))]) (rest := [(.int (48 : Int32)), (.int (12 : Int32)), (.ref a1)]) rfl (ps := [.long, .long]) (by decide +kernel) rfl rfl 3 rfl (by decide) (by decide) (by decide) (by decide) ?_
  rintro _ _ ⟨z52, rfl, rfl, e12⟩
  show Go B3 Z a0 h0 _ 1 18 (mem12 a1 z40 z41 z42 z43 z44 z45 z46 z47 z48 z49 z50 z51) 191 #[.val (.long q1), .second, .val (.ref a1)] [(.int z52), (.int (48 : Int32)), (.int (12 : Int32)), (.ref a1)]
  have f12 : 0 ≤ z52.toInt ∧ z52.toInt ≤ 9 := by rw [e12]; omega
  refine go_iadd 192 rfl d3_191 rfl ?_
  refine go_i2c 193 rfl d3_192 rfl ?_
  refine go_castore 0 194 rfl d3_193 rfl rfl (by decide) (Nat.le_of_ble_eq_true rfl) ?_
  show Go B3 Z a0 h0 _ 1 18 (mem13 a1 z40 z41 z42 z43 z44 z45 z46 z47 z48 z49 z50 z51 z52) 194 #[.val (.long q1), .second, .val (.ref a1)] []
  refine go_aloadN 195 rfl d3_194 rfl rfl ?_
  refine go_bipush (13 : Int32) 197 rfl d3_195 rfl ?_
  refine go_bipush (48 : Int32) 199 rfl d3_197 rfl ?_
  refine go_lloadN 200 rfl d3_199 rfl ?_
  refine go_ldc2 (v := (10000 : Int64)) 203 rfl d3_200 (wd hw 13 rfl) ?_
  refine go_callS 206 rfl d3_203 (wd hw 8 rfl) (wd hw 9 rfl) (wd hw 5 rfl) (wd hw 10 rfl) (by decide) (m_d Z a0 hw h0 (mem13 a1 z40 z41 z42 z43 z44 z45 z46 z47 z48 z49 z50 z51 z52) q1 (10000 : Int64) 10000 (by decide) rfl (by decide) hq) (argsL := [(.long q1), (.long (10000 : Int64))]) (rest := [(.int (48 : Int32)), (.int (13 : Int32)), (.ref a1)]) rfl (ps := [.long, .long]) (by decide +kernel) rfl rfl 3 rfl (by decide) (by decide) (by decide) (by decide) ?_
  rintro _ _ ⟨z53, rfl, rfl, e13⟩
  show Go B3 Z a0 h0 _ 1 18 (mem13 a1 z40 z41 z42 z43 z44 z45 z46 z47 z48 z49 z50 z51 z52) 206 #[.val (.long q1), .second, .val (.ref a1)] [(.int z53), (.int (48 : Int32)), (.int (13 : Int32)), (.ref a1)]
  have f13 : 0 ≤ z53.toInt ∧ z53.toInt ≤ 9 := by rw [e13]; omega
  refine go_iadd 207 rfl d3_206 rfl ?_
  refine go_i2c 208 rfl d3_207 rfl ?_
  refine go_castore 0 209 rfl d3_208 rfl rfl (by decide) (Nat.le_of_ble_eq_true rfl) ?_
  show Go B3 Z a0 h0 _ 1 18 (mem14 a1 z40 z41 z42 z43 z44 z45 z46 z47 z48 z49 z50 z51 z52 z53) 209 #[.val (.long q1), .second, .val (.ref a1)] []
  refine go_aloadN 210 rfl d3_209 rfl rfl ?_
  refine go_bipush (14 : Int32) 212 rfl d3_210 rfl ?_
  refine go_bipush (48 : Int32) 214 rfl d3_212 rfl ?_
  refine go_lloadN 215 rfl d3_214 rfl ?_
  refine go_ldc2 (v := (1000 : Int64)) 218 rfl d3_215 (wd hw 12 rfl) ?_
  refine go_callS 221 rfl d3_218 (wd hw 8 rfl) (wd hw 9 rfl) (wd hw 5 rfl) (wd hw 10 rfl) (by decide) (m_d Z a0 hw h0 (mem14 a1 z40 z41 z42 z43 z44 z45 z46 z47 z48 z49 z50 z51 z52 z53) q1 (1000 : Int64) 1000 (by decide) rfl (by decide) hq) (argsL := [(.long q1), (.long (1000 : Int64))]) (rest := [(.int (48 : Int32)), (.int (14 : Int32)), (.ref a1)]) rfl (ps := [.long, .long]) (by decide +kernel) rfl rfl 3 rfl (by decide) (by decide) (by decide) (by decide) ?_
  rintro _ _ ⟨z54, rfl, rfl, e14⟩
  show Go B3 Z a0 h0 _ 1 18 (mem14 a1 z40 z41 z42 z43 z44 z45 z46 z47 z48 z49 z50 z51 z52 z53) 221 #[.val (.long q1), .second, .val (.ref a1)] [(.int z54), (.int (48 : Int32)), (.int (14 : Int32)), (.ref a1)]
  have f14 : 0 ≤ z54.toInt ∧ z54.toInt ≤ 9 := by rw [e14]; omega
  refine go_iadd 222 rfl d3_221 rfl ?_
  refine go_i2c 223 rfl d3_222 rfl ?_
  refine go_castore 0 224 rfl d3_223 rfl rfl (by decide) (Nat.le_of_ble_eq_true rfl) ?_
  show Go B3 Z a0 h0 _ 1 18 (mem15 a1 z40 z41 z42 z43 z44 z45 z46 z47 z48 z49 z50 z51 z52 z53 z54) 224 #[.val (.long q1), .second, .val (.ref a1)] []
  refine go_aloadN 225 rfl d3_224 rfl rfl ?_
  refine go_bipush (15 : Int32) 227 rfl d3_225 rfl ?_
  refine go_bipush (48 : Int32) 229 rfl d3_227 rfl ?_
  refine go_lloadN 230 rfl d3_229 rfl ?_
  refine go_ldc2 (v := (100 : Int64)) 233 rfl d3_230 (wd hw 11 rfl) ?_
  refine go_callS 236 rfl d3_233 (wd hw 8 rfl) (wd hw 9 rfl) (wd hw 5 rfl) (wd hw 10 rfl) (by decide) (m_d Z a0 hw h0 (mem15 a1 z40 z41 z42 z43 z44 z45 z46 z47 z48 z49 z50 z51 z52 z53 z54) q1 (100 : Int64) 100 (by decide) rfl (by decide) hq) (argsL := [(.long q1), (.long (100 : Int64))]) (rest := [(.int (48 : Int32)), (.int (15 : Int32)), (.ref a1)]) rfl (ps := [.long, .long]) (by decide +kernel) rfl rfl 3 rfl (by decide) (by decide) (by decide) (by decide) ?_
  rintro _ _ ⟨z55, rfl, rfl, e15⟩
  show Go B3 Z a0 h0 _ 1 18 (mem15 a1 z40 z41 z42 z43 z44 z45 z46 z47 z48 z49 z50 z51 z52 z53 z54) 236 #[.val (.long q1), .second, .val (.ref a1)] [(.int z55), (.int (48 : Int32)), (.int (15 : Int32)), (.ref a1)]
  have f15 : 0 ≤ z55.toInt ∧ z55.toInt ≤ 9 := by rw [e15]; omega
  refine go_iadd 237 rfl d3_236 rfl ?_
  refine go_i2c 238 rfl d3_237 rfl ?_
  refine go_castore 0 239 rfl d3_238 rfl rfl (by decide) (Nat.le_of_ble_eq_true rfl) ?_
  show Go B3 Z a0 h0 _ 1 18 (mem16 a1 z40 z41 z42 z43 z44 z45 z46 z47 z48 z49 z50 z51 z52 z53 z54 z55) 239 #[.val (.long q1), .second, .val (.ref a1)] []
  refine go_aloadN 240 rfl d3_239 rfl rfl ?_
  refine go_bipush (16 : Int32) 242 rfl d3_240 rfl ?_
  refine go_bipush (48 : Int32) 244 rfl d3_242 rfl ?_
  refine go_lloadN 245 rfl d3_244 rfl ?_
  refine go_ldc2 (v := (10 : Int64)) 248 rfl d3_245 (wd hw 2 rfl) ?_
  refine go_callS 251 rfl d3_248 (wd hw 8 rfl) (wd hw 9 rfl) (wd hw 5 rfl) (wd hw 10 rfl) (by decide) (m_d Z a0 hw h0 (mem16 a1 z40 z41 z42 z43 z44 z45 z46 z47 z48 z49 z50 z51 z52 z53 z54 z55) q1 (10 : Int64) 10 (by decide) rfl (by decide) hq) (argsL := [(.long q1), (.long (10 : Int64))]) (rest := [(.int (48 : Int32)), (.int (16 : Int32)), (.ref a1)]) rfl (ps := [.long, .long]) (by decide +kernel) rfl rfl 3 rfl (by decide) (by decide) (by decide) (by decide) ?_
  rintro _ _ ⟨z56, rfl, rfl, e16⟩
  show Go B3 Z a0 h0 _ 1 18 (mem16 a1 z40 z41 z42 z43 z44 z45 z46 z47 z48 z49 z50 z51 z52 z53 z54 z55) 251 #[.val (.long q1), .second, .val (.ref a1)] [(.int z56), (.int (48 : Int32)), (.int (16 : Int32)), (.ref a1)]
  have f16 : 0 ≤ z56.toInt ∧ z56.toInt ≤ 9 := by rw [e16]; omega
  refine go_iadd 252 rfl d3_251 rfl ?_
  refine go_i2c 253 rfl d3_252 rfl ?_
  refine go_castore 0 254 rfl d3_253 rfl rfl (by decide) (Nat.le_of_ble_eq_true rfl) ?_
  show Go B3 Z a0 h0 _ 1 18 (mem17 a1 z40 z41 z42 z43 z44 z45 z46 z47 z48 z49 z50 z51 z52 z53 z54 z55 z56) 254 #[.val (.long q1), .second, .val (.ref a1)] []
  refine go_aloadN 255 rfl d3_254 rfl rfl ?_
  refine go_bipush (17 : Int32) 257 rfl d3_255 rfl ?_
  refine go_bipush (48 : Int32) 259 rfl d3_257 rfl ?_
  refine go_lloadN 260 rfl d3_259 rfl ?_
  refine go_lconst (1 : Int64) 261 rfl d3_260 rfl ?_
  refine go_callS 264 rfl d3_261 (wd hw 8 rfl) (wd hw 9 rfl) (wd hw 5 rfl) (wd hw 10 rfl) (by decide) (m_d Z a0 hw h0 (mem17 a1 z40 z41 z42 z43 z44 z45 z46 z47 z48 z49 z50 z51 z52 z53 z54 z55 z56) q1 (1 : Int64) 1 (by decide) rfl (by decide) hq) (argsL := [(.long q1), (.long (1 : Int64))]) (rest := [(.int (48 : Int32)), (.int (17 : Int32)), (.ref a1)]) rfl (ps := [.long, .long]) (by decide +kernel) rfl rfl 3 rfl (by decide) (by decide) (by decide) (by decide) ?_
  rintro _ _ ⟨z57, rfl, rfl, e17⟩
  show Go B3 Z a0 h0 _ 1 18 (mem17 a1 z40 z41 z42 z43 z44 z45 z46 z47 z48 z49 z50 z51 z52 z53 z54 z55 z56) 264 #[.val (.long q1), .second, .val (.ref a1)] [(.int z57), (.int (48 : Int32)), (.int (17 : Int32)), (.ref a1)]
  have f17 : 0 ≤ z57.toInt ∧ z57.toInt ≤ 9 := by rw [e17]; omega
  refine go_iadd 265 rfl d3_264 rfl ?_
  refine go_i2c 266 rfl d3_265 rfl ?_
  refine go_castore 0 267 rfl d3_266 rfl rfl (by decide) (Nat.le_of_ble_eq_true rfl) ?_
  show Go B3 Z a0 h0 _ 1 18 (mem18 a1 z40 z41 z42 z43 z44 z45 z46 z47 z48 z49 z50 z51 z52 z53 z54 z55 z56 z57) 267 #[.val (.long q1), .second, .val (.ref a1)] []
  refine go_aloadN 268 rfl d3_267 rfl rfl ?_
  exact go_areturn d3_268 rfl rfl rfl rfl (by decide) (by decide) ⟨a1, _, _, _, _, _, _, _, _, _, _, _, _, _, _, _, _, _, _, ⟨(chv z40 f0).trans (by rw [e0]), (chv z41 f1).trans (by rw [e1]), (chv z42 f2).trans (by rw [e2]), (chv z43 f3).trans (by rw [e3]), (chv z44 f4).trans (by rw [e4]), (chv z45 f5).trans (by rw [e5]), (chv z46 f6).trans (by rw [e6]), (chv z47 f7).trans (by rw [e7]), (chv z48 f8).trans (by rw [e8]), (chv z49 f9).trans (by rw [e9]), (chv z50 f10).trans (by rw [e10]), (chv z51 f11).trans (by rw [e11]), (chv z52 f12).trans (by rw [e12]), (chv z53 f13).trans (by rw [e13]), (chv z54 f14).trans (by rw [e14]), (chv z55 f15).trans (by rw [e15]), (chv z56 f16).trans (by rw [e16]), (chv z57 f17).trans (by rw [e17])⟩, rfl, rfl⟩
theorem d14_0 : decode jdk_31_method_11_code 0 = .ok (.aload_n 0, 1) := by decide +kernel
theorem d14_1 : decode jdk_31_method_11_code 1 = .ok (.ifnonnull 12, 3) := by decide +kernel
theorem d14_13 : decode jdk_31_method_11_code 13 = .ok (.aload_n 0, 1) := by decide +kernel
theorem d14_14 : decode jdk_31_method_11_code 14 = .ok (.areturn, 1) := by decide +kernel
theorem pn14 : plainFor (⟨"java/util/Objects", "requireNonNull", "(Ljava/lang/Object;Ljava/lang/String;)Ljava/lang/Object;"⟩ : MethodName) = true := by first | (apply plainFor_of_name; simp [plainName, overriddenIn]; done) | decide +kernel
def B14_3 : Bdy := (⟨"java/util/Objects", "requireNonNull", "(Ljava/lang/Object;Ljava/lang/String;)Ljava/lang/Object;"⟩, jdk_31_method_11_code, 2, (some (.object "java/lang/Object")), ({ frames := 0, cells := 0, slots := 0, locals := 0 } : Room))
theorem mt3 (Z : State) (a0 : Array Value) (hw : ∀ d ∈ tables_1, d.before a0 Z = true) (h0 : Heap) (zc : Int32) (r99 : Value) (cl : Cell) (pv : Addr) (SS : Sts Z h0 zc r99 cl pv) (z0 z1 z2 z3 z4 z5 z6 z7 z8 z9 z10 z11 z12 z13 z14 z15 z16 z17 : Int32) (G : RG z0 z1 z2 z3 z4 z5 z6 z7 z8 z9 z10 z11 z12 z13 z14 z15 z16 z17) (hc : HC z0 z1 z2 z3 z4 z5 z6 z7 z8 z9 z10 z11 z12 z13 z14 z15 z16 z17) (a1 : Addr) (a2 : Addr) (b9 : Addr) :
    Met B14_3 Z a0 h0 #[(.ref a1), (.ref b9)] (mem19 a1 a2 z0 z1 z2 z3 z4 z5 z6 z7 z8 z9 z10 z11 z12 z13 z14 z15 z16 z17) (Ret (some (.ref a1)) (mem19 a1 a2 z0 z1 z2 z3 z4 z5 z6 z7 z8 z9 z10 z11 z12 z13 z14 z15 z16 z17)) := by
  refine Met.of pn14 (ls := #[.val (.ref a1), .val (.ref b9)]) (fun m => by first | (simp [entryFrame, mkF, argsToLocals, Value.category, B14_3]; done) | rfl) ?_
  show Go B14_3 Z a0 h0 _ 0 0 (mem19 a1 a2 z0 z1 z2 z3 z4 z5 z6 z7 z8 z9 z10 z11 z12 z13 z14 z15 z16 z17) 0 #[.val (.ref a1), .val (.ref b9)] []
  refine go_aloadN 1 rfl d14_0 rfl rfl ?_
  refine go_ifnonnullY 13 (by decide) rfl d14_1 rfl ?_
  refine go_aloadN 14 rfl d14_13 rfl rfl ?_
  exact go_areturn d14_14 rfl rfl rfl rfl (by decide) (by decide) ⟨rfl, rfl⟩
theorem d16_0 : decode jdk_42_method_152_code 0 = .ok (.getstatic 38, 3) := by decide +kernel
theorem d16_3 : decode jdk_42_method_152_code 3 = .ok (.ifCond .eq 10, 3) := by decide +kernel
theorem d16_6 : decode jdk_42_method_152_code 6 = .ok (.aload_n 0, 1) := by decide +kernel
theorem d16_7 : decode jdk_42_method_152_code 7 = .ok (.getfield 15, 3) := by decide +kernel
theorem d16_10 : decode jdk_42_method_152_code 10 = .ok (.goto 4, 3) := by decide +kernel
theorem d16_14 : decode jdk_42_method_152_code 14 = .ok (.ireturn, 1) := by decide +kernel
theorem pn16 : plainFor (⟨"java/lang/String", "coder", "()B"⟩ : MethodName) = true := by first | (apply plainFor_of_name; simp [plainName, overriddenIn]; done) | decide +kernel
def B16_5 : Bdy := (⟨"java/lang/String", "coder", "()B"⟩, jdk_42_method_152_code, 1, (some .byte), ({ frames := 0, cells := 0, slots := 0, locals := 0 } : Room))
theorem mt5 (Z : State) (a0 : Array Value) (hw : ∀ d ∈ tables_1, d.before a0 Z = true) (h0 : Heap) (zc : Int32) (r99 : Value) (cl : Cell) (pv : Addr) (SS : Sts Z h0 zc r99 cl pv) (z0 z1 z2 z3 z4 z5 z6 z7 z8 z9 z10 z11 z12 z13 z14 z15 z16 z17 : Int32) (G : RG z0 z1 z2 z3 z4 z5 z6 z7 z8 z9 z10 z11 z12 z13 z14 z15 z16 z17) (hc : HC z0 z1 z2 z3 z4 z5 z6 z7 z8 z9 z10 z11 z12 z13 z14 z15 z16 z17) (a1 : Addr) (a2 : Addr) :
    Met B16_5 Z a0 h0 #[(.ref a1)] (mem19 a1 a2 z0 z1 z2 z3 z4 z5 z6 z7 z8 z9 z10 z11 z12 z13 z14 z15 z16 z17) (Ret (some (.int (0 : Int32))) (mem19 a1 a2 z0 z1 z2 z3 z4 z5 z6 z7 z8 z9 z10 z11 z12 z13 z14 z15 z16 z17)) := by
  refine Met.of pn16 (ls := #[.val (.ref a1)]) (fun m => by first | (simp [entryFrame, mkF, argsToLocals, Value.category, B16_5]; done) | rfl) ?_
  show Go B16_5 Z a0 h0 _ 0 0 (mem19 a1 a2 z0 z1 z2 z3 z4 z5 z6 z7 z8 z9 z10 z11 z12 z13 z14 z15 z16 z17) 0 #[.val (.ref a1)] []
  refine go_getS 3 rfl d16_0 (wd hw 46 rfl) SS.1 ?_
  refine go_if 13 6 rfl (by decide) rfl d16_3 rfl (fun (hc3 : zc.toInt = 0) => absurd hc3 (by exact fun q => SS.2.1 (Int32.toInt_inj.mp q))) (fun (hc3 : ¬ (zc.toInt = 0)) => ?_)
  refine go_aloadN 7 rfl d16_6 rfl rfl ?_
  refine go_get 0 1 10 rfl d16_7 rfl rfl rfl (wd hw 58 rfl) ?_
  refine go_goto 14 (by decide) rfl d16_10 ?_
  exact go_ireturn d16_14 rfl (Or.inr (Or.inr (Or.inl rfl))) rfl rfl (by decide) (by decide) ⟨rfl, rfl⟩
theorem d15_0 : decode jdk_42_method_54_code 0 = .ok (.aload_n 0, 1) := by decide +kernel
theorem d15_1 : decode jdk_42_method_54_code 1 = .ok (.getfield 9, 3) := by decide +kernel
theorem d15_4 : decode jdk_42_method_54_code 4 = .ok (.arraylength, 1) := by decide +kernel
theorem d15_5 : decode jdk_42_method_54_code 5 = .ok (.aload_n 0, 1) := by decide +kernel
theorem d15_6 : decode jdk_42_method_54_code 6 = .ok (.invokevirtual 335, 3) := by decide +kernel
theorem d15_9 : decode jdk_42_method_54_code 9 = .ok (.ishr, 1) := by decide +kernel
theorem d15_10 : decode jdk_42_method_54_code 10 = .ok (.ireturn, 1) := by decide +kernel
theorem pn15 : plainFor (⟨"java/lang/String", "length", "()I"⟩ : MethodName) = true := by first | (apply plainFor_of_name; simp [plainName, overriddenIn]; done) | decide +kernel
def B15_4 : Bdy := (⟨"java/lang/String", "length", "()I"⟩, jdk_42_method_54_code, 1, (some .int), ({ frames := 1, cells := 0, slots := 0, locals := 13 } : Room))
theorem mt4 (Z : State) (a0 : Array Value) (hw : ∀ d ∈ tables_1, d.before a0 Z = true) (h0 : Heap) (zc : Int32) (r99 : Value) (cl : Cell) (pv : Addr) (SS : Sts Z h0 zc r99 cl pv) (z0 z1 z2 z3 z4 z5 z6 z7 z8 z9 z10 z11 z12 z13 z14 z15 z16 z17 : Int32) (G : RG z0 z1 z2 z3 z4 z5 z6 z7 z8 z9 z10 z11 z12 z13 z14 z15 z16 z17) (hc : HC z0 z1 z2 z3 z4 z5 z6 z7 z8 z9 z10 z11 z12 z13 z14 z15 z16 z17) (a1 : Addr) (a2 : Addr) :
    Met B15_4 Z a0 h0 #[(.ref a1)] (mem19 a1 a2 z0 z1 z2 z3 z4 z5 z6 z7 z8 z9 z10 z11 z12 z13 z14 z15 z16 z17) (Ret (some (.int (18 : Int32))) (mem19 a1 a2 z0 z1 z2 z3 z4 z5 z6 z7 z8 z9 z10 z11 z12 z13 z14 z15 z16 z17)) := by
  refine Met.of pn15 (ls := #[.val (.ref a1)]) (fun m => by first | (simp [entryFrame, mkF, argsToLocals, Value.category, B15_4]; done) | rfl) ?_
  show Go B15_4 Z a0 h0 _ 0 0 (mem19 a1 a2 z0 z1 z2 z3 z4 z5 z6 z7 z8 z9 z10 z11 z12 z13 z14 z15 z16 z17) 0 #[.val (.ref a1)] []
  refine go_aloadN 1 rfl d15_0 rfl rfl ?_
  refine go_get 0 0 4 rfl d15_1 rfl rfl rfl (wd hw 60 rfl) ?_
  refine go_alen 1 5 rfl d15_4 rfl rfl ?_
  show Go B15_4 Z a0 h0 _ 0 0 (mem19 a1 a2 z0 z1 z2 z3 z4 z5 z6 z7 z8 z9 z10 z11 z12 z13 z14 z15 z16 z17) 5 #[.val (.ref a1)] [(.int (18 : Int32))]
  refine go_aloadN 6 rfl d15_5 rfl rfl ?_
  refine go_callV 9 rfl d15_6 (wd hw 93 rfl) (wd hw 94 rfl) (wd hw 96 rfl) (wd hw 95 rfl) (wd hw 35 rfl) (wd hw 97 rfl) (by decide) (Mo.exa (i := 0) rfl) (mt5 Z a0 hw h0 zc r99 cl pv SS z0 z1 z2 z3 z4 z5 z6 z7 z8 z9 z10 z11 z12 z13 z14 z15 z16 z17 G hc a1 a2) (argsL := []) (rest := [(.int (18 : Int32))]) rfl (ps := []) (by decide +kernel) rfl rfl 1 rfl (by decide) (by decide) (by decide) (by decide) ?_
  rintro _ _ ⟨rfl, rfl⟩
  show Go B15_4 Z a0 h0 _ 0 0 (mem19 a1 a2 z0 z1 z2 z3 z4 z5 z6 z7 z8 z9 z10 z11 z12 z13 z14 z15 z16 z17) 9 #[.val (.ref a1)] [(.int (0 : Int32)), (.int (18 : Int32))]
  refine go_ishr 10 rfl d15_9 rfl ?_
  show Go B15_4 Z a0 h0 _ 0 0 (mem19 a1 a2 z0 z1 z2 z3 z4 z5 z6 z7 z8 z9 z10 z11 z12 z13 z14 z15 z16 z17) 10 #[.val (.ref a1)] [(.int (18 : Int32))]
  exact go_ireturn d15_10 rfl (Or.inl rfl) rfl rfl (by decide) (by decide) ⟨rfl, rfl⟩
theorem d18_0 : decode jdk_42_method_154_code 0 = .ok (.getstatic 38, 3) := by decide +kernel
theorem d18_3 : decode jdk_42_method_154_code 3 = .ok (.ifCond .eq 14, 3) := by decide +kernel
theorem d18_6 : decode jdk_42_method_154_code 6 = .ok (.aload_n 0, 1) := by decide +kernel
theorem d18_7 : decode jdk_42_method_154_code 7 = .ok (.getfield 15, 3) := by decide +kernel
theorem d18_10 : decode jdk_42_method_154_code 10 = .ok (.ifCond .ne 7, 3) := by decide +kernel
theorem d18_13 : decode jdk_42_method_154_code 13 = .ok (.iconst 1, 1) := by decide +kernel
theorem d18_14 : decode jdk_42_method_154_code 14 = .ok (.goto 4, 3) := by decide +kernel
theorem d18_18 : decode jdk_42_method_154_code 18 = .ok (.ireturn, 1) := by decide +kernel
theorem pn18 : plainFor (⟨"java/lang/String", "isLatin1", "()Z"⟩ : MethodName) = true := by first | (apply plainFor_of_name; simp [plainName, overriddenIn]; done) | decide +kernel
def B18_7 : Bdy := (⟨"java/lang/String", "isLatin1", "()Z"⟩, jdk_42_method_154_code, 1, (some .boolean), ({ frames := 0, cells := 0, slots := 0, locals := 0 } : Room))
theorem mt7 (Z : State) (a0 : Array Value) (hw : ∀ d ∈ tables_1, d.before a0 Z = true) (h0 : Heap) (zc : Int32) (r99 : Value) (cl : Cell) (pv : Addr) (SS : Sts Z h0 zc r99 cl pv) (z0 z1 z2 z3 z4 z5 z6 z7 z8 z9 z10 z11 z12 z13 z14 z15 z16 z17 : Int32) (G : RG z0 z1 z2 z3 z4 z5 z6 z7 z8 z9 z10 z11 z12 z13 z14 z15 z16 z17) (hc : HC z0 z1 z2 z3 z4 z5 z6 z7 z8 z9 z10 z11 z12 z13 z14 z15 z16 z17) (a1 : Addr) (a2 : Addr) :
    Met B18_7 Z a0 h0 #[(.ref a1)] (mem19 a1 a2 z0 z1 z2 z3 z4 z5 z6 z7 z8 z9 z10 z11 z12 z13 z14 z15 z16 z17) (Ret (some (.int (1 : Int32))) (mem19 a1 a2 z0 z1 z2 z3 z4 z5 z6 z7 z8 z9 z10 z11 z12 z13 z14 z15 z16 z17)) := by
  refine Met.of pn18 (ls := #[.val (.ref a1)]) (fun m => by first | (simp [entryFrame, mkF, argsToLocals, Value.category, B18_7]; done) | rfl) ?_
  show Go B18_7 Z a0 h0 _ 0 0 (mem19 a1 a2 z0 z1 z2 z3 z4 z5 z6 z7 z8 z9 z10 z11 z12 z13 z14 z15 z16 z17) 0 #[.val (.ref a1)] []
  refine go_getS 3 rfl d18_0 (wd hw 46 rfl) SS.1 ?_
  refine go_if 17 6 rfl (by decide) rfl d18_3 rfl (fun (hc3 : zc.toInt = 0) => absurd hc3 (by exact fun q => SS.2.1 (Int32.toInt_inj.mp q))) (fun (hc3 : ¬ (zc.toInt = 0)) => ?_)
  refine go_aloadN 7 rfl d18_6 rfl rfl ?_
  refine go_get 0 1 10 rfl d18_7 rfl rfl rfl (wd hw 58 rfl) ?_
  refine go_if 17 13 rfl (by decide) rfl d18_10 rfl (fun (hc10 : (0 : Int) ≠ 0) => absurd hc10 (by decide)) (fun (hc10 : ¬ ((0 : Int) ≠ 0)) => ?_)
  refine go_iconst (1 : Int32) 14 rfl d18_13 rfl ?_
  refine go_goto 18 (by decide) rfl d18_14 ?_
  exact go_ireturn d18_18 rfl (Or.inr (Or.inl rfl)) rfl rfl (by decide) (by decide) ⟨rfl, rfl⟩
theorem d21_0 : decode jdk_41_method_11_code 0 = .ok (.iload_n 0, 1) := by decide +kernel
theorem d21_1 : decode jdk_41_method_11_code 1 = .ok (.ifCond .lt 8, 3) := by decide +kernel
theorem d21_4 : decode jdk_41_method_11_code 4 = .ok (.iload_n 0, 1) := by decide +kernel
theorem d21_5 : decode jdk_41_method_11_code 5 = .ok (.iload_n 1, 1) := by decide +kernel
theorem d21_6 : decode jdk_41_method_11_code 6 = .ok (.if_icmp .lt 10, 3) := by decide +kernel
theorem d21_16 : decode jdk_41_method_11_code 16 = .ok (.iload_n 0, 1) := by decide +kernel
theorem d21_17 : decode jdk_41_method_11_code 17 = .ok (.ireturn, 1) := by decide +kernel
theorem pn21 : plainFor (⟨"jdk/internal/util/Preconditions", "checkIndex", "(IILjava/util/function/BiFunction;)I"⟩ : MethodName) = true := by first | (apply plainFor_of_name; simp [plainName, overriddenIn]; done) | decide +kernel
def B21_10 : Bdy := (⟨"jdk/internal/util/Preconditions", "checkIndex", "(IILjava/util/function/BiFunction;)I"⟩, jdk_41_method_11_code, 3, (some .int), ({ frames := 0, cells := 0, slots := 0, locals := 0 } : Room))
theorem mt10 (Z : State) (a0 : Array Value) (hw : ∀ d ∈ tables_1, d.before a0 Z = true) (h0 : Heap) (zc : Int32) (r99 : Value) (cl : Cell) (pv : Addr) (SS : Sts Z h0 zc r99 cl pv) (z0 z1 z2 z3 z4 z5 z6 z7 z8 z9 z10 z11 z12 z13 z14 z15 z16 z17 : Int32) (G : RG z0 z1 z2 z3 z4 z5 z6 z7 z8 z9 z10 z11 z12 z13 z14 z15 z16 z17) (hc : HC z0 z1 z2 z3 z4 z5 z6 z7 z8 z9 z10 z11 z12 z13 z14 z15 z16 z17) :
    Met B21_10 Z a0 h0 #[(.int (0 : Int32)), (.int (18 : Int32)), r99] [] (Ret (some (.int (0 : Int32))) []) := by
  refine Met.of pn21 (ls := #[.val (.int (0 : Int32)), .val (.int (18 : Int32)), .val r99]) (fun m => by rcases ref_cases SS.2.2.2.1 with rfl | ⟨_, rfl⟩ <;> first | (simp [entryFrame, mkF, argsToLocals, Value.category, B21_10]; done) | rfl) ?_
  show Go B21_10 Z a0 h0 _ 0 0 [] 0 #[.val (.int (0 : Int32)), .val (.int (18 : Int32)), .val r99] []
  refine go_iloadN 1 rfl d21_0 rfl ?_
  refine go_if 9 4 rfl (by decide) rfl d21_1 rfl (fun (hc1 : (0 : Int) < 0) => absurd hc1 (by decide)) (fun (hc1 : ¬ ((0 : Int) < 0)) => ?_)
  refine go_iloadN 5 rfl d21_4 rfl ?_
  refine go_iloadN 6 rfl d21_5 rfl ?_
  refine go_icmp 16 9 rfl (by decide) rfl d21_6 rfl (fun (hc6 : (0 : Int) < (18 : Int)) => ?_) (fun (hc6 : ¬ ((0 : Int) < (18 : Int))) => absurd hc6 (by decide))
  refine go_iloadN 17 rfl d21_16 rfl ?_
  exact go_ireturn d21_17 rfl (Or.inl rfl) rfl rfl (by decide) (by decide) ⟨rfl, rfl⟩
theorem d20_0 : decode jdk_42_method_155_code 0 = .ok (.iload_n 0, 1) := by decide +kernel
theorem d20_1 : decode jdk_42_method_155_code 1 = .ok (.iload_n 1, 1) := by decide +kernel
theorem d20_2 : decode jdk_42_method_155_code 2 = .ok (.getstatic 1053, 3) := by decide +kernel
theorem d20_5 : decode jdk_42_method_155_code 5 = .ok (.invokestatic 1059, 3) := by decide +kernel
theorem d20_8 : decode jdk_42_method_155_code 8 = .ok (.pop, 1) := by decide +kernel
theorem d20_9 : decode jdk_42_method_155_code 9 = .ok (.return_, 1) := by decide +kernel
theorem pn20 : plainFor (⟨"java/lang/String", "checkIndex", "(II)V"⟩ : MethodName) = true := by first | (apply plainFor_of_name; simp [plainName, overriddenIn]; done) | decide +kernel
def B20_9 : Bdy := (⟨"java/lang/String", "checkIndex", "(II)V"⟩, jdk_42_method_155_code, 2, none, ({ frames := 1, cells := 0, slots := 0, locals := 14 } : Room))
theorem mt9 (Z : State) (a0 : Array Value) (hw : ∀ d ∈ tables_1, d.before a0 Z = true) (h0 : Heap) (zc : Int32) (r99 : Value) (cl : Cell) (pv : Addr) (SS : Sts Z h0 zc r99 cl pv) (z0 z1 z2 z3 z4 z5 z6 z7 z8 z9 z10 z11 z12 z13 z14 z15 z16 z17 : Int32) (G : RG z0 z1 z2 z3 z4 z5 z6 z7 z8 z9 z10 z11 z12 z13 z14 z15 z16 z17) (hc : HC z0 z1 z2 z3 z4 z5 z6 z7 z8 z9 z10 z11 z12 z13 z14 z15 z16 z17) :
    Met B20_9 Z a0 h0 #[(.int (0 : Int32)), (.int (18 : Int32))] [] (Ret none []) := by
  refine Met.of pn20 (ls := #[.val (.int (0 : Int32)), .val (.int (18 : Int32))]) (fun m => by first | (simp [entryFrame, mkF, argsToLocals, Value.category, B20_9]; done) | rfl) ?_
  show Go B20_9 Z a0 h0 _ 0 0 [] 0 #[.val (.int (0 : Int32)), .val (.int (18 : Int32))] []
  refine go_iloadN 1 rfl d20_0 rfl ?_
  refine go_iloadN 2 rfl d20_1 rfl ?_
  refine go_getS 5 rfl d20_2 (wd hw 118 rfl) SS.2.2.1 ?_
  refine go_callS 8 rfl d20_5 (wd hw 120 rfl) (wd hw 121 rfl) (wd hw 119 rfl) (wd hw 122 rfl) (by decide) (mt10 Z a0 hw h0 zc r99 cl pv SS z0 z1 z2 z3 z4 z5 z6 z7 z8 z9 z10 z11 z12 z13 z14 z15 z16 z17 G hc) (argsL := [(.int (0 : Int32)), (.int (18 : Int32)), r99]) (rest := []) rfl (ps := [.int, .int, (.object "java/util/function/BiFunction")]) (by decide +kernel) rfl rfl 0 rfl (by decide) (by decide) (by decide) (by decide) ?_
  rintro _ _ ⟨rfl, rfl⟩
  show Go B20_9 Z a0 h0 _ 0 0 [] 8 #[.val (.int (0 : Int32)), .val (.int (18 : Int32))] [(.int (0 : Int32))]
  refine go_pop 9 rfl d20_8 rfl rfl ?_
  exact go_return d20_9 rfl rfl (by decide) (by decide) ⟨rfl, rfl⟩
theorem d19_0 : decode jdk_43_method_2_code 0 = .ok (.iload_n 1, 1) := by decide +kernel
theorem d19_1 : decode jdk_43_method_2_code 1 = .ok (.aload_n 0, 1) := by decide +kernel
theorem d19_2 : decode jdk_43_method_2_code 2 = .ok (.arraylength, 1) := by decide +kernel
theorem d19_3 : decode jdk_43_method_2_code 3 = .ok (.invokestatic 9, 3) := by decide +kernel
theorem d19_6 : decode jdk_43_method_2_code 6 = .ok (.aload_n 0, 1) := by decide +kernel
theorem d19_7 : decode jdk_43_method_2_code 7 = .ok (.iload_n 1, 1) := by decide +kernel
theorem d19_8 : decode jdk_43_method_2_code 8 = .ok (.baload, 1) := by decide +kernel
theorem d19_9 : decode jdk_43_method_2_code 9 = .ok (.sipush 255, 3) := by decide +kernel
theorem d19_12 : decode jdk_43_method_2_code 12 = .ok (.iand, 1) := by decide +kernel
theorem d19_13 : decode jdk_43_method_2_code 13 = .ok (.i2c, 1) := by decide +kernel
theorem d19_14 : decode jdk_43_method_2_code 14 = .ok (.ireturn, 1) := by decide +kernel
theorem pn19 : plainFor (⟨"java/lang/StringLatin1", "charAt", "([BI)C"⟩ : MethodName) = true := by first | (apply plainFor_of_name; simp [plainName, overriddenIn]; done) | decide +kernel
def B19_8 : Bdy := (⟨"java/lang/StringLatin1", "charAt", "([BI)C"⟩, jdk_43_method_2_code, 2, (some .char), ({ frames := 2, cells := 0, slots := 0, locals := 27 } : Room))
theorem mt8 (Z : State) (a0 : Array Value) (hw : ∀ d ∈ tables_1, d.before a0 Z = true) (h0 : Heap) (zc : Int32) (r99 : Value) (cl : Cell) (pv : Addr) (SS : Sts Z h0 zc r99 cl pv) (z0 z1 z2 z3 z4 z5 z6 z7 z8 z9 z10 z11 z12 z13 z14 z15 z16 z17 : Int32) (G : RG z0 z1 z2 z3 z4 z5 z6 z7 z8 z9 z10 z11 z12 z13 z14 z15 z16 z17) (hc : HC z0 z1 z2 z3 z4 z5 z6 z7 z8 z9 z10 z11 z12 z13 z14 z15 z16 z17) (a2 : Addr) :
    Met B19_8 Z a0 h0 #[(.ref a2), (.int (0 : Int32))] (mem21 a2 z0 z1 z2 z3 z4 z5 z6 z7 z8 z9 z10 z11 z12 z13 z14 z15 z16 z17) (Ret (some (.int z0)) (mem21 a2 z0 z1 z2 z3 z4 z5 z6 z7 z8 z9 z10 z11 z12 z13 z14 z15 z16 z17)) := by
  refine Met.of pn19 (ls := #[.val (.ref a2), .val (.int (0 : Int32))]) (fun m => by first | (simp [entryFrame, mkF, argsToLocals, Value.category, B19_8]; done) | rfl) ?_
  show Go B19_8 Z a0 h0 _ 0 0 (mem21 a2 z0 z1 z2 z3 z4 z5 z6 z7 z8 z9 z10 z11 z12 z13 z14 z15 z16 z17) 0 #[.val (.ref a2), .val (.int (0 : Int32))] []
  refine go_iloadN 1 rfl d19_0 rfl ?_
  refine go_aloadN 2 rfl d19_1 rfl rfl ?_
  refine go_alen 0 3 rfl d19_2 rfl rfl ?_
  show Go B19_8 Z a0 h0 _ 0 0 (mem21 a2 z0 z1 z2 z3 z4 z5 z6 z7 z8 z9 z10 z11 z12 z13 z14 z15 z16 z17) 3 #[.val (.ref a2), .val (.int (0 : Int32))] [(.int (18 : Int32)), (.int (0 : Int32))]
  refine go_callS 6 rfl d19_3 (wd hw 115 rfl) (wd hw 116 rfl) (wd hw 35 rfl) (wd hw 117 rfl) (by decide) (Met.frame (mem21 a2 z0 z1 z2 z3 z4 z5 z6 z7 z8 z9 z10 z11 z12 z13 z14 z15 z16 z17) (mt9 Z a0 hw h0 zc r99 cl pv SS z0 z1 z2 z3 z4 z5 z6 z7 z8 z9 z10 z11 z12 z13 z14 z15 z16 z17 G hc)) (argsL := [(.int (0 : Int32)), (.int (18 : Int32))]) (rest := []) rfl (ps := [.int, .int]) (by decide +kernel) rfl rfl 0 rfl (by decide) (by decide) (by decide) (by decide) ?_
  rintro _ _ ⟨_, ⟨rfl, rfl⟩, rfl⟩
  show Go B19_8 Z a0 h0 _ 0 0 (mem21 a2 z0 z1 z2 z3 z4 z5 z6 z7 z8 z9 z10 z11 z12 z13 z14 z15 z16 z17) 6 #[.val (.ref a2), .val (.int (0 : Int32))] []
  refine go_aloadN 7 rfl d19_6 rfl rfl ?_
  refine go_iloadN 8 rfl d19_7 rfl ?_
  refine go_baload 9 rfl d19_8 rfl (Mo.el (i := 0) rfl (by decide) rfl) ?_
  refine go_sipush (255 : Int32) 12 rfl d19_9 rfl ?_
  refine go_iand 13 rfl d19_12 rfl ?_
  refine go_i2c 14 rfl d19_13 rfl ?_
  exact go_ireturn d19_14 rfl (Or.inr (Or.inr (Or.inr (Or.inl rfl)))) rfl (congrArg Value.int (nar_c _)) (by decide) (by decide) (by rw [lat z0 (rg0 G)]; exact ⟨rfl, rfl⟩)
theorem d17_0 : decode jdk_42_method_56_code 0 = .ok (.aload_n 0, 1) := by decide +kernel
theorem d17_1 : decode jdk_42_method_56_code 1 = .ok (.invokevirtual 492, 3) := by decide +kernel
theorem d17_4 : decode jdk_42_method_56_code 4 = .ok (.ifCond .eq 12, 3) := by decide +kernel
theorem d17_7 : decode jdk_42_method_56_code 7 = .ok (.aload_n 0, 1) := by decide +kernel
theorem d17_8 : decode jdk_42_method_56_code 8 = .ok (.getfield 9, 3) := by decide +kernel
theorem d17_11 : decode jdk_42_method_56_code 11 = .ok (.iload_n 1, 1) := by decide +kernel
theorem d17_12 : decode jdk_42_method_56_code 12 = .ok (.invokestatic 495, 3) := by decide +kernel
theorem d17_15 : decode jdk_42_method_56_code 15 = .ok (.ireturn, 1) := by decide +kernel
theorem pn17 : plainFor (⟨"java/lang/String", "charAt", "(I)C"⟩ : MethodName) = true := by first | (apply plainFor_of_name; simp [plainName, overriddenIn]; done) | decide +kernel
def B17_6 : Bdy := (⟨"java/lang/String", "charAt", "(I)C"⟩, jdk_42_method_56_code, 2, (some .char), ({ frames := 3, cells := 0, slots := 0, locals := 40 } : Room))
theorem mt6 (Z : State) (a0 : Array Value) (hw : ∀ d ∈ tables_1, d.before a0 Z = true) (h0 : Heap) (zc : Int32) (r99 : Value) (cl : Cell) (pv : Addr) (SS : Sts Z h0 zc r99 cl pv) (z0 z1 z2 z3 z4 z5 z6 z7 z8 z9 z10 z11 z12 z13 z14 z15 z16 z17 : Int32) (G : RG z0 z1 z2 z3 z4 z5 z6 z7 z8 z9 z10 z11 z12 z13 z14 z15 z16 z17) (hc : HC z0 z1 z2 z3 z4 z5 z6 z7 z8 z9 z10 z11 z12 z13 z14 z15 z16 z17) (a1 : Addr) (a2 : Addr) :
    Met B17_6 Z a0 h0 #[(.ref a1), (.int (0 : Int32))] (mem19 a1 a2 z0 z1 z2 z3 z4 z5 z6 z7 z8 z9 z10 z11 z12 z13 z14 z15 z16 z17) (Ret (some (.int z0)) (mem20 a2 z0 z1 z2 z3 z4 z5 z6 z7 z8 z9 z10 z11 z12 z13 z14 z15 z16 z17 a1)) := by
  refine Met.of pn17 (ls := #[.val (.ref a1), .val (.int (0 : Int32))]) (fun m => by first | (simp [entryFrame, mkF, argsToLocals, Value.category, B17_6]; done) | rfl) ?_
  show Go B17_6 Z a0 h0 _ 0 0 (mem19 a1 a2 z0 z1 z2 z3 z4 z5 z6 z7 z8 z9 z10 z11 z12 z13 z14 z15 z16 z17) 0 #[.val (.ref a1), .val (.int (0 : Int32))] []
  refine go_aloadN 1 rfl d17_0 rfl rfl ?_
  refine go_callV 4 rfl d17_1 (wd hw 106 rfl) (wd hw 107 rfl) (wd hw 109 rfl) (wd hw 108 rfl) (wd hw 35 rfl) (wd hw 110 rfl) (by decide) (Mo.exa (i := 0) rfl) (mt7 Z a0 hw h0 zc r99 cl pv SS z0 z1 z2 z3 z4 z5 z6 z7 z8 z9 z10 z11 z12 z13 z14 z15 z16 z17 G hc a1 a2) (argsL := []) (rest := []) rfl (ps := []) (by decide +kernel) rfl rfl 0 rfl (by decide) (by decide) (by decide) (by decide) ?_
  rintro _ _ ⟨rfl, rfl⟩
  show Go B17_6 Z a0 h0 _ 0 0 (mem19 a1 a2 z0 z1 z2 z3 z4 z5 z6 z7 z8 z9 z10 z11 z12 z13 z14 z15 z16 z17) 4 #[.val (.ref a1), .val (.int (0 : Int32))] [(.int (1 : Int32))]
  refine go_if 16 7 rfl (by decide) rfl d17_4 rfl (fun (hc4 : (1 : Int) = 0) => absurd hc4 (by decide)) (fun (hc4 : ¬ ((1 : Int) = 0)) => ?_)
  refine go_aloadN 8 rfl d17_7 rfl rfl ?_
  refine go_get 0 0 11 rfl d17_8 rfl rfl rfl (wd hw 60 rfl) ?_
  refine go_iloadN 12 rfl d17_11 rfl ?_
  refine Go.front 1 (Nat.le_of_ble_eq_true rfl) ?_
  show Go B17_6 Z a0 h0 _ 0 0 (mem20 a2 z0 z1 z2 z3 z4 z5 z6 z7 z8 z9 z10 z11 z12 z13 z14 z15 z16 z17 a1) 12 #[.val (.ref a1), .val (.int (0 : Int32))] [(.int (0 : Int32)), (.ref a2)]
  refine go_callS 15 rfl d17_12 (wd hw 111 rfl) (wd hw 112 rfl) (wd hw 113 rfl) (wd hw 114 rfl) (by decide) (Met.frame [ob a1 "java/lang/String" [("java/lang/String", "value", "[B", (.ref a2)), ("java/lang/String", "coder", "B", (.int (0 : Int32)))]] (mt8 Z a0 hw h0 zc r99 cl pv SS z0 z1 z2 z3 z4 z5 z6 z7 z8 z9 z10 z11 z12 z13 z14 z15 z16 z17 G hc a2)) (argsL := [(.ref a2), (.int (0 : Int32))]) (rest := []) rfl (ps := [(.array .byte), .int]) (by decide +kernel) rfl rfl 0 rfl (by decide) (by decide) (by decide) (by decide) ?_
  rintro _ _ ⟨_, ⟨rfl, rfl⟩, rfl⟩
  show Go B17_6 Z a0 h0 _ 0 0 (mem20 a2 z0 z1 z2 z3 z4 z5 z6 z7 z8 z9 z10 z11 z12 z13 z14 z15 z16 z17 a1) 15 #[.val (.ref a1), .val (.int (0 : Int32))] [(.int z0)]
  exact go_ireturn d17_15 rfl (Or.inr (Or.inr (Or.inr (Or.inl rfl)))) rfl (congrArg Value.int (nar_z z0 (rg0 G))) (by decide) (by decide) ⟨rfl, rfl⟩
def B16_12 : Bdy := (⟨"java/lang/String", "coder", "()B"⟩, jdk_42_method_152_code, 1, (some .byte), ({ frames := 0, cells := 0, slots := 0, locals := 0 } : Room))
theorem mt12 (Z : State) (a0 : Array Value) (hw : ∀ d ∈ tables_1, d.before a0 Z = true) (h0 : Heap) (zc : Int32) (r99 : Value) (cl : Cell) (pv : Addr) (SS : Sts Z h0 zc r99 cl pv) (z0 z1 z2 z3 z4 z5 z6 z7 z8 z9 z10 z11 z12 z13 z14 z15 z16 z17 : Int32) (G : RG z0 z1 z2 z3 z4 z5 z6 z7 z8 z9 z10 z11 z12 z13 z14 z15 z16 z17) (hc : HC z0 z1 z2 z3 z4 z5 z6 z7 z8 z9 z10 z11 z12 z13 z14 z15 z16 z17) (a2 : Addr) (a1 : Addr) :
    Met B16_12 Z a0 h0 #[(.ref a1)] (mem20 a2 z0 z1 z2 z3 z4 z5 z6 z7 z8 z9 z10 z11 z12 z13 z14 z15 z16 z17 a1) (Ret (some (.int (0 : Int32))) (mem20 a2 z0 z1 z2 z3 z4 z5 z6 z7 z8 z9 z10 z11 z12 z13 z14 z15 z16 z17 a1)) := by
  refine Met.of pn16 (ls := #[.val (.ref a1)]) (fun m => by first | (simp [entryFrame, mkF, argsToLocals, Value.category, B16_12]; done) | rfl) ?_
  show Go B16_12 Z a0 h0 _ 0 0 (mem20 a2 z0 z1 z2 z3 z4 z5 z6 z7 z8 z9 z10 z11 z12 z13 z14 z15 z16 z17 a1) 0 #[.val (.ref a1)] []
  refine go_getS 3 rfl d16_0 (wd hw 46 rfl) SS.1 ?_
  refine go_if 13 6 rfl (by decide) rfl d16_3 rfl (fun (hc3 : zc.toInt = 0) => absurd hc3 (by exact fun q => SS.2.1 (Int32.toInt_inj.mp q))) (fun (hc3 : ¬ (zc.toInt = 0)) => ?_)
  refine go_aloadN 7 rfl d16_6 rfl rfl ?_
  refine go_get 1 1 10 rfl d16_7 rfl rfl rfl (wd hw 58 rfl) ?_
  refine go_goto 14 (by decide) rfl d16_10 ?_
  exact go_ireturn d16_14 rfl (Or.inr (Or.inr (Or.inl rfl))) rfl rfl (by decide) (by decide) ⟨rfl, rfl⟩
def B15_11 : Bdy := (⟨"java/lang/String", "length", "()I"⟩, jdk_42_method_54_code, 1, (some .int), ({ frames := 1, cells := 0, slots := 0, locals := 13 } : Room))
theorem mt11 (Z : State) (a0 : Array Value) (hw : ∀ d ∈ tables_1, d.before a0 Z = true) (h0 : Heap) (zc : Int32) (r99 : Value) (cl : Cell) (pv : Addr) (SS : Sts Z h0 zc r99 cl pv) (z0 z1 z2 z3 z4 z5 z6 z7 z8 z9 z10 z11 z12 z13 z14 z15 z16 z17 : Int32) (G : RG z0 z1 z2 z3 z4 z5 z6 z7 z8 z9 z10 z11 z12 z13 z14 z15 z16 z17) (hc : HC z0 z1 z2 z3 z4 z5 z6 z7 z8 z9 z10 z11 z12 z13 z14 z15 z16 z17) (a2 : Addr) (a1 : Addr) :
    Met B15_11 Z a0 h0 #[(.ref a1)] (mem20 a2 z0 z1 z2 z3 z4 z5 z6 z7 z8 z9 z10 z11 z12 z13 z14 z15 z16 z17 a1) (Ret (some (.int (18 : Int32))) (mem20 a2 z0 z1 z2 z3 z4 z5 z6 z7 z8 z9 z10 z11 z12 z13 z14 z15 z16 z17 a1)) := by
  refine Met.of pn15 (ls := #[.val (.ref a1)]) (fun m => by first | (simp [entryFrame, mkF, argsToLocals, Value.category, B15_11]; done) | rfl) ?_
  show Go B15_11 Z a0 h0 _ 0 0 (mem20 a2 z0 z1 z2 z3 z4 z5 z6 z7 z8 z9 z10 z11 z12 z13 z14 z15 z16 z17 a1) 0 #[.val (.ref a1)] []
  refine go_aloadN 1 rfl d15_0 rfl rfl ?_
  refine go_get 1 0 4 rfl d15_1 rfl rfl rfl (wd hw 60 rfl) ?_
  refine go_alen 0 5 rfl d15_4 rfl rfl ?_
  show Go B15_11 Z a0 h0 _ 0 0 (mem20 a2 z0 z1 z2 z3 z4 z5 z6 z7 z8 z9 z10 z11 z12 z13 z14 z15 z16 z17 a1) 5 #[.val (.ref a1)] [(.int (18 : Int32))]
  refine go_aloadN 6 rfl d15_5 rfl rfl ?_
  refine go_callV 9 rfl d15_6 (wd hw 93 rfl) (wd hw 94 rfl) (wd hw 96 rfl) (wd hw 95 rfl) (wd hw 35 rfl) (wd hw 97 rfl) (by decide) (Mo.exa (i := 1) rfl) (mt12 Z a0 hw h0 zc r99 cl pv SS z0 z1 z2 z3 z4 z5 z6 z7 z8 z9 z10 z11 z12 z13 z14 z15 z16 z17 G hc a2 a1) (argsL := []) (rest := [(.int (18 : Int32))]) rfl (ps := []) (by decide +kernel) rfl rfl 1 rfl (by decide) (by decide) (by decide) (by decide) ?_
  rintro _ _ ⟨rfl, rfl⟩
  show Go B15_11 Z a0 h0 _ 0 0 (mem20 a2 z0 z1 z2 z3 z4 z5 z6 z7 z8 z9 z10 z11 z12 z13 z14 z15 z16 z17 a1) 9 #[.val (.ref a1)] [(.int (0 : Int32)), (.int (18 : Int32))]
  refine go_ishr 10 rfl d15_9 rfl ?_
  show Go B15_11 Z a0 h0 _ 0 0 (mem20 a2 z0 z1 z2 z3 z4 z5 z6 z7 z8 z9 z10 z11 z12 z13 z14 z15 z16 z17 a1) 10 #[.val (.ref a1)] [(.int (18 : Int32))]
  exact go_ireturn d15_10 rfl (Or.inl rfl) rfl rfl (by decide) (by decide) ⟨rfl, rfl⟩
def B18_14 : Bdy := (⟨"java/lang/String", "isLatin1", "()Z"⟩, jdk_42_method_154_code, 1, (some .boolean), ({ frames := 0, cells := 0, slots := 0, locals := 0 } : Room))
theorem mt14 (Z : State) (a0 : Array Value) (hw : ∀ d ∈ tables_1, d.before a0 Z = true) (h0 : Heap) (zc : Int32) (r99 : Value) (cl : Cell) (pv : Addr) (SS : Sts Z h0 zc r99 cl pv) (z0 z1 z2 z3 z4 z5 z6 z7 z8 z9 z10 z11 z12 z13 z14 z15 z16 z17 : Int32) (G : RG z0 z1 z2 z3 z4 z5 z6 z7 z8 z9 z10 z11 z12 z13 z14 z15 z16 z17) (hc : HC z0 z1 z2 z3 z4 z5 z6 z7 z8 z9 z10 z11 z12 z13 z14 z15 z16 z17) (a2 : Addr) (a1 : Addr) :
    Met B18_14 Z a0 h0 #[(.ref a1)] (mem20 a2 z0 z1 z2 z3 z4 z5 z6 z7 z8 z9 z10 z11 z12 z13 z14 z15 z16 z17 a1) (Ret (some (.int (1 : Int32))) (mem20 a2 z0 z1 z2 z3 z4 z5 z6 z7 z8 z9 z10 z11 z12 z13 z14 z15 z16 z17 a1)) := by
  refine Met.of pn18 (ls := #[.val (.ref a1)]) (fun m => by first | (simp [entryFrame, mkF, argsToLocals, Value.category, B18_14]; done) | rfl) ?_
  show Go B18_14 Z a0 h0 _ 0 0 (mem20 a2 z0 z1 z2 z3 z4 z5 z6 z7 z8 z9 z10 z11 z12 z13 z14 z15 z16 z17 a1) 0 #[.val (.ref a1)] []
  refine go_getS 3 rfl d18_0 (wd hw 46 rfl) SS.1 ?_
  refine go_if 17 6 rfl (by decide) rfl d18_3 rfl (fun (hc3 : zc.toInt = 0) => absurd hc3 (by exact fun q => SS.2.1 (Int32.toInt_inj.mp q))) (fun (hc3 : ¬ (zc.toInt = 0)) => ?_)
  refine go_aloadN 7 rfl d18_6 rfl rfl ?_
  refine go_get 1 1 10 rfl d18_7 rfl rfl rfl (wd hw 58 rfl) ?_
  refine go_if 17 13 rfl (by decide) rfl d18_10 rfl (fun (hc10 : (0 : Int) ≠ 0) => absurd hc10 (by decide)) (fun (hc10 : ¬ ((0 : Int) ≠ 0)) => ?_)
  refine go_iconst (1 : Int32) 14 rfl d18_13 rfl ?_
  refine go_goto 18 (by decide) rfl d18_14 ?_
  exact go_ireturn d18_18 rfl (Or.inr (Or.inl rfl)) rfl rfl (by decide) (by decide) ⟨rfl, rfl⟩
def B21_17 : Bdy := (⟨"jdk/internal/util/Preconditions", "checkIndex", "(IILjava/util/function/BiFunction;)I"⟩, jdk_41_method_11_code, 3, (some .int), ({ frames := 0, cells := 0, slots := 0, locals := 0 } : Room))
theorem mt17 (Z : State) (a0 : Array Value) (hw : ∀ d ∈ tables_1, d.before a0 Z = true) (h0 : Heap) (zc : Int32) (r99 : Value) (cl : Cell) (pv : Addr) (SS : Sts Z h0 zc r99 cl pv) (z0 z1 z2 z3 z4 z5 z6 z7 z8 z9 z10 z11 z12 z13 z14 z15 z16 z17 : Int32) (G : RG z0 z1 z2 z3 z4 z5 z6 z7 z8 z9 z10 z11 z12 z13 z14 z15 z16 z17) (hc : HC z0 z1 z2 z3 z4 z5 z6 z7 z8 z9 z10 z11 z12 z13 z14 z15 z16 z17) :
    Met B21_17 Z a0 h0 #[(.int (1 : Int32)), (.int (18 : Int32)), r99] [] (Ret (some (.int (1 : Int32))) []) := by
  refine Met.of pn21 (ls := #[.val (.int (1 : Int32)), .val (.int (18 : Int32)), .val r99]) (fun m => by rcases ref_cases SS.2.2.2.1 with rfl | ⟨_, rfl⟩ <;> first | (simp [entryFrame, mkF, argsToLocals, Value.category, B21_17]; done) | rfl) ?_
  show Go B21_17 Z a0 h0 _ 0 0 [] 0 #[.val (.int (1 : Int32)), .val (.int (18 : Int32)), .val r99] []
  refine go_iloadN 1 rfl d21_0 rfl ?_
  refine go_if 9 4 rfl (by decide) rfl d21_1 rfl (fun (hc1 : (1 : Int) < 0) => absurd hc1 (by decide)) (fun (hc1 : ¬ ((1 : Int) < 0)) => ?_)
  refine go_iloadN 5 rfl d21_4 rfl ?_
  refine go_iloadN 6 rfl d21_5 rfl ?_
  refine go_icmp 16 9 rfl (by decide) rfl d21_6 rfl (fun (hc6 : (1 : Int) < (18 : Int)) => ?_) (fun (hc6 : ¬ ((1 : Int) < (18 : Int))) => absurd hc6 (by decide))
  refine go_iloadN 17 rfl d21_16 rfl ?_
  exact go_ireturn d21_17 rfl (Or.inl rfl) rfl rfl (by decide) (by decide) ⟨rfl, rfl⟩
def B20_16 : Bdy := (⟨"java/lang/String", "checkIndex", "(II)V"⟩, jdk_42_method_155_code, 2, none, ({ frames := 1, cells := 0, slots := 0, locals := 14 } : Room))
theorem mt16 (Z : State) (a0 : Array Value) (hw : ∀ d ∈ tables_1, d.before a0 Z = true) (h0 : Heap) (zc : Int32) (r99 : Value) (cl : Cell) (pv : Addr) (SS : Sts Z h0 zc r99 cl pv) (z0 z1 z2 z3 z4 z5 z6 z7 z8 z9 z10 z11 z12 z13 z14 z15 z16 z17 : Int32) (G : RG z0 z1 z2 z3 z4 z5 z6 z7 z8 z9 z10 z11 z12 z13 z14 z15 z16 z17) (hc : HC z0 z1 z2 z3 z4 z5 z6 z7 z8 z9 z10 z11 z12 z13 z14 z15 z16 z17) :
    Met B20_16 Z a0 h0 #[(.int (1 : Int32)), (.int (18 : Int32))] [] (Ret none []) := by
  refine Met.of pn20 (ls := #[.val (.int (1 : Int32)), .val (.int (18 : Int32))]) (fun m => by first | (simp [entryFrame, mkF, argsToLocals, Value.category, B20_16]; done) | rfl) ?_
  show Go B20_16 Z a0 h0 _ 0 0 [] 0 #[.val (.int (1 : Int32)), .val (.int (18 : Int32))] []
  refine go_iloadN 1 rfl d20_0 rfl ?_
  refine go_iloadN 2 rfl d20_1 rfl ?_
  refine go_getS 5 rfl d20_2 (wd hw 118 rfl) SS.2.2.1 ?_
  refine go_callS 8 rfl d20_5 (wd hw 120 rfl) (wd hw 121 rfl) (wd hw 119 rfl) (wd hw 122 rfl) (by decide) (mt17 Z a0 hw h0 zc r99 cl pv SS z0 z1 z2 z3 z4 z5 z6 z7 z8 z9 z10 z11 z12 z13 z14 z15 z16 z17 G hc) (argsL := [(.int (1 : Int32)), (.int (18 : Int32)), r99]) (rest := []) rfl (ps := [.int, .int, (.object "java/util/function/BiFunction")]) (by decide +kernel) rfl rfl 0 rfl (by decide) (by decide) (by decide) (by decide) ?_
  rintro _ _ ⟨rfl, rfl⟩
  show Go B20_16 Z a0 h0 _ 0 0 [] 8 #[.val (.int (1 : Int32)), .val (.int (18 : Int32))] [(.int (1 : Int32))]
  refine go_pop 9 rfl d20_8 rfl rfl ?_
  exact go_return d20_9 rfl rfl (by decide) (by decide) ⟨rfl, rfl⟩
def B19_15 : Bdy := (⟨"java/lang/StringLatin1", "charAt", "([BI)C"⟩, jdk_43_method_2_code, 2, (some .char), ({ frames := 2, cells := 0, slots := 0, locals := 27 } : Room))
theorem mt15 (Z : State) (a0 : Array Value) (hw : ∀ d ∈ tables_1, d.before a0 Z = true) (h0 : Heap) (zc : Int32) (r99 : Value) (cl : Cell) (pv : Addr) (SS : Sts Z h0 zc r99 cl pv) (z0 z1 z2 z3 z4 z5 z6 z7 z8 z9 z10 z11 z12 z13 z14 z15 z16 z17 : Int32) (G : RG z0 z1 z2 z3 z4 z5 z6 z7 z8 z9 z10 z11 z12 z13 z14 z15 z16 z17) (hc : HC z0 z1 z2 z3 z4 z5 z6 z7 z8 z9 z10 z11 z12 z13 z14 z15 z16 z17) (a2 : Addr) :
    Met B19_15 Z a0 h0 #[(.ref a2), (.int (1 : Int32))] (mem21 a2 z0 z1 z2 z3 z4 z5 z6 z7 z8 z9 z10 z11 z12 z13 z14 z15 z16 z17) (Ret (some (.int z1)) (mem21 a2 z0 z1 z2 z3 z4 z5 z6 z7 z8 z9 z10 z11 z12 z13 z14 z15 z16 z17)) := by
  refine Met.of pn19 (ls := #[.val (.ref a2), .val (.int (1 : Int32))]) (fun m => by first | (simp [entryFrame, mkF, argsToLocals, Value.category, B19_15]; done) | rfl) ?_
  show Go B19_15 Z a0 h0 _ 0 0 (mem21 a2 z0 z1 z2 z3 z4 z5 z6 z7 z8 z9 z10 z11 z12 z13 z14 z15 z16 z17) 0 #[.val (.ref a2), .val (.int (1 : Int32))] []
  refine go_iloadN 1 rfl d19_0 rfl ?_
  refine go_aloadN 2 rfl d19_1 rfl rfl ?_
  refine go_alen 0 3 rfl d19_2 rfl rfl ?_
  show Go B19_15 Z a0 h0 _ 0 0 (mem21 a2 z0 z1 z2 z3 z4 z5 z6 z7 z8 z9 z10 z11 z12 z13 z14 z15 z16 z17) 3 #[.val (.ref a2), .val (.int (1 : Int32))] [(.int (18 : Int32)), (.int (1 : Int32))]
  refine go_callS 6 rfl d19_3 (wd hw 115 rfl) (wd hw 116 rfl) (wd hw 35 rfl) (wd hw 117 rfl) (by decide) (Met.frame (mem21 a2 z0 z1 z2 z3 z4 z5 z6 z7 z8 z9 z10 z11 z12 z13 z14 z15 z16 z17) (mt16 Z a0 hw h0 zc r99 cl pv SS z0 z1 z2 z3 z4 z5 z6 z7 z8 z9 z10 z11 z12 z13 z14 z15 z16 z17 G hc)) (argsL := [(.int (1 : Int32)), (.int (18 : Int32))]) (rest := []) rfl (ps := [.int, .int]) (by decide +kernel) rfl rfl 0 rfl (by decide) (by decide) (by decide) (by decide) ?_
  rintro _ _ ⟨_, ⟨rfl, rfl⟩, rfl⟩
  show Go B19_15 Z a0 h0 _ 0 0 (mem21 a2 z0 z1 z2 z3 z4 z5 z6 z7 z8 z9 z10 z11 z12 z13 z14 z15 z16 z17) 6 #[.val (.ref a2), .val (.int (1 : Int32))] []
  refine go_aloadN 7 rfl d19_6 rfl rfl ?_
  refine go_iloadN 8 rfl d19_7 rfl ?_
  refine go_baload 9 rfl d19_8 rfl (Mo.el (i := 0) rfl (by decide) rfl) ?_
  refine go_sipush (255 : Int32) 12 rfl d19_9 rfl ?_
  refine go_iand 13 rfl d19_12 rfl ?_
  refine go_i2c 14 rfl d19_13 rfl ?_
  exact go_ireturn d19_14 rfl (Or.inr (Or.inr (Or.inr (Or.inl rfl)))) rfl (congrArg Value.int (nar_c _)) (by decide) (by decide) (by rw [lat z1 (rg1 G)]; exact ⟨rfl, rfl⟩)
def B17_13 : Bdy := (⟨"java/lang/String", "charAt", "(I)C"⟩, jdk_42_method_56_code, 2, (some .char), ({ frames := 3, cells := 0, slots := 0, locals := 40 } : Room))
theorem mt13 (Z : State) (a0 : Array Value) (hw : ∀ d ∈ tables_1, d.before a0 Z = true) (h0 : Heap) (zc : Int32) (r99 : Value) (cl : Cell) (pv : Addr) (SS : Sts Z h0 zc r99 cl pv) (z0 z1 z2 z3 z4 z5 z6 z7 z8 z9 z10 z11 z12 z13 z14 z15 z16 z17 : Int32) (G : RG z0 z1 z2 z3 z4 z5 z6 z7 z8 z9 z10 z11 z12 z13 z14 z15 z16 z17) (hc : HC z0 z1 z2 z3 z4 z5 z6 z7 z8 z9 z10 z11 z12 z13 z14 z15 z16 z17) (a2 : Addr) (a1 : Addr) :
    Met B17_13 Z a0 h0 #[(.ref a1), (.int (1 : Int32))] (mem20 a2 z0 z1 z2 z3 z4 z5 z6 z7 z8 z9 z10 z11 z12 z13 z14 z15 z16 z17 a1) (Ret (some (.int z1)) (mem20 a2 z0 z1 z2 z3 z4 z5 z6 z7 z8 z9 z10 z11 z12 z13 z14 z15 z16 z17 a1)) := by
  refine Met.of pn17 (ls := #[.val (.ref a1), .val (.int (1 : Int32))]) (fun m => by first | (simp [entryFrame, mkF, argsToLocals, Value.category, B17_13]; done) | rfl) ?_
  show Go B17_13 Z a0 h0 _ 0 0 (mem20 a2 z0 z1 z2 z3 z4 z5 z6 z7 z8 z9 z10 z11 z12 z13 z14 z15 z16 z17 a1) 0 #[.val (.ref a1), .val (.int (1 : Int32))] []
  refine go_aloadN 1 rfl d17_0 rfl rfl ?_
  refine go_callV 4 rfl d17_1 (wd hw 106 rfl) (wd hw 107 rfl) (wd hw 109 rfl) (wd hw 108 rfl) (wd hw 35 rfl) (wd hw 110 rfl) (by decide) (Mo.exa (i := 1) rfl) (mt14 Z a0 hw h0 zc r99 cl pv SS z0 z1 z2 z3 z4 z5 z6 z7 z8 z9 z10 z11 z12 z13 z14 z15 z16 z17 G hc a2 a1) (argsL := []) (rest := []) rfl (ps := []) (by decide +kernel) rfl rfl 0 rfl (by decide) (by decide) (by decide) (by decide) ?_
  rintro _ _ ⟨rfl, rfl⟩
  show Go B17_13 Z a0 h0 _ 0 0 (mem20 a2 z0 z1 z2 z3 z4 z5 z6 z7 z8 z9 z10 z11 z12 z13 z14 z15 z16 z17 a1) 4 #[.val (.ref a1), .val (.int (1 : Int32))] [(.int (1 : Int32))]
  refine go_if 16 7 rfl (by decide) rfl d17_4 rfl (fun (hc4 : (1 : Int) = 0) => absurd hc4 (by decide)) (fun (hc4 : ¬ ((1 : Int) = 0)) => ?_)
  refine go_aloadN 8 rfl d17_7 rfl rfl ?_
  refine go_get 1 0 11 rfl d17_8 rfl rfl rfl (wd hw 60 rfl) ?_
  refine go_iloadN 12 rfl d17_11 rfl ?_
  refine go_callS 15 rfl d17_12 (wd hw 111 rfl) (wd hw 112 rfl) (wd hw 113 rfl) (wd hw 114 rfl) (by decide) (Met.frame [ob a1 "java/lang/String" [("java/lang/String", "value", "[B", (.ref a2)), ("java/lang/String", "coder", "B", (.int (0 : Int32)))]] (mt15 Z a0 hw h0 zc r99 cl pv SS z0 z1 z2 z3 z4 z5 z6 z7 z8 z9 z10 z11 z12 z13 z14 z15 z16 z17 G hc a2)) (argsL := [(.ref a2), (.int (1 : Int32))]) (rest := []) rfl (ps := [(.array .byte), .int]) (by decide +kernel) rfl rfl 0 rfl (by decide) (by decide) (by decide) (by decide) ?_
  rintro _ _ ⟨_, ⟨rfl, rfl⟩, rfl⟩
  show Go B17_13 Z a0 h0 _ 0 0 (mem20 a2 z0 z1 z2 z3 z4 z5 z6 z7 z8 z9 z10 z11 z12 z13 z14 z15 z16 z17 a1) 15 #[.val (.ref a1), .val (.int (1 : Int32))] [(.int z1)]
  exact go_ireturn d17_15 rfl (Or.inr (Or.inr (Or.inr (Or.inl rfl)))) rfl (congrArg Value.int (nar_z z1 (rg1 G))) (by decide) (by decide) ⟨rfl, rfl⟩
def B21_21 : Bdy := (⟨"jdk/internal/util/Preconditions", "checkIndex", "(IILjava/util/function/BiFunction;)I"⟩, jdk_41_method_11_code, 3, (some .int), ({ frames := 0, cells := 0, slots := 0, locals := 0 } : Room))
theorem mt21 (Z : State) (a0 : Array Value) (hw : ∀ d ∈ tables_1, d.before a0 Z = true) (h0 : Heap) (zc : Int32) (r99 : Value) (cl : Cell) (pv : Addr) (SS : Sts Z h0 zc r99 cl pv) (z0 z1 z2 z3 z4 z5 z6 z7 z8 z9 z10 z11 z12 z13 z14 z15 z16 z17 : Int32) (G : RG z0 z1 z2 z3 z4 z5 z6 z7 z8 z9 z10 z11 z12 z13 z14 z15 z16 z17) (hc : HC z0 z1 z2 z3 z4 z5 z6 z7 z8 z9 z10 z11 z12 z13 z14 z15 z16 z17) :
    Met B21_21 Z a0 h0 #[(.int (2 : Int32)), (.int (18 : Int32)), r99] [] (Ret (some (.int (2 : Int32))) []) := by
  refine Met.of pn21 (ls := #[.val (.int (2 : Int32)), .val (.int (18 : Int32)), .val r99]) (fun m => by rcases ref_cases SS.2.2.2.1 with rfl | ⟨_, rfl⟩ <;> first | (simp [entryFrame, mkF, argsToLocals, Value.category, B21_21]; done) | rfl) ?_
  show Go B21_21 Z a0 h0 _ 0 0 [] 0 #[.val (.int (2 : Int32)), .val (.int (18 : Int32)), .val r99] []
  refine go_iloadN 1 rfl d21_0 rfl ?_
  refine go_if 9 4 rfl (by decide) rfl d21_1 rfl (fun (hc1 : (2 : Int) < 0) => absurd hc1 (by decide)) (fun (hc1 : ¬ ((2 : Int) < 0)) => ?_)
  refine go_iloadN 5 rfl d21_4 rfl ?_
  refine go_iloadN 6 rfl d21_5 rfl ?_
  refine go_icmp 16 9 rfl (by decide) rfl d21_6 rfl (fun (hc6 : (2 : Int) < (18 : Int)) => ?_) (fun (hc6 : ¬ ((2 : Int) < (18 : Int))) => absurd hc6 (by decide))
  refine go_iloadN 17 rfl d21_16 rfl ?_
  exact go_ireturn d21_17 rfl (Or.inl rfl) rfl rfl (by decide) (by decide) ⟨rfl, rfl⟩
def B20_20 : Bdy := (⟨"java/lang/String", "checkIndex", "(II)V"⟩, jdk_42_method_155_code, 2, none, ({ frames := 1, cells := 0, slots := 0, locals := 14 } : Room))
theorem mt20 (Z : State) (a0 : Array Value) (hw : ∀ d ∈ tables_1, d.before a0 Z = true) (h0 : Heap) (zc : Int32) (r99 : Value) (cl : Cell) (pv : Addr) (SS : Sts Z h0 zc r99 cl pv) (z0 z1 z2 z3 z4 z5 z6 z7 z8 z9 z10 z11 z12 z13 z14 z15 z16 z17 : Int32) (G : RG z0 z1 z2 z3 z4 z5 z6 z7 z8 z9 z10 z11 z12 z13 z14 z15 z16 z17) (hc : HC z0 z1 z2 z3 z4 z5 z6 z7 z8 z9 z10 z11 z12 z13 z14 z15 z16 z17) :
    Met B20_20 Z a0 h0 #[(.int (2 : Int32)), (.int (18 : Int32))] [] (Ret none []) := by
  refine Met.of pn20 (ls := #[.val (.int (2 : Int32)), .val (.int (18 : Int32))]) (fun m => by first | (simp [entryFrame, mkF, argsToLocals, Value.category, B20_20]; done) | rfl) ?_
  show Go B20_20 Z a0 h0 _ 0 0 [] 0 #[.val (.int (2 : Int32)), .val (.int (18 : Int32))] []
  refine go_iloadN 1 rfl d20_0 rfl ?_
  refine go_iloadN 2 rfl d20_1 rfl ?_
  refine go_getS 5 rfl d20_2 (wd hw 118 rfl) SS.2.2.1 ?_
  refine go_callS 8 rfl d20_5 (wd hw 120 rfl) (wd hw 121 rfl) (wd hw 119 rfl) (wd hw 122 rfl) (by decide) (mt21 Z a0 hw h0 zc r99 cl pv SS z0 z1 z2 z3 z4 z5 z6 z7 z8 z9 z10 z11 z12 z13 z14 z15 z16 z17 G hc) (argsL := [(.int (2 : Int32)), (.int (18 : Int32)), r99]) (rest := []) rfl (ps := [.int, .int, (.object "java/util/function/BiFunction")]) (by decide +kernel) rfl rfl 0 rfl (by decide) (by decide) (by decide) (by decide) ?_
  rintro _ _ ⟨rfl, rfl⟩
  show Go B20_20 Z a0 h0 _ 0 0 [] 8 #[.val (.int (2 : Int32)), .val (.int (18 : Int32))] [(.int (2 : Int32))]
  refine go_pop 9 rfl d20_8 rfl rfl ?_
  exact go_return d20_9 rfl rfl (by decide) (by decide) ⟨rfl, rfl⟩
def B19_19 : Bdy := (⟨"java/lang/StringLatin1", "charAt", "([BI)C"⟩, jdk_43_method_2_code, 2, (some .char), ({ frames := 2, cells := 0, slots := 0, locals := 27 } : Room))
theorem mt19 (Z : State) (a0 : Array Value) (hw : ∀ d ∈ tables_1, d.before a0 Z = true) (h0 : Heap) (zc : Int32) (r99 : Value) (cl : Cell) (pv : Addr) (SS : Sts Z h0 zc r99 cl pv) (z0 z1 z2 z3 z4 z5 z6 z7 z8 z9 z10 z11 z12 z13 z14 z15 z16 z17 : Int32) (G : RG z0 z1 z2 z3 z4 z5 z6 z7 z8 z9 z10 z11 z12 z13 z14 z15 z16 z17) (hc : HC z0 z1 z2 z3 z4 z5 z6 z7 z8 z9 z10 z11 z12 z13 z14 z15 z16 z17) (a2 : Addr) :
    Met B19_19 Z a0 h0 #[(.ref a2), (.int (2 : Int32))] (mem21 a2 z0 z1 z2 z3 z4 z5 z6 z7 z8 z9 z10 z11 z12 z13 z14 z15 z16 z17) (Ret (some (.int z2)) (mem21 a2 z0 z1 z2 z3 z4 z5 z6 z7 z8 z9 z10 z11 z12 z13 z14 z15 z16 z17)) := by
  refine Met.of pn19 (ls := #[.val (.ref a2), .val (.int (2 : Int32))]) (fun m => by first | (simp [entryFrame, mkF, argsToLocals, Value.category, B19_19]; done) | rfl) ?_
  show Go B19_19 Z a0 h0 _ 0 0 (mem21 a2 z0 z1 z2 z3 z4 z5 z6 z7 z8 z9 z10 z11 z12 z13 z14 z15 z16 z17) 0 #[.val (.ref a2), .val (.int (2 : Int32))] []
  refine go_iloadN 1 rfl d19_0 rfl ?_
  refine go_aloadN 2 rfl d19_1 rfl rfl ?_
  refine go_alen 0 3 rfl d19_2 rfl rfl ?_
  show Go B19_19 Z a0 h0 _ 0 0 (mem21 a2 z0 z1 z2 z3 z4 z5 z6 z7 z8 z9 z10 z11 z12 z13 z14 z15 z16 z17) 3 #[.val (.ref a2), .val (.int (2 : Int32))] [(.int (18 : Int32)), (.int (2 : Int32))]
  refine go_callS 6 rfl d19_3 (wd hw 115 rfl) (wd hw 116 rfl) (wd hw 35 rfl) (wd hw 117 rfl) (by decide) (Met.frame (mem21 a2 z0 z1 z2 z3 z4 z5 z6 z7 z8 z9 z10 z11 z12 z13 z14 z15 z16 z17) (mt20 Z a0 hw h0 zc r99 cl pv SS z0 z1 z2 z3 z4 z5 z6 z7 z8 z9 z10 z11 z12 z13 z14 z15 z16 z17 G hc)) (argsL := [(.int (2 : Int32)), (.int (18 : Int32))]) (rest := []) rfl (ps := [.int, .int]) (by decide +kernel) rfl rfl 0 rfl (by decide) (by decide) (by decide) (by decide) ?_
  rintro _ _ ⟨_, ⟨rfl, rfl⟩, rfl⟩
  show Go B19_19 Z a0 h0 _ 0 0 (mem21 a2 z0 z1 z2 z3 z4 z5 z6 z7 z8 z9 z10 z11 z12 z13 z14 z15 z16 z17) 6 #[.val (.ref a2), .val (.int (2 : Int32))] []
  refine go_aloadN 7 rfl d19_6 rfl rfl ?_
  refine go_iloadN 8 rfl d19_7 rfl ?_
  refine go_baload 9 rfl d19_8 rfl (Mo.el (i := 0) rfl (by decide) rfl) ?_
  refine go_sipush (255 : Int32) 12 rfl d19_9 rfl ?_
  refine go_iand 13 rfl d19_12 rfl ?_
  refine go_i2c 14 rfl d19_13 rfl ?_
  exact go_ireturn d19_14 rfl (Or.inr (Or.inr (Or.inr (Or.inl rfl)))) rfl (congrArg Value.int (nar_c _)) (by decide) (by decide) (by rw [lat z2 (rg2 G)]; exact ⟨rfl, rfl⟩)
def B17_18 : Bdy := (⟨"java/lang/String", "charAt", "(I)C"⟩, jdk_42_method_56_code, 2, (some .char), ({ frames := 3, cells := 0, slots := 0, locals := 40 } : Room))
theorem mt18 (Z : State) (a0 : Array Value) (hw : ∀ d ∈ tables_1, d.before a0 Z = true) (h0 : Heap) (zc : Int32) (r99 : Value) (cl : Cell) (pv : Addr) (SS : Sts Z h0 zc r99 cl pv) (z0 z1 z2 z3 z4 z5 z6 z7 z8 z9 z10 z11 z12 z13 z14 z15 z16 z17 : Int32) (G : RG z0 z1 z2 z3 z4 z5 z6 z7 z8 z9 z10 z11 z12 z13 z14 z15 z16 z17) (hc : HC z0 z1 z2 z3 z4 z5 z6 z7 z8 z9 z10 z11 z12 z13 z14 z15 z16 z17) (a2 : Addr) (a1 : Addr) :
    Met B17_18 Z a0 h0 #[(.ref a1), (.int (2 : Int32))] (mem20 a2 z0 z1 z2 z3 z4 z5 z6 z7 z8 z9 z10 z11 z12 z13 z14 z15 z16 z17 a1) (Ret (some (.int z2)) (mem20 a2 z0 z1 z2 z3 z4 z5 z6 z7 z8 z9 z10 z11 z12 z13 z14 z15 z16 z17 a1)) := by
  refine Met.of pn17 (ls := #[.val (.ref a1), .val (.int (2 : Int32))]) (fun m => by first | (simp [entryFrame, mkF, argsToLocals, Value.category, B17_18]; done) | rfl) ?_
  show Go B17_18 Z a0 h0 _ 0 0 (mem20 a2 z0 z1 z2 z3 z4 z5 z6 z7 z8 z9 z10 z11 z12 z13 z14 z15 z16 z17 a1) 0 #[.val (.ref a1), .val (.int (2 : Int32))] []
  refine go_aloadN 1 rfl d17_0 rfl rfl ?_
  refine go_callV 4 rfl d17_1 (wd hw 106 rfl) (wd hw 107 rfl) (wd hw 109 rfl) (wd hw 108 rfl) (wd hw 35 rfl) (wd hw 110 rfl) (by decide) (Mo.exa (i := 1) rfl) (mt14 Z a0 hw h0 zc r99 cl pv SS z0 z1 z2 z3 z4 z5 z6 z7 z8 z9 z10 z11 z12 z13 z14 z15 z16 z17 G hc a2 a1) (argsL := []) (rest := []) rfl (ps := []) (by decide +kernel) rfl rfl 0 rfl (by decide) (by decide) (by decide) (by decide) ?_
  rintro _ _ ⟨rfl, rfl⟩
  show Go B17_18 Z a0 h0 _ 0 0 (mem20 a2 z0 z1 z2 z3 z4 z5 z6 z7 z8 z9 z10 z11 z12 z13 z14 z15 z16 z17 a1) 4 #[.val (.ref a1), .val (.int (2 : Int32))] [(.int (1 : Int32))]
  refine go_if 16 7 rfl (by decide) rfl d17_4 rfl (fun (hc4 : (1 : Int) = 0) => absurd hc4 (by decide)) (fun (hc4 : ¬ ((1 : Int) = 0)) => ?_)
  refine go_aloadN 8 rfl d17_7 rfl rfl ?_
  refine go_get 1 0 11 rfl d17_8 rfl rfl rfl (wd hw 60 rfl) ?_
  refine go_iloadN 12 rfl d17_11 rfl ?_
  refine go_callS 15 rfl d17_12 (wd hw 111 rfl) (wd hw 112 rfl) (wd hw 113 rfl) (wd hw 114 rfl) (by decide) (Met.frame [ob a1 "java/lang/String" [("java/lang/String", "value", "[B", (.ref a2)), ("java/lang/String", "coder", "B", (.int (0 : Int32)))]] (mt19 Z a0 hw h0 zc r99 cl pv SS z0 z1 z2 z3 z4 z5 z6 z7 z8 z9 z10 z11 z12 z13 z14 z15 z16 z17 G hc a2)) (argsL := [(.ref a2), (.int (2 : Int32))]) (rest := []) rfl (ps := [(.array .byte), .int]) (by decide +kernel) rfl rfl 0 rfl (by decide) (by decide) (by decide) (by decide) ?_
  rintro _ _ ⟨_, ⟨rfl, rfl⟩, rfl⟩
  show Go B17_18 Z a0 h0 _ 0 0 (mem20 a2 z0 z1 z2 z3 z4 z5 z6 z7 z8 z9 z10 z11 z12 z13 z14 z15 z16 z17 a1) 15 #[.val (.ref a1), .val (.int (2 : Int32))] [(.int z2)]
  exact go_ireturn d17_15 rfl (Or.inr (Or.inr (Or.inr (Or.inl rfl)))) rfl (congrArg Value.int (nar_z z2 (rg2 G))) (by decide) (by decide) ⟨rfl, rfl⟩
def B21_25 : Bdy := (⟨"jdk/internal/util/Preconditions", "checkIndex", "(IILjava/util/function/BiFunction;)I"⟩, jdk_41_method_11_code, 3, (some .int), ({ frames := 0, cells := 0, slots := 0, locals := 0 } : Room))
theorem mt25 (Z : State) (a0 : Array Value) (hw : ∀ d ∈ tables_1, d.before a0 Z = true) (h0 : Heap) (zc : Int32) (r99 : Value) (cl : Cell) (pv : Addr) (SS : Sts Z h0 zc r99 cl pv) (z0 z1 z2 z3 z4 z5 z6 z7 z8 z9 z10 z11 z12 z13 z14 z15 z16 z17 : Int32) (G : RG z0 z1 z2 z3 z4 z5 z6 z7 z8 z9 z10 z11 z12 z13 z14 z15 z16 z17) (hc : HC z0 z1 z2 z3 z4 z5 z6 z7 z8 z9 z10 z11 z12 z13 z14 z15 z16 z17) :
    Met B21_25 Z a0 h0 #[(.int (3 : Int32)), (.int (18 : Int32)), r99] [] (Ret (some (.int (3 : Int32))) []) := by
  refine Met.of pn21 (ls := #[.val (.int (3 : Int32)), .val (.int (18 : Int32)), .val r99]) (fun m => by rcases ref_cases SS.2.2.2.1 with rfl | ⟨_, rfl⟩ <;> first | (simp [entryFrame, mkF, argsToLocals, Value.category, B21_25]; done) | rfl) ?_
  show Go B21_25 Z a0 h0 _ 0 0 [] 0 #[.val (.int (3 : Int32)), .val (.int (18 : Int32)), .val r99] []
  refine go_iloadN 1 rfl d21_0 rfl ?_
  refine go_if 9 4 rfl (by decide) rfl d21_1 rfl (fun (hc1 : (3 : Int) < 0) => absurd hc1 (by decide)) (fun (hc1 : ¬ ((3 : Int) < 0)) => ?_)
  refine go_iloadN 5 rfl d21_4 rfl ?_
  refine go_iloadN 6 rfl d21_5 rfl ?_
  refine go_icmp 16 9 rfl (by decide) rfl d21_6 rfl (fun (hc6 : (3 : Int) < (18 : Int)) => ?_) (fun (hc6 : ¬ ((3 : Int) < (18 : Int))) => absurd hc6 (by decide))
  refine go_iloadN 17 rfl d21_16 rfl ?_
  exact go_ireturn d21_17 rfl (Or.inl rfl) rfl rfl (by decide) (by decide) ⟨rfl, rfl⟩
def B20_24 : Bdy := (⟨"java/lang/String", "checkIndex", "(II)V"⟩, jdk_42_method_155_code, 2, none, ({ frames := 1, cells := 0, slots := 0, locals := 14 } : Room))
theorem mt24 (Z : State) (a0 : Array Value) (hw : ∀ d ∈ tables_1, d.before a0 Z = true) (h0 : Heap) (zc : Int32) (r99 : Value) (cl : Cell) (pv : Addr) (SS : Sts Z h0 zc r99 cl pv) (z0 z1 z2 z3 z4 z5 z6 z7 z8 z9 z10 z11 z12 z13 z14 z15 z16 z17 : Int32) (G : RG z0 z1 z2 z3 z4 z5 z6 z7 z8 z9 z10 z11 z12 z13 z14 z15 z16 z17) (hc : HC z0 z1 z2 z3 z4 z5 z6 z7 z8 z9 z10 z11 z12 z13 z14 z15 z16 z17) :
    Met B20_24 Z a0 h0 #[(.int (3 : Int32)), (.int (18 : Int32))] [] (Ret none []) := by
  refine Met.of pn20 (ls := #[.val (.int (3 : Int32)), .val (.int (18 : Int32))]) (fun m => by first | (simp [entryFrame, mkF, argsToLocals, Value.category, B20_24]; done) | rfl) ?_
  show Go B20_24 Z a0 h0 _ 0 0 [] 0 #[.val (.int (3 : Int32)), .val (.int (18 : Int32))] []
  refine go_iloadN 1 rfl d20_0 rfl ?_
  refine go_iloadN 2 rfl d20_1 rfl ?_
  refine go_getS 5 rfl d20_2 (wd hw 118 rfl) SS.2.2.1 ?_
  refine go_callS 8 rfl d20_5 (wd hw 120 rfl) (wd hw 121 rfl) (wd hw 119 rfl) (wd hw 122 rfl) (by decide) (mt25 Z a0 hw h0 zc r99 cl pv SS z0 z1 z2 z3 z4 z5 z6 z7 z8 z9 z10 z11 z12 z13 z14 z15 z16 z17 G hc) (argsL := [(.int (3 : Int32)), (.int (18 : Int32)), r99]) (rest := []) rfl (ps := [.int, .int, (.object "java/util/function/BiFunction")]) (by decide +kernel) rfl rfl 0 rfl (by decide) (by decide) (by decide) (by decide) ?_
  rintro _ _ ⟨rfl, rfl⟩
  show Go B20_24 Z a0 h0 _ 0 0 [] 8 #[.val (.int (3 : Int32)), .val (.int (18 : Int32))] [(.int (3 : Int32))]
  refine go_pop 9 rfl d20_8 rfl rfl ?_
  exact go_return d20_9 rfl rfl (by decide) (by decide) ⟨rfl, rfl⟩
def B19_23 : Bdy := (⟨"java/lang/StringLatin1", "charAt", "([BI)C"⟩, jdk_43_method_2_code, 2, (some .char), ({ frames := 2, cells := 0, slots := 0, locals := 27 } : Room))
theorem mt23 (Z : State) (a0 : Array Value) (hw : ∀ d ∈ tables_1, d.before a0 Z = true) (h0 : Heap) (zc : Int32) (r99 : Value) (cl : Cell) (pv : Addr) (SS : Sts Z h0 zc r99 cl pv) (z0 z1 z2 z3 z4 z5 z6 z7 z8 z9 z10 z11 z12 z13 z14 z15 z16 z17 : Int32) (G : RG z0 z1 z2 z3 z4 z5 z6 z7 z8 z9 z10 z11 z12 z13 z14 z15 z16 z17) (hc : HC z0 z1 z2 z3 z4 z5 z6 z7 z8 z9 z10 z11 z12 z13 z14 z15 z16 z17) (a2 : Addr) :
    Met B19_23 Z a0 h0 #[(.ref a2), (.int (3 : Int32))] (mem21 a2 z0 z1 z2 z3 z4 z5 z6 z7 z8 z9 z10 z11 z12 z13 z14 z15 z16 z17) (Ret (some (.int z3)) (mem21 a2 z0 z1 z2 z3 z4 z5 z6 z7 z8 z9 z10 z11 z12 z13 z14 z15 z16 z17)) := by
  refine Met.of pn19 (ls := #[.val (.ref a2), .val (.int (3 : Int32))]) (fun m => by first | (simp [entryFrame, mkF, argsToLocals, Value.category, B19_23]; done) | rfl) ?_
  show Go B19_23 Z a0 h0 _ 0 0 (mem21 a2 z0 z1 z2 z3 z4 z5 z6 z7 z8 z9 z10 z11 z12 z13 z14 z15 z16 z17) 0 #[.val (.ref a2), .val (.int (3 : Int32))] []
  refine go_iloadN 1 rfl d19_0 rfl ?_
  refine go_aloadN 2 rfl d19_1 rfl rfl ?_
  refine go_alen 0 3 rfl d19_2 rfl rfl ?_
  show Go B19_23 Z a0 h0 _ 0 0 (mem21 a2 z0 z1 z2 z3 z4 z5 z6 z7 z8 z9 z10 z11 z12 z13 z14 z15 z16 z17) 3 #[.val (.ref a2), .val (.int (3 : Int32))] [(.int (18 : Int32)), (.int (3 : Int32))]
  refine go_callS 6 rfl d19_3 (wd hw 115 rfl) (wd hw 116 rfl) (wd hw 35 rfl) (wd hw 117 rfl) (by decide) (Met.frame (mem21 a2 z0 z1 z2 z3 z4 z5 z6 z7 z8 z9 z10 z11 z12 z13 z14 z15 z16 z17) (mt24 Z a0 hw h0 zc r99 cl pv SS z0 z1 z2 z3 z4 z5 z6 z7 z8 z9 z10 z11 z12 z13 z14 z15 z16 z17 G hc)) (argsL := [(.int (3 : Int32)), (.int (18 : Int32))]) (rest := []) rfl (ps := [.int, .int]) (by decide +kernel) rfl rfl 0 rfl (by decide) (by decide) (by decide) (by decide) ?_
  rintro _ _ ⟨_, ⟨rfl, rfl⟩, rfl⟩
  show Go B19_23 Z a0 h0 _ 0 0 (mem21 a2 z0 z1 z2 z3 z4 z5 z6 z7 z8 z9 z10 z11 z12 z13 z14 z15 z16 z17) 6 #[.val (.ref a2), .val (.int (3 : Int32))] []
  refine go_aloadN 7 rfl d19_6 rfl rfl ?_
  refine go_iloadN 8 rfl d19_7 rfl ?_
  refine go_baload 9 rfl d19_8 rfl (Mo.el (i := 0) rfl (by decide) rfl) ?_
  refine go_sipush (255 : Int32) 12 rfl d19_9 rfl ?_
  refine go_iand 13 rfl d19_12 rfl ?_
  refine go_i2c 14 rfl d19_13 rfl ?_
  exact go_ireturn d19_14 rfl (Or.inr (Or.inr (Or.inr (Or.inl rfl)))) rfl (congrArg Value.int (nar_c _)) (by decide) (by decide) (by rw [lat z3 (rg3 G)]; exact ⟨rfl, rfl⟩)
def B17_22 : Bdy := (⟨"java/lang/String", "charAt", "(I)C"⟩, jdk_42_method_56_code, 2, (some .char), ({ frames := 3, cells := 0, slots := 0, locals := 40 } : Room))
theorem mt22 (Z : State) (a0 : Array Value) (hw : ∀ d ∈ tables_1, d.before a0 Z = true) (h0 : Heap) (zc : Int32) (r99 : Value) (cl : Cell) (pv : Addr) (SS : Sts Z h0 zc r99 cl pv) (z0 z1 z2 z3 z4 z5 z6 z7 z8 z9 z10 z11 z12 z13 z14 z15 z16 z17 : Int32) (G : RG z0 z1 z2 z3 z4 z5 z6 z7 z8 z9 z10 z11 z12 z13 z14 z15 z16 z17) (hc : HC z0 z1 z2 z3 z4 z5 z6 z7 z8 z9 z10 z11 z12 z13 z14 z15 z16 z17) (a2 : Addr) (a1 : Addr) :
    Met B17_22 Z a0 h0 #[(.ref a1), (.int (3 : Int32))] (mem20 a2 z0 z1 z2 z3 z4 z5 z6 z7 z8 z9 z10 z11 z12 z13 z14 z15 z16 z17 a1) (Ret (some (.int z3)) (mem20 a2 z0 z1 z2 z3 z4 z5 z6 z7 z8 z9 z10 z11 z12 z13 z14 z15 z16 z17 a1)) := by
  refine Met.of pn17 (ls := #[.val (.ref a1), .val (.int (3 : Int32))]) (fun m => by first | (simp [entryFrame, mkF, argsToLocals, Value.category, B17_22]; done) | rfl) ?_
  show Go B17_22 Z a0 h0 _ 0 0 (mem20 a2 z0 z1 z2 z3 z4 z5 z6 z7 z8 z9 z10 z11 z12 z13 z14 z15 z16 z17 a1) 0 #[.val (.ref a1), .val (.int (3 : Int32))] []
  refine go_aloadN 1 rfl d17_0 rfl rfl ?_
  refine go_callV 4 rfl d17_1 (wd hw 106 rfl) (wd hw 107 rfl) (wd hw 109 rfl) (wd hw 108 rfl) (wd hw 35 rfl) (wd hw 110 rfl) (by decide) (Mo.exa (i := 1) rfl) (mt14 Z a0 hw h0 zc r99 cl pv SS z0 z1 z2 z3 z4 z5 z6 z7 z8 z9 z10 z11 z12 z13 z14 z15 z16 z17 G hc a2 a1) (argsL := []) (rest := []) rfl (ps := []) (by decide +kernel) rfl rfl 0 rfl (by decide) (by decide) (by decide) (by decide) ?_
  rintro _ _ ⟨rfl, rfl⟩
  show Go B17_22 Z a0 h0 _ 0 0 (mem20 a2 z0 z1 z2 z3 z4 z5 z6 z7 z8 z9 z10 z11 z12 z13 z14 z15 z16 z17 a1) 4 #[.val (.ref a1), .val (.int (3 : Int32))] [(.int (1 : Int32))]
  refine go_if 16 7 rfl (by decide) rfl d17_4 rfl (fun (hc4 : (1 : Int) = 0) => absurd hc4 (by decide)) (fun (hc4 : ¬ ((1 : Int) = 0)) => ?_)
  refine go_aloadN 8 rfl d17_7 rfl rfl ?_
  refine go_get 1 0 11 rfl d17_8 rfl rfl rfl (wd hw 60 rfl) ?_
  refine go_iloadN 12 rfl d17_11 rfl ?_
  refine go_callS 15 rfl d17_12 (wd hw 111 rfl) (wd hw 112 rfl) (wd hw 113 rfl) (wd hw 114 rfl) (by decide) (Met.frame [ob a1 "java/lang/String" [("java/lang/String", "value", "[B", (.ref a2)), ("java/lang/String", "coder", "B", (.int (0 : Int32)))]] (mt23 Z a0 hw h0 zc r99 cl pv SS z0 z1 z2 z3 z4 z5 z6 z7 z8 z9 z10 z11 z12 z13 z14 z15 z16 z17 G hc a2)) (argsL := [(.ref a2), (.int (3 : Int32))]) (rest := []) rfl (ps := [(.array .byte), .int]) (by decide +kernel) rfl rfl 0 rfl (by decide) (by decide) (by decide) (by decide) ?_
  rintro _ _ ⟨_, ⟨rfl, rfl⟩, rfl⟩
  show Go B17_22 Z a0 h0 _ 0 0 (mem20 a2 z0 z1 z2 z3 z4 z5 z6 z7 z8 z9 z10 z11 z12 z13 z14 z15 z16 z17 a1) 15 #[.val (.ref a1), .val (.int (3 : Int32))] [(.int z3)]
  exact go_ireturn d17_15 rfl (Or.inr (Or.inr (Or.inr (Or.inl rfl)))) rfl (congrArg Value.int (nar_z z3 (rg3 G))) (by decide) (by decide) ⟨rfl, rfl⟩
def B21_29 : Bdy := (⟨"jdk/internal/util/Preconditions", "checkIndex", "(IILjava/util/function/BiFunction;)I"⟩, jdk_41_method_11_code, 3, (some .int), ({ frames := 0, cells := 0, slots := 0, locals := 0 } : Room))
theorem mt29 (Z : State) (a0 : Array Value) (hw : ∀ d ∈ tables_1, d.before a0 Z = true) (h0 : Heap) (zc : Int32) (r99 : Value) (cl : Cell) (pv : Addr) (SS : Sts Z h0 zc r99 cl pv) (z0 z1 z2 z3 z4 z5 z6 z7 z8 z9 z10 z11 z12 z13 z14 z15 z16 z17 : Int32) (G : RG z0 z1 z2 z3 z4 z5 z6 z7 z8 z9 z10 z11 z12 z13 z14 z15 z16 z17) (hc : HC z0 z1 z2 z3 z4 z5 z6 z7 z8 z9 z10 z11 z12 z13 z14 z15 z16 z17) :
    Met B21_29 Z a0 h0 #[(.int (4 : Int32)), (.int (18 : Int32)), r99] [] (Ret (some (.int (4 : Int32))) []) := by
  refine Met.of pn21 (ls := #[.val (.int (4 : Int32)), .val (.int (18 : Int32)), .val r99]) (fun m => by rcases ref_cases SS.2.2.2.1 with rfl | ⟨_, rfl⟩ <;> first | (simp [entryFrame, mkF, argsToLocals, Value.category, B21_29]; done) | rfl) ?_
  show Go B21_29 Z a0 h0 _ 0 0 [] 0 #[.val (.int (4 : Int32)), .val (.int (18 : Int32)), .val r99] []
  refine go_iloadN 1 rfl d21_0 rfl ?_
  refine go_if 9 4 rfl (by decide) rfl d21_1 rfl (fun (hc1 : (4 : Int) < 0) => absurd hc1 (by decide)) (fun (hc1 : ¬ ((4 : Int) < 0)) => ?_)
  refine go_iloadN 5 rfl d21_4 rfl ?_
  refine go_iloadN 6 rfl d21_5 rfl ?_
  refine go_icmp 16 9 rfl (by decide) rfl d21_6 rfl (fun (hc6 : (4 : Int) < (18 : Int)) => ?_) (fun (hc6 : ¬ ((4 : Int) < (18 : Int))) => absurd hc6 (by decide))
  refine go_iloadN 17 rfl d21_16 rfl ?_
  exact go_ireturn d21_17 rfl (Or.inl rfl) rfl rfl (by decide) (by decide) ⟨rfl, rfl⟩
def B20_28 : Bdy := (⟨"java/lang/String", "checkIndex", "(II)V"⟩, jdk_42_method_155_code, 2, none, ({ frames := 1, cells := 0, slots := 0, locals := 14 } : Room))
theorem mt28 (Z : State) (a0 : Array Value) (hw : ∀ d ∈ tables_1, d.before a0 Z = true) (h0 : Heap) (zc : Int32) (r99 : Value) (cl : Cell) (pv : Addr) (SS : Sts Z h0 zc r99 cl pv) (z0 z1 z2 z3 z4 z5 z6 z7 z8 z9 z10 z11 z12 z13 z14 z15 z16 z17 : Int32) (G : RG z0 z1 z2 z3 z4 z5 z6 z7 z8 z9 z10 z11 z12 z13 z14 z15 z16 z17) (hc : HC z0 z1 z2 z3 z4 z5 z6 z7 z8 z9 z10 z11 z12 z13 z14 z15 z16 z17) :
    Met B20_28 Z a0 h0 #[(.int (4 : Int32)), (.int (18 : Int32))] [] (Ret none []) := by
  refine Met.of pn20 (ls := #[.val (.int (4 : Int32)), .val (.int (18 : Int32))]) (fun m => by first | (simp [entryFrame, mkF, argsToLocals, Value.category, B20_28]; done) | rfl) ?_
  show Go B20_28 Z a0 h0 _ 0 0 [] 0 #[.val (.int (4 : Int32)), .val (.int (18 : Int32))] []
  refine go_iloadN 1 rfl d20_0 rfl ?_
  refine go_iloadN 2 rfl d20_1 rfl ?_
  refine go_getS 5 rfl d20_2 (wd hw 118 rfl) SS.2.2.1 ?_
  refine go_callS 8 rfl d20_5 (wd hw 120 rfl) (wd hw 121 rfl) (wd hw 119 rfl) (wd hw 122 rfl) (by decide) (mt29 Z a0 hw h0 zc r99 cl pv SS z0 z1 z2 z3 z4 z5 z6 z7 z8 z9 z10 z11 z12 z13 z14 z15 z16 z17 G hc) (argsL := [(.int (4 : Int32)), (.int (18 : Int32)), r99]) (rest := []) rfl (ps := [.int, .int, (.object "java/util/function/BiFunction")]) (by decide +kernel) rfl rfl 0 rfl (by decide) (by decide) (by decide) (by decide) ?_
  rintro _ _ ⟨rfl, rfl⟩
  show Go B20_28 Z a0 h0 _ 0 0 [] 8 #[.val (.int (4 : Int32)), .val (.int (18 : Int32))] [(.int (4 : Int32))]
  refine go_pop 9 rfl d20_8 rfl rfl ?_
  exact go_return d20_9 rfl rfl (by decide) (by decide) ⟨rfl, rfl⟩
def B19_27 : Bdy := (⟨"java/lang/StringLatin1", "charAt", "([BI)C"⟩, jdk_43_method_2_code, 2, (some .char), ({ frames := 2, cells := 0, slots := 0, locals := 27 } : Room))
theorem mt27 (Z : State) (a0 : Array Value) (hw : ∀ d ∈ tables_1, d.before a0 Z = true) (h0 : Heap) (zc : Int32) (r99 : Value) (cl : Cell) (pv : Addr) (SS : Sts Z h0 zc r99 cl pv) (z0 z1 z2 z3 z4 z5 z6 z7 z8 z9 z10 z11 z12 z13 z14 z15 z16 z17 : Int32) (G : RG z0 z1 z2 z3 z4 z5 z6 z7 z8 z9 z10 z11 z12 z13 z14 z15 z16 z17) (hc : HC z0 z1 z2 z3 z4 z5 z6 z7 z8 z9 z10 z11 z12 z13 z14 z15 z16 z17) (a2 : Addr) :
    Met B19_27 Z a0 h0 #[(.ref a2), (.int (4 : Int32))] (mem21 a2 z0 z1 z2 z3 z4 z5 z6 z7 z8 z9 z10 z11 z12 z13 z14 z15 z16 z17) (Ret (some (.int z4)) (mem21 a2 z0 z1 z2 z3 z4 z5 z6 z7 z8 z9 z10 z11 z12 z13 z14 z15 z16 z17)) := by
  refine Met.of pn19 (ls := #[.val (.ref a2), .val (.int (4 : Int32))]) (fun m => by first | (simp [entryFrame, mkF, argsToLocals, Value.category, B19_27]; done) | rfl) ?_
  show Go B19_27 Z a0 h0 _ 0 0 (mem21 a2 z0 z1 z2 z3 z4 z5 z6 z7 z8 z9 z10 z11 z12 z13 z14 z15 z16 z17) 0 #[.val (.ref a2), .val (.int (4 : Int32))] []
  refine go_iloadN 1 rfl d19_0 rfl ?_
  refine go_aloadN 2 rfl d19_1 rfl rfl ?_
  refine go_alen 0 3 rfl d19_2 rfl rfl ?_
  show Go B19_27 Z a0 h0 _ 0 0 (mem21 a2 z0 z1 z2 z3 z4 z5 z6 z7 z8 z9 z10 z11 z12 z13 z14 z15 z16 z17) 3 #[.val (.ref a2), .val (.int (4 : Int32))] [(.int (18 : Int32)), (.int (4 : Int32))]
  refine go_callS 6 rfl d19_3 (wd hw 115 rfl) (wd hw 116 rfl) (wd hw 35 rfl) (wd hw 117 rfl) (by decide) (Met.frame (mem21 a2 z0 z1 z2 z3 z4 z5 z6 z7 z8 z9 z10 z11 z12 z13 z14 z15 z16 z17) (mt28 Z a0 hw h0 zc r99 cl pv SS z0 z1 z2 z3 z4 z5 z6 z7 z8 z9 z10 z11 z12 z13 z14 z15 z16 z17 G hc)) (argsL := [(.int (4 : Int32)), (.int (18 : Int32))]) (rest := []) rfl (ps := [.int, .int]) (by decide +kernel) rfl rfl 0 rfl (by decide) (by decide) (by decide) (by decide) ?_
  rintro _ _ ⟨_, ⟨rfl, rfl⟩, rfl⟩
  show Go B19_27 Z a0 h0 _ 0 0 (mem21 a2 z0 z1 z2 z3 z4 z5 z6 z7 z8 z9 z10 z11 z12 z13 z14 z15 z16 z17) 6 #[.val (.ref a2), .val (.int (4 : Int32))] []
  refine go_aloadN 7 rfl d19_6 rfl rfl ?_
  refine go_iloadN 8 rfl d19_7 rfl ?_
  refine go_baload 9 rfl d19_8 rfl (Mo.el (i := 0) rfl (by decide) rfl) ?_
  refine go_sipush (255 : Int32) 12 rfl d19_9 rfl ?_
  refine go_iand 13 rfl d19_12 rfl ?_
  refine go_i2c 14 rfl d19_13 rfl ?_
  exact go_ireturn d19_14 rfl (Or.inr (Or.inr (Or.inr (Or.inl rfl)))) rfl (congrArg Value.int (nar_c _)) (by decide) (by decide) (by rw [lat z4 (rg4 G)]; exact ⟨rfl, rfl⟩)
def B17_26 : Bdy := (⟨"java/lang/String", "charAt", "(I)C"⟩, jdk_42_method_56_code, 2, (some .char), ({ frames := 3, cells := 0, slots := 0, locals := 40 } : Room))
theorem mt26 (Z : State) (a0 : Array Value) (hw : ∀ d ∈ tables_1, d.before a0 Z = true) (h0 : Heap) (zc : Int32) (r99 : Value) (cl : Cell) (pv : Addr) (SS : Sts Z h0 zc r99 cl pv) (z0 z1 z2 z3 z4 z5 z6 z7 z8 z9 z10 z11 z12 z13 z14 z15 z16 z17 : Int32) (G : RG z0 z1 z2 z3 z4 z5 z6 z7 z8 z9 z10 z11 z12 z13 z14 z15 z16 z17) (hc : HC z0 z1 z2 z3 z4 z5 z6 z7 z8 z9 z10 z11 z12 z13 z14 z15 z16 z17) (a2 : Addr) (a1 : Addr) :
    Met B17_26 Z a0 h0 #[(.ref a1), (.int (4 : Int32))] (mem20 a2 z0 z1 z2 z3 z4 z5 z6 z7 z8 z9 z10 z11 z12 z13 z14 z15 z16 z17 a1) (Ret (some (.int z4)) (mem20 a2 z0 z1 z2 z3 z4 z5 z6 z7 z8 z9 z10 z11 z12 z13 z14 z15 z16 z17 a1)) := by
  refine Met.of pn17 (ls := #[.val (.ref a1), .val (.int (4 : Int32))]) (fun m => by first | (simp [entryFrame, mkF, argsToLocals, Value.category, B17_26]; done) | rfl) ?_
  show Go B17_26 Z a0 h0 _ 0 0 (mem20 a2 z0 z1 z2 z3 z4 z5 z6 z7 z8 z9 z10 z11 z12 z13 z14 z15 z16 z17 a1) 0 #[.val (.ref a1), .val (.int (4 : Int32))] []
  refine go_aloadN 1 rfl d17_0 rfl rfl ?_
  refine go_callV 4 rfl d17_1 (wd hw 106 rfl) (wd hw 107 rfl) (wd hw 109 rfl) (wd hw 108 rfl) (wd hw 35 rfl) (wd hw 110 rfl) (by decide) (Mo.exa (i := 1) rfl) (mt14 Z a0 hw h0 zc r99 cl pv SS z0 z1 z2 z3 z4 z5 z6 z7 z8 z9 z10 z11 z12 z13 z14 z15 z16 z17 G hc a2 a1) (argsL := []) (rest := []) rfl (ps := []) (by decide +kernel) rfl rfl 0 rfl (by decide) (by decide) (by decide) (by decide) ?_
  rintro _ _ ⟨rfl, rfl⟩
  show Go B17_26 Z a0 h0 _ 0 0 (mem20 a2 z0 z1 z2 z3 z4 z5 z6 z7 z8 z9 z10 z11 z12 z13 z14 z15 z16 z17 a1) 4 #[.val (.ref a1), .val (.int (4 : Int32))] [(.int (1 : Int32))]
  refine go_if 16 7 rfl (by decide) rfl d17_4 rfl (fun (hc4 : (1 : Int) = 0) => absurd hc4 (by decide)) (fun (hc4 : ¬ ((1 : Int) = 0)) => ?_)
  refine go_aloadN 8 rfl d17_7 rfl rfl ?_
  refine go_get 1 0 11 rfl d17_8 rfl rfl rfl (wd hw 60 rfl) ?_
  refine go_iloadN 12 rfl d17_11 rfl ?_
  refine go_callS 15 rfl d17_12 (wd hw 111 rfl) (wd hw 112 rfl) (wd hw 113 rfl) (wd hw 114 rfl) (by decide) (Met.frame [ob a1 "java/lang/String" [("java/lang/String", "value", "[B", (.ref a2)), ("java/lang/String", "coder", "B", (.int (0 : Int32)))]] (mt27 Z a0 hw h0 zc r99 cl pv SS z0 z1 z2 z3 z4 z5 z6 z7 z8 z9 z10 z11 z12 z13 z14 z15 z16 z17 G hc a2)) (argsL := [(.ref a2), (.int (4 : Int32))]) (rest := []) rfl (ps := [(.array .byte), .int]) (by decide +kernel) rfl rfl 0 rfl (by decide) (by decide) (by decide) (by decide) ?_
  rintro _ _ ⟨_, ⟨rfl, rfl⟩, rfl⟩
  show Go B17_26 Z a0 h0 _ 0 0 (mem20 a2 z0 z1 z2 z3 z4 z5 z6 z7 z8 z9 z10 z11 z12 z13 z14 z15 z16 z17 a1) 15 #[.val (.ref a1), .val (.int (4 : Int32))] [(.int z4)]
  exact go_ireturn d17_15 rfl (Or.inr (Or.inr (Or.inr (Or.inl rfl)))) rfl (congrArg Value.int (nar_z z4 (rg4 G))) (by decide) (by decide) ⟨rfl, rfl⟩
def B21_33 : Bdy := (⟨"jdk/internal/util/Preconditions", "checkIndex", "(IILjava/util/function/BiFunction;)I"⟩, jdk_41_method_11_code, 3, (some .int), ({ frames := 0, cells := 0, slots := 0, locals := 0 } : Room))
theorem mt33 (Z : State) (a0 : Array Value) (hw : ∀ d ∈ tables_1, d.before a0 Z = true) (h0 : Heap) (zc : Int32) (r99 : Value) (cl : Cell) (pv : Addr) (SS : Sts Z h0 zc r99 cl pv) (z0 z1 z2 z3 z4 z5 z6 z7 z8 z9 z10 z11 z12 z13 z14 z15 z16 z17 : Int32) (G : RG z0 z1 z2 z3 z4 z5 z6 z7 z8 z9 z10 z11 z12 z13 z14 z15 z16 z17) (hc : HC z0 z1 z2 z3 z4 z5 z6 z7 z8 z9 z10 z11 z12 z13 z14 z15 z16 z17) :
    Met B21_33 Z a0 h0 #[(.int (5 : Int32)), (.int (18 : Int32)), r99] [] (Ret (some (.int (5 : Int32))) []) := by
  refine Met.of pn21 (ls := #[.val (.int (5 : Int32)), .val (.int (18 : Int32)), .val r99]) (fun m => by rcases ref_cases SS.2.2.2.1 with rfl | ⟨_, rfl⟩ <;> first | (simp [entryFrame, mkF, argsToLocals, Value.category, B21_33]; done) | rfl) ?_
  show Go B21_33 Z a0 h0 _ 0 0 [] 0 #[.val (.int (5 : Int32)), .val (.int (18 : Int32)), .val r99] []
  refine go_iloadN 1 rfl d21_0 rfl ?_
  refine go_if 9 4 rfl (by decide) rfl d21_1 rfl (fun (hc1 : (5 : Int) < 0) => absurd hc1 (by decide)) (fun (hc1 : ¬ ((5 : Int) < 0)) => ?_)
  refine go_iloadN 5 rfl d21_4 rfl ?_
  refine go_iloadN 6 rfl d21_5 rfl ?_
  refine go_icmp 16 9 rfl (by decide) rfl d21_6 rfl (fun (hc6 : (5 : Int) < (18 : Int)) => ?_) (fun (hc6 : ¬ ((5 : Int) < (18 : Int))) => absurd hc6 (by decide))
  refine go_iloadN 17 rfl d21_16 rfl ?_
  exact go_ireturn d21_17 rfl (Or.inl rfl) rfl rfl (by decide) (by decide) ⟨rfl, rfl⟩
def B20_32 : Bdy := (⟨"java/lang/String", "checkIndex", "(II)V"⟩, jdk_42_method_155_code, 2, none, ({ frames := 1, cells := 0, slots := 0, locals := 14 } : Room))
theorem mt32 (Z : State) (a0 : Array Value) (hw : ∀ d ∈ tables_1, d.before a0 Z = true) (h0 : Heap) (zc : Int32) (r99 : Value) (cl : Cell) (pv : Addr) (SS : Sts Z h0 zc r99 cl pv) (z0 z1 z2 z3 z4 z5 z6 z7 z8 z9 z10 z11 z12 z13 z14 z15 z16 z17 : Int32) (G : RG z0 z1 z2 z3 z4 z5 z6 z7 z8 z9 z10 z11 z12 z13 z14 z15 z16 z17) (hc : HC z0 z1 z2 z3 z4 z5 z6 z7 z8 z9 z10 z11 z12 z13 z14 z15 z16 z17) :
    Met B20_32 Z a0 h0 #[(.int (5 : Int32)), (.int (18 : Int32))] [] (Ret none []) := by
  refine Met.of pn20 (ls := #[.val (.int (5 : Int32)), .val (.int (18 : Int32))]) (fun m => by first | (simp [entryFrame, mkF, argsToLocals, Value.category, B20_32]; done) | rfl) ?_
  show Go B20_32 Z a0 h0 _ 0 0 [] 0 #[.val (.int (5 : Int32)), .val (.int (18 : Int32))] []
  refine go_iloadN 1 rfl d20_0 rfl ?_
  refine go_iloadN 2 rfl d20_1 rfl ?_
  refine go_getS 5 rfl d20_2 (wd hw 118 rfl) SS.2.2.1 ?_
  refine go_callS 8 rfl d20_5 (wd hw 120 rfl) (wd hw 121 rfl) (wd hw 119 rfl) (wd hw 122 rfl) (by decide) (mt33 Z a0 hw h0 zc r99 cl pv SS z0 z1 z2 z3 z4 z5 z6 z7 z8 z9 z10 z11 z12 z13 z14 z15 z16 z17 G hc) (argsL := [(.int (5 : Int32)), (.int (18 : Int32)), r99]) (rest := []) rfl (ps := [.int, .int, (.object "java/util/function/BiFunction")]) (by decide +kernel) rfl rfl 0 rfl (by decide) (by decide) (by decide) (by decide) ?_
  rintro _ _ ⟨rfl, rfl⟩
  show Go B20_32 Z a0 h0 _ 0 0 [] 8 #[.val (.int (5 : Int32)), .val (.int (18 : Int32))] [(.int (5 : Int32))]
  refine go_pop 9 rfl d20_8 rfl rfl ?_
  exact go_return d20_9 rfl rfl (by decide) (by decide) ⟨rfl, rfl⟩
def B19_31 : Bdy := (⟨"java/lang/StringLatin1", "charAt", "([BI)C"⟩, jdk_43_method_2_code, 2, (some .char), ({ frames := 2, cells := 0, slots := 0, locals := 27 } : Room))
theorem mt31 (Z : State) (a0 : Array Value) (hw : ∀ d ∈ tables_1, d.before a0 Z = true) (h0 : Heap) (zc : Int32) (r99 : Value) (cl : Cell) (pv : Addr) (SS : Sts Z h0 zc r99 cl pv) (z0 z1 z2 z3 z4 z5 z6 z7 z8 z9 z10 z11 z12 z13 z14 z15 z16 z17 : Int32) (G : RG z0 z1 z2 z3 z4 z5 z6 z7 z8 z9 z10 z11 z12 z13 z14 z15 z16 z17) (hc : HC z0 z1 z2 z3 z4 z5 z6 z7 z8 z9 z10 z11 z12 z13 z14 z15 z16 z17) (a2 : Addr) :
    Met B19_31 Z a0 h0 #[(.ref a2), (.int (5 : Int32))] (mem21 a2 z0 z1 z2 z3 z4 z5 z6 z7 z8 z9 z10 z11 z12 z13 z14 z15 z16 z17) (Ret (some (.int z5)) (mem21 a2 z0 z1 z2 z3 z4 z5 z6 z7 z8 z9 z10 z11 z12 z13 z14 z15 z16 z17)) := by
  refine Met.of pn19 (ls := #[.val (.ref a2), .val (.int (5 : Int32))]) (fun m => by first | (simp [entryFrame, mkF, argsToLocals, Value.category, B19_31]; done) | rfl) ?_
  show Go B19_31 Z a0 h0 _ 0 0 (mem21 a2 z0 z1 z2 z3 z4 z5 z6 z7 z8 z9 z10 z11 z12 z13 z14 z15 z16 z17) 0 #[.val (.ref a2), .val (.int (5 : Int32))] []
  refine go_iloadN 1 rfl d19_0 rfl ?_
  refine go_aloadN 2 rfl d19_1 rfl rfl ?_
  refine go_alen 0 3 rfl d19_2 rfl rfl ?_
  show Go B19_31 Z a0 h0 _ 0 0 (mem21 a2 z0 z1 z2 z3 z4 z5 z6 z7 z8 z9 z10 z11 z12 z13 z14 z15 z16 z17) 3 #[.val (.ref a2), .val (.int (5 : Int32))] [(.int (18 : Int32)), (.int (5 : Int32))]
  refine go_callS 6 rfl d19_3 (wd hw 115 rfl) (wd hw 116 rfl) (wd hw 35 rfl) (wd hw 117 rfl) (by decide) (Met.frame (mem21 a2 z0 z1 z2 z3 z4 z5 z6 z7 z8 z9 z10 z11 z12 z13 z14 z15 z16 z17) (mt32 Z a0 hw h0 zc r99 cl pv SS z0 z1 z2 z3 z4 z5 z6 z7 z8 z9 z10 z11 z12 z13 z14 z15 z16 z17 G hc)) (argsL := [(.int (5 : Int32)), (.int (18 : Int32))]) (rest := []) rfl (ps := [.int, .int]) (by decide +kernel) rfl rfl 0 rfl (by decide) (by decide) (by decide) (by decide) ?_
  rintro _ _ ⟨_, ⟨rfl, rfl⟩, rfl⟩
  show Go B19_31 Z a0 h0 _ 0 0 (mem21 a2 z0 z1 z2 z3 z4 z5 z6 z7 z8 z9 z10 z11 z12 z13 z14 z15 z16 z17) 6 #[.val (.ref a2), .val (.int (5 : Int32))] []
  refine go_aloadN 7 rfl d19_6 rfl rfl ?_
  refine go_iloadN 8 rfl d19_7 rfl ?_
  refine go_baload 9 rfl d19_8 rfl (Mo.el (i := 0) rfl (by decide) rfl) ?_
  refine go_sipush (255 : Int32) 12 rfl d19_9 rfl ?_
  refine go_iand 13 rfl d19_12 rfl ?_
  refine go_i2c 14 rfl d19_13 rfl ?_
  exact go_ireturn d19_14 rfl (Or.inr (Or.inr (Or.inr (Or.inl rfl)))) rfl (congrArg Value.int (nar_c _)) (by decide) (by decide) (by rw [lat z5 (rg5 G)]; exact ⟨rfl, rfl⟩)
def B17_30 : Bdy := (⟨"java/lang/String", "charAt", "(I)C"⟩, jdk_42_method_56_code, 2, (some .char), ({ frames := 3, cells := 0, slots := 0, locals := 40 } : Room))
theorem mt30 (Z : State) (a0 : Array Value) (hw : ∀ d ∈ tables_1, d.before a0 Z = true) (h0 : Heap) (zc : Int32) (r99 : Value) (cl : Cell) (pv : Addr) (SS : Sts Z h0 zc r99 cl pv) (z0 z1 z2 z3 z4 z5 z6 z7 z8 z9 z10 z11 z12 z13 z14 z15 z16 z17 : Int32) (G : RG z0 z1 z2 z3 z4 z5 z6 z7 z8 z9 z10 z11 z12 z13 z14 z15 z16 z17) (hc : HC z0 z1 z2 z3 z4 z5 z6 z7 z8 z9 z10 z11 z12 z13 z14 z15 z16 z17) (a2 : Addr) (a1 : Addr) :
    Met B17_30 Z a0 h0 #[(.ref a1), (.int (5 : Int32))] (mem20 a2 z0 z1 z2 z3 z4 z5 z6 z7 z8 z9 z10 z11 z12 z13 z14 z15 z16 z17 a1) (Ret (some (.int z5)) (mem20 a2 z0 z1 z2 z3 z4 z5 z6 z7 z8 z9 z10 z11 z12 z13 z14 z15 z16 z17 a1)) := by
  refine Met.of pn17 (ls := #[.val (.ref a1), .val (.int (5 : Int32))]) (fun m => by first | (simp [entryFrame, mkF, argsToLocals, Value.category, B17_30]; done) | rfl) ?_
  show Go B17_30 Z a0 h0 _ 0 0 (mem20 a2 z0 z1 z2 z3 z4 z5 z6 z7 z8 z9 z10 z11 z12 z13 z14 z15 z16 z17 a1) 0 #[.val (.ref a1), .val (.int (5 : Int32))] []
  refine go_aloadN 1 rfl d17_0 rfl rfl ?_
  refine go_callV 4 rfl d17_1 (wd hw 106 rfl) (wd hw 107 rfl) (wd hw 109 rfl) (wd hw 108 rfl) (wd hw 35 rfl) (wd hw 110 rfl) (by decide) (Mo.exa (i := 1) rfl) (mt14 Z a0 hw h0 zc r99 cl pv SS z0 z1 z2 z3 z4 z5 z6 z7 z8 z9 z10 z11 z12 z13 z14 z15 z16 z17 G hc a2 a1) (argsL := []) (rest := []) rfl (ps := []) (by decide +kernel) rfl rfl 0 rfl (by decide) (by decide) (by decide) (by decide) ?_
  rintro _ _ ⟨rfl, rfl⟩
  show Go B17_30 Z a0 h0 _ 0 0 (mem20 a2 z0 z1 z2 z3 z4 z5 z6 z7 z8 z9 z10 z11 z12 z13 z14 z15 z16 z17 a1) 4 #[.val (.ref a1), .val (.int (5 : Int32))] [(.int (1 : Int32))]
  refine go_if 16 7 rfl (by decide) rfl d17_4 rfl (fun (hc4 : (1 : Int) = 0) => absurd hc4 (by decide)) (fun (hc4 : ¬ ((1 : Int) = 0)) => ?_)
  refine go_aloadN 8 rfl d17_7 rfl rfl ?_
  refine go_get 1 0 11 rfl d17_8 rfl rfl rfl (wd hw 60 rfl) ?_
  refine go_iloadN 12 rfl d17_11 rfl ?_
  refine go_callS 15 rfl d17_12 (wd hw 111 rfl) (wd hw 112 rfl) (wd hw 113 rfl) (wd hw 114 rfl) (by decide) (Met.frame [ob a1 "java/lang/String" [("java/lang/String", "value", "[B", (.ref a2)), ("java/lang/String", "coder", "B", (.int (0 : Int32)))]] (mt31 Z a0 hw h0 zc r99 cl pv SS z0 z1 z2 z3 z4 z5 z6 z7 z8 z9 z10 z11 z12 z13 z14 z15 z16 z17 G hc a2)) (argsL := [(.ref a2), (.int (5 : Int32))]) (rest := []) rfl (ps := [(.array .byte), .int]) (by decide +kernel) rfl rfl 0 rfl (by decide) (by decide) (by decide) (by decide) ?_
  rintro _ _ ⟨_, ⟨rfl, rfl⟩, rfl⟩
  show Go B17_30 Z a0 h0 _ 0 0 (mem20 a2 z0 z1 z2 z3 z4 z5 z6 z7 z8 z9 z10 z11 z12 z13 z14 z15 z16 z17 a1) 15 #[.val (.ref a1), .val (.int (5 : Int32))] [(.int z5)]
  exact go_ireturn d17_15 rfl (Or.inr (Or.inr (Or.inr (Or.inl rfl)))) rfl (congrArg Value.int (nar_z z5 (rg5 G))) (by decide) (by decide) ⟨rfl, rfl⟩
def B21_37 : Bdy := (⟨"jdk/internal/util/Preconditions", "checkIndex", "(IILjava/util/function/BiFunction;)I"⟩, jdk_41_method_11_code, 3, (some .int), ({ frames := 0, cells := 0, slots := 0, locals := 0 } : Room))
theorem mt37 (Z : State) (a0 : Array Value) (hw : ∀ d ∈ tables_1, d.before a0 Z = true) (h0 : Heap) (zc : Int32) (r99 : Value) (cl : Cell) (pv : Addr) (SS : Sts Z h0 zc r99 cl pv) (z0 z1 z2 z3 z4 z5 z6 z7 z8 z9 z10 z11 z12 z13 z14 z15 z16 z17 : Int32) (G : RG z0 z1 z2 z3 z4 z5 z6 z7 z8 z9 z10 z11 z12 z13 z14 z15 z16 z17) (hc : HC z0 z1 z2 z3 z4 z5 z6 z7 z8 z9 z10 z11 z12 z13 z14 z15 z16 z17) :
    Met B21_37 Z a0 h0 #[(.int (6 : Int32)), (.int (18 : Int32)), r99] [] (Ret (some (.int (6 : Int32))) []) := by
  refine Met.of pn21 (ls := #[.val (.int (6 : Int32)), .val (.int (18 : Int32)), .val r99]) (fun m => by rcases ref_cases SS.2.2.2.1 with rfl | ⟨_, rfl⟩ <;> first | (simp [entryFrame, mkF, argsToLocals, Value.category, B21_37]; done) | rfl) ?_
  show Go B21_37 Z a0 h0 _ 0 0 [] 0 #[.val (.int (6 : Int32)), .val (.int (18 : Int32)), .val r99] []
  refine go_iloadN 1 rfl d21_0 rfl ?_
  refine go_if 9 4 rfl (by decide) rfl d21_1 rfl (fun (hc1 : (6 : Int) < 0) => absurd hc1 (by decide)) (fun (hc1 : ¬ ((6 : Int) < 0)) => ?_)
  refine go_iloadN 5 rfl d21_4 rfl ?_
  refine go_iloadN 6 rfl d21_5 rfl ?_
  refine go_icmp 16 9 rfl (by decide) rfl d21_6 rfl (fun (hc6 : (6 : Int) < (18 : Int)) => ?_) (fun (hc6 : ¬ ((6 : Int) < (18 : Int))) => absurd hc6 (by decide))
  refine go_iloadN 17 rfl d21_16 rfl ?_
  exact go_ireturn d21_17 rfl (Or.inl rfl) rfl rfl (by decide) (by decide) ⟨rfl, rfl⟩
def B20_36 : Bdy := (⟨"java/lang/String", "checkIndex", "(II)V"⟩, jdk_42_method_155_code, 2, none, ({ frames := 1, cells := 0, slots := 0, locals := 14 } : Room))
theorem mt36 (Z : State) (a0 : Array Value) (hw : ∀ d ∈ tables_1, d.before a0 Z = true) (h0 : Heap) (zc : Int32) (r99 : Value) (cl : Cell) (pv : Addr) (SS : Sts Z h0 zc r99 cl pv) (z0 z1 z2 z3 z4 z5 z6 z7 z8 z9 z10 z11 z12 z13 z14 z15 z16 z17 : Int32) (G : RG z0 z1 z2 z3 z4 z5 z6 z7 z8 z9 z10 z11 z12 z13 z14 z15 z16 z17) (hc : HC z0 z1 z2 z3 z4 z5 z6 z7 z8 z9 z10 z11 z12 z13 z14 z15 z16 z17) :
    Met B20_36 Z a0 h0 #[(.int (6 : Int32)), (.int (18 : Int32))] [] (Ret none []) := by
  refine Met.of pn20 (ls := #[.val (.int (6 : Int32)), .val (.int (18 : Int32))]) (fun m => by first | (simp [entryFrame, mkF, argsToLocals, Value.category, B20_36]; done) | rfl) ?_
  show Go B20_36 Z a0 h0 _ 0 0 [] 0 #[.val (.int (6 : Int32)), .val (.int (18 : Int32))] []
  refine go_iloadN 1 rfl d20_0 rfl ?_
  refine go_iloadN 2 rfl d20_1 rfl ?_
  refine go_getS 5 rfl d20_2 (wd hw 118 rfl) SS.2.2.1 ?_
  refine go_callS 8 rfl d20_5 (wd hw 120 rfl) (wd hw 121 rfl) (wd hw 119 rfl) (wd hw 122 rfl) (by decide) (mt37 Z a0 hw h0 zc r99 cl pv SS z0 z1 z2 z3 z4 z5 z6 z7 z8 z9 z10 z11 z12 z13 z14 z15 z16 z17 G hc) (argsL := [(.int (6 : Int32)), (.int (18 : Int32)), r99]) (rest := []) rfl (ps := [.int, .int, (.object "java/util/function/BiFunction")]) (by decide +kernel) rfl rfl 0 rfl (by decide) (by decide) (by decide) (by decide) ?_
  rintro _ _ ⟨rfl, rfl⟩
  show Go B20_36 Z a0 h0 _ 0 0 [] 8 #[.val (.int (6 : Int32)), .val (.int (18 : Int32))] [(.int (6 : Int32))]
  refine go_pop 9 rfl d20_8 rfl rfl ?_
  exact go_return d20_9 rfl rfl (by decide) (by decide) ⟨rfl, rfl⟩
def B19_35 : Bdy := (⟨"java/lang/StringLatin1", "charAt", "([BI)C"⟩, jdk_43_method_2_code, 2, (some .char), ({ frames := 2, cells := 0, slots := 0, locals := 27 } : Room))
theorem mt35 (Z : State) (a0 : Array Value) (hw : ∀ d ∈ tables_1, d.before a0 Z = true) (h0 : Heap) (zc : Int32) (r99 : Value) (cl : Cell) (pv : Addr) (SS : Sts Z h0 zc r99 cl pv) (z0 z1 z2 z3 z4 z5 z6 z7 z8 z9 z10 z11 z12 z13 z14 z15 z16 z17 : Int32) (G : RG z0 z1 z2 z3 z4 z5 z6 z7 z8 z9 z10 z11 z12 z13 z14 z15 z16 z17) (hc : HC z0 z1 z2 z3 z4 z5 z6 z7 z8 z9 z10 z11 z12 z13 z14 z15 z16 z17) (a2 : Addr) :
    Met B19_35 Z a0 h0 #[(.ref a2), (.int (6 : Int32))] (mem21 a2 z0 z1 z2 z3 z4 z5 z6 z7 z8 z9 z10 z11 z12 z13 z14 z15 z16 z17) (Ret (some (.int z6)) (mem21 a2 z0 z1 z2 z3 z4 z5 z6 z7 z8 z9 z10 z11 z12 z13 z14 z15 z16 z17)) := by
  refine Met.of pn19 (ls := #[.val (.ref a2), .val (.int (6 : Int32))]) (fun m => by first | (simp [entryFrame, mkF, argsToLocals, Value.category, B19_35]; done) | rfl) ?_
  show Go B19_35 Z a0 h0 _ 0 0 (mem21 a2 z0 z1 z2 z3 z4 z5 z6 z7 z8 z9 z10 z11 z12 z13 z14 z15 z16 z17) 0 #[.val (.ref a2), .val (.int (6 : Int32))] []
  refine go_iloadN 1 rfl d19_0 rfl ?_
  refine go_aloadN 2 rfl d19_1 rfl rfl ?_
  refine go_alen 0 3 rfl d19_2 rfl rfl ?_
  show Go B19_35 Z a0 h0 _ 0 0 (mem21 a2 z0 z1 z2 z3 z4 z5 z6 z7 z8 z9 z10 z11 z12 z13 z14 z15 z16 z17) 3 #[.val (.ref a2), .val (.int (6 : Int32))] [(.int (18 : Int32)), (.int (6 : Int32))]
  refine go_callS 6 rfl d19_3 (wd hw 115 rfl) (wd hw 116 rfl) (wd hw 35 rfl) (wd hw 117 rfl) (by decide) (Met.frame (mem21 a2 z0 z1 z2 z3 z4 z5 z6 z7 z8 z9 z10 z11 z12 z13 z14 z15 z16 z17) (mt36 Z a0 hw h0 zc r99 cl pv SS z0 z1 z2 z3 z4 z5 z6 z7 z8 z9 z10 z11 z12 z13 z14 z15 z16 z17 G hc)) (argsL := [(.int (6 : Int32)), (.int (18 : Int32))]) (rest := []) rfl (ps := [.int, .int]) (by decide +kernel) rfl rfl 0 rfl (by decide) (by decide) (by decide) (by decide) ?_
  rintro _ _ ⟨_, ⟨rfl, rfl⟩, rfl⟩
  show Go B19_35 Z a0 h0 _ 0 0 (mem21 a2 z0 z1 z2 z3 z4 z5 z6 z7 z8 z9 z10 z11 z12 z13 z14 z15 z16 z17) 6 #[.val (.ref a2), .val (.int (6 : Int32))] []
  refine go_aloadN 7 rfl d19_6 rfl rfl ?_
  refine go_iloadN 8 rfl d19_7 rfl ?_
  refine go_baload 9 rfl d19_8 rfl (Mo.el (i := 0) rfl (by decide) rfl) ?_
  refine go_sipush (255 : Int32) 12 rfl d19_9 rfl ?_
  refine go_iand 13 rfl d19_12 rfl ?_
  refine go_i2c 14 rfl d19_13 rfl ?_
  exact go_ireturn d19_14 rfl (Or.inr (Or.inr (Or.inr (Or.inl rfl)))) rfl (congrArg Value.int (nar_c _)) (by decide) (by decide) (by rw [lat z6 (rg6 G)]; exact ⟨rfl, rfl⟩)
def B17_34 : Bdy := (⟨"java/lang/String", "charAt", "(I)C"⟩, jdk_42_method_56_code, 2, (some .char), ({ frames := 3, cells := 0, slots := 0, locals := 40 } : Room))
theorem mt34 (Z : State) (a0 : Array Value) (hw : ∀ d ∈ tables_1, d.before a0 Z = true) (h0 : Heap) (zc : Int32) (r99 : Value) (cl : Cell) (pv : Addr) (SS : Sts Z h0 zc r99 cl pv) (z0 z1 z2 z3 z4 z5 z6 z7 z8 z9 z10 z11 z12 z13 z14 z15 z16 z17 : Int32) (G : RG z0 z1 z2 z3 z4 z5 z6 z7 z8 z9 z10 z11 z12 z13 z14 z15 z16 z17) (hc : HC z0 z1 z2 z3 z4 z5 z6 z7 z8 z9 z10 z11 z12 z13 z14 z15 z16 z17) (a2 : Addr) (a1 : Addr) :
    Met B17_34 Z a0 h0 #[(.ref a1), (.int (6 : Int32))] (mem20 a2 z0 z1 z2 z3 z4 z5 z6 z7 z8 z9 z10 z11 z12 z13 z14 z15 z16 z17 a1) (Ret (some (.int z6)) (mem20 a2 z0 z1 z2 z3 z4 z5 z6 z7 z8 z9 z10 z11 z12 z13 z14 z15 z16 z17 a1)) := by
  refine Met.of pn17 (ls := #[.val (.ref a1), .val (.int (6 : Int32))]) (fun m => by first | (simp [entryFrame, mkF, argsToLocals, Value.category, B17_34]; done) | rfl) ?_
  show Go B17_34 Z a0 h0 _ 0 0 (mem20 a2 z0 z1 z2 z3 z4 z5 z6 z7 z8 z9 z10 z11 z12 z13 z14 z15 z16 z17 a1) 0 #[.val (.ref a1), .val (.int (6 : Int32))] []
  refine go_aloadN 1 rfl d17_0 rfl rfl ?_
  refine go_callV 4 rfl d17_1 (wd hw 106 rfl) (wd hw 107 rfl) (wd hw 109 rfl) (wd hw 108 rfl) (wd hw 35 rfl) (wd hw 110 rfl) (by decide) (Mo.exa (i := 1) rfl) (mt14 Z a0 hw h0 zc r99 cl pv SS z0 z1 z2 z3 z4 z5 z6 z7 z8 z9 z10 z11 z12 z13 z14 z15 z16 z17 G hc a2 a1) (argsL := []) (rest := []) rfl (ps := []) (by decide +kernel) rfl rfl 0 rfl (by decide) (by decide) (by decide) (by decide) ?_
  rintro _ _ ⟨rfl, rfl⟩
  show Go B17_34 Z a0 h0 _ 0 0 (mem20 a2 z0 z1 z2 z3 z4 z5 z6 z7 z8 z9 z10 z11 z12 z13 z14 z15 z16 z17 a1) 4 #[.val (.ref a1), .val (.int (6 : Int32))] [(.int (1 : Int32))]
  refine go_if 16 7 rfl (by decide) rfl d17_4 rfl (fun (hc4 : (1 : Int) = 0) => absurd hc4 (by decide)) (fun (hc4 : ¬ ((1 : Int) = 0)) => ?_)
  refine go_aloadN 8 rfl d17_7 rfl rfl ?_
  refine go_get 1 0 11 rfl d17_8 rfl rfl rfl (wd hw 60 rfl) ?_
  refine go_iloadN 12 rfl d17_11 rfl ?_
  refine go_callS 15 rfl d17_12 (wd hw 111 rfl) (wd hw 112 rfl) (wd hw 113 rfl) (wd hw 114 rfl) (by decide) (Met.frame [ob a1 "java/lang/String" [("java/lang/String", "value", "[B", (.ref a2)), ("java/lang/String", "coder", "B", (.int (0 : Int32)))]] (mt35 Z a0 hw h0 zc r99 cl pv SS z0 z1 z2 z3 z4 z5 z6 z7 z8 z9 z10 z11 z12 z13 z14 z15 z16 z17 G hc a2)) (argsL := [(.ref a2), (.int (6 : Int32))]) (rest := []) rfl (ps := [(.array .byte), .int]) (by decide +kernel) rfl rfl 0 rfl (by decide) (by decide) (by decide) (by decide) ?_
  rintro _ _ ⟨_, ⟨rfl, rfl⟩, rfl⟩
  show Go B17_34 Z a0 h0 _ 0 0 (mem20 a2 z0 z1 z2 z3 z4 z5 z6 z7 z8 z9 z10 z11 z12 z13 z14 z15 z16 z17 a1) 15 #[.val (.ref a1), .val (.int (6 : Int32))] [(.int z6)]
  exact go_ireturn d17_15 rfl (Or.inr (Or.inr (Or.inr (Or.inl rfl)))) rfl (congrArg Value.int (nar_z z6 (rg6 G))) (by decide) (by decide) ⟨rfl, rfl⟩
def B21_41 : Bdy := (⟨"jdk/internal/util/Preconditions", "checkIndex", "(IILjava/util/function/BiFunction;)I"⟩, jdk_41_method_11_code, 3, (some .int), ({ frames := 0, cells := 0, slots := 0, locals := 0 } : Room))
theorem mt41 (Z : State) (a0 : Array Value) (hw : ∀ d ∈ tables_1, d.before a0 Z = true) (h0 : Heap) (zc : Int32) (r99 : Value) (cl : Cell) (pv : Addr) (SS : Sts Z h0 zc r99 cl pv) (z0 z1 z2 z3 z4 z5 z6 z7 z8 z9 z10 z11 z12 z13 z14 z15 z16 z17 : Int32) (G : RG z0 z1 z2 z3 z4 z5 z6 z7 z8 z9 z10 z11 z12 z13 z14 z15 z16 z17) (hc : HC z0 z1 z2 z3 z4 z5 z6 z7 z8 z9 z10 z11 z12 z13 z14 z15 z16 z17) :
    Met B21_41 Z a0 h0 #[(.int (7 : Int32)), (.int (18 : Int32)), r99] [] (Ret (some (.int (7 : Int32))) []) := by
  refine Met.of pn21 (ls := #[.val (.int (7 : Int32)), .val (.int (18 : Int32)), .val r99]) (fun m => by rcases ref_cases SS.2.2.2.1 with rfl | ⟨_, rfl⟩ <;> first | (simp [entryFrame, mkF, argsToLocals, Value.category, B21_41]; done) | rfl) ?_
  show Go B21_41 Z a0 h0 _ 0 0 [] 0 #[.val (.int (7 : Int32)), .val (.int (18 : Int32)), .val r99] []
  refine go_iloadN 1 rfl d21_0 rfl ?_
  refine go_if 9 4 rfl (by decide) rfl d21_1 rfl (fun (hc1 : (7 : Int) < 0) => absurd hc1 (by decide)) (fun (hc1 : ¬ ((7 : Int) < 0)) => ?_)
  refine go_iloadN 5 rfl d21_4 rfl ?_
  refine go_iloadN 6 rfl d21_5 rfl ?_
  refine go_icmp 16 9 rfl (by decide) rfl d21_6 rfl (fun (hc6 : (7 : Int) < (18 : Int)) => ?_) (fun (hc6 : ¬ ((7 : Int) < (18 : Int))) => absurd hc6 (by decide))
  refine go_iloadN 17 rfl d21_16 rfl ?_
  exact go_ireturn d21_17 rfl (Or.inl rfl) rfl rfl (by decide) (by decide) ⟨rfl, rfl⟩
def B20_40 : Bdy := (⟨"java/lang/String", "checkIndex", "(II)V"⟩, jdk_42_method_155_code, 2, none, ({ frames := 1, cells := 0, slots := 0, locals := 14 } : Room))
theorem mt40 (Z : State) (a0 : Array Value) (hw : ∀ d ∈ tables_1, d.before a0 Z = true) (h0 : Heap) (zc : Int32) (r99 : Value) (cl : Cell) (pv : Addr) (SS : Sts Z h0 zc r99 cl pv) (z0 z1 z2 z3 z4 z5 z6 z7 z8 z9 z10 z11 z12 z13 z14 z15 z16 z17 : Int32) (G : RG z0 z1 z2 z3 z4 z5 z6 z7 z8 z9 z10 z11 z12 z13 z14 z15 z16 z17) (hc : HC z0 z1 z2 z3 z4 z5 z6 z7 z8 z9 z10 z11 z12 z13 z14 z15 z16 z17) :
    Met B20_40 Z a0 h0 #[(.int (7 : Int32)), (.int (18 : Int32))] [] (Ret none []) := by
  refine Met.of pn20 (ls := #[.val (.int (7 : Int32)), .val (.int (18 : Int32))]) (fun m => by first | (simp [entryFrame, mkF, argsToLocals, Value.category, B20_40]; done) | rfl) ?_
  show Go B20_40 Z a0 h0 _ 0 0 [] 0 #[.val (.int (7 : Int32)), .val (.int (18 : Int32))] []
  refine go_iloadN 1 rfl d20_0 rfl ?_
  refine go_iloadN 2 rfl d20_1 rfl ?_
  refine go_getS 5 rfl d20_2 (wd hw 118 rfl) SS.2.2.1 ?_
  refine go_callS 8 rfl d20_5 (wd hw 120 rfl) (wd hw 121 rfl) (wd hw 119 rfl) (wd hw 122 rfl) (by decide) (mt41 Z a0 hw h0 zc r99 cl pv SS z0 z1 z2 z3 z4 z5 z6 z7 z8 z9 z10 z11 z12 z13 z14 z15 z16 z17 G hc) (argsL := [(.int (7 : Int32)), (.int (18 : Int32)), r99]) (rest := []) rfl (ps := [.int, .int, (.object "java/util/function/BiFunction")]) (by decide +kernel) rfl rfl 0 rfl (by decide) (by decide) (by decide) (by decide) ?_
  rintro _ _ ⟨rfl, rfl⟩
  show Go B20_40 Z a0 h0 _ 0 0 [] 8 #[.val (.int (7 : Int32)), .val (.int (18 : Int32))] [(.int (7 : Int32))]
  refine go_pop 9 rfl d20_8 rfl rfl ?_
  exact go_return d20_9 rfl rfl (by decide) (by decide) ⟨rfl, rfl⟩
def B19_39 : Bdy := (⟨"java/lang/StringLatin1", "charAt", "([BI)C"⟩, jdk_43_method_2_code, 2, (some .char), ({ frames := 2, cells := 0, slots := 0, locals := 27 } : Room))
theorem mt39 (Z : State) (a0 : Array Value) (hw : ∀ d ∈ tables_1, d.before a0 Z = true) (h0 : Heap) (zc : Int32) (r99 : Value) (cl : Cell) (pv : Addr) (SS : Sts Z h0 zc r99 cl pv) (z0 z1 z2 z3 z4 z5 z6 z7 z8 z9 z10 z11 z12 z13 z14 z15 z16 z17 : Int32) (G : RG z0 z1 z2 z3 z4 z5 z6 z7 z8 z9 z10 z11 z12 z13 z14 z15 z16 z17) (hc : HC z0 z1 z2 z3 z4 z5 z6 z7 z8 z9 z10 z11 z12 z13 z14 z15 z16 z17) (a2 : Addr) :
    Met B19_39 Z a0 h0 #[(.ref a2), (.int (7 : Int32))] (mem21 a2 z0 z1 z2 z3 z4 z5 z6 z7 z8 z9 z10 z11 z12 z13 z14 z15 z16 z17) (Ret (some (.int z7)) (mem21 a2 z0 z1 z2 z3 z4 z5 z6 z7 z8 z9 z10 z11 z12 z13 z14 z15 z16 z17)) := by
  refine Met.of pn19 (ls := #[.val (.ref a2), .val (.int (7 : Int32))]) (fun m => by first | (simp [entryFrame, mkF, argsToLocals, Value.category, B19_39]; done) | rfl) ?_
  show Go B19_39 Z a0 h0 _ 0 0 (mem21 a2 z0 z1 z2 z3 z4 z5 z6 z7 z8 z9 z10 z11 z12 z13 z14 z15 z16 z17) 0 #[.val (.ref a2), .val (.int (7 : Int32))] []
  refine go_iloadN 1 rfl d19_0 rfl ?_
  refine go_aloadN 2 rfl d19_1 rfl rfl ?_
  refine go_alen 0 3 rfl d19_2 rfl rfl ?_
  show Go B19_39 Z a0 h0 _ 0 0 (mem21 a2 z0 z1 z2 z3 z4 z5 z6 z7 z8 z9 z10 z11 z12 z13 z14 z15 z16 z17) 3 #[.val (.ref a2), .val (.int (7 : Int32))] [(.int (18 : Int32)), (.int (7 : Int32))]
  refine go_callS 6 rfl d19_3 (wd hw 115 rfl) (wd hw 116 rfl) (wd hw 35 rfl) (wd hw 117 rfl) (by decide) (Met.frame (mem21 a2 z0 z1 z2 z3 z4 z5 z6 z7 z8 z9 z10 z11 z12 z13 z14 z15 z16 z17) (mt40 Z a0 hw h0 zc r99 cl pv SS z0 z1 z2 z3 z4 z5 z6 z7 z8 z9 z10 z11 z12 z13 z14 z15 z16 z17 G hc)) (argsL := [(.int (7 : Int32)), (.int (18 : Int32))]) (rest := []) rfl (ps := [.int, .int]) (by decide +kernel) rfl rfl 0 rfl (by decide) (by decide) (by decide) (by decide) ?_
  rintro _ _ ⟨_, ⟨rfl, rfl⟩, rfl⟩
  show Go B19_39 Z a0 h0 _ 0 0 (mem21 a2 z0 z1 z2 z3 z4 z5 z6 z7 z8 z9 z10 z11 z12 z13 z14 z15 z16 z17) 6 #[.val (.ref a2), .val (.int (7 : Int32))] []
  refine go_aloadN 7 rfl d19_6 rfl rfl ?_
  refine go_iloadN 8 rfl d19_7 rfl ?_
  refine go_baload 9 rfl d19_8 rfl (Mo.el (i := 0) rfl (by decide) rfl) ?_
  refine go_sipush (255 : Int32) 12 rfl d19_9 rfl ?_
  refine go_iand 13 rfl d19_12 rfl ?_
  refine go_i2c 14 rfl d19_13 rfl ?_
  exact go_ireturn d19_14 rfl (Or.inr (Or.inr (Or.inr (Or.inl rfl)))) rfl (congrArg Value.int (nar_c _)) (by decide) (by decide) (by rw [lat z7 (rg7 G)]; exact ⟨rfl, rfl⟩)
def B17_38 : Bdy := (⟨"java/lang/String", "charAt", "(I)C"⟩, jdk_42_method_56_code, 2, (some .char), ({ frames := 3, cells := 0, slots := 0, locals := 40 } : Room))
theorem mt38 (Z : State) (a0 : Array Value) (hw : ∀ d ∈ tables_1, d.before a0 Z = true) (h0 : Heap) (zc : Int32) (r99 : Value) (cl : Cell) (pv : Addr) (SS : Sts Z h0 zc r99 cl pv) (z0 z1 z2 z3 z4 z5 z6 z7 z8 z9 z10 z11 z12 z13 z14 z15 z16 z17 : Int32) (G : RG z0 z1 z2 z3 z4 z5 z6 z7 z8 z9 z10 z11 z12 z13 z14 z15 z16 z17) (hc : HC z0 z1 z2 z3 z4 z5 z6 z7 z8 z9 z10 z11 z12 z13 z14 z15 z16 z17) (a2 : Addr) (a1 : Addr) :
    Met B17_38 Z a0 h0 #[(.ref a1), (.int (7 : Int32))] (mem20 a2 z0 z1 z2 z3 z4 z5 z6 z7 z8 z9 z10 z11 z12 z13 z14 z15 z16 z17 a1) (Ret (some (.int z7)) (mem20 a2 z0 z1 z2 z3 z4 z5 z6 z7 z8 z9 z10 z11 z12 z13 z14 z15 z16 z17 a1)) := by
  refine Met.of pn17 (ls := #[.val (.ref a1), .val (.int (7 : Int32))]) (fun m => by first | (simp [entryFrame, mkF, argsToLocals, Value.category, B17_38]; done) | rfl) ?_
  show Go B17_38 Z a0 h0 _ 0 0 (mem20 a2 z0 z1 z2 z3 z4 z5 z6 z7 z8 z9 z10 z11 z12 z13 z14 z15 z16 z17 a1) 0 #[.val (.ref a1), .val (.int (7 : Int32))] []
  refine go_aloadN 1 rfl d17_0 rfl rfl ?_
  refine go_callV 4 rfl d17_1 (wd hw 106 rfl) (wd hw 107 rfl) (wd hw 109 rfl) (wd hw 108 rfl) (wd hw 35 rfl) (wd hw 110 rfl) (by decide) (Mo.exa (i := 1) rfl) (mt14 Z a0 hw h0 zc r99 cl pv SS z0 z1 z2 z3 z4 z5 z6 z7 z8 z9 z10 z11 z12 z13 z14 z15 z16 z17 G hc a2 a1) (argsL := []) (rest := []) rfl (ps := []) (by decide +kernel) rfl rfl 0 rfl (by decide) (by decide) (by decide) (by decide) ?_
  rintro _ _ ⟨rfl, rfl⟩
  show Go B17_38 Z a0 h0 _ 0 0 (mem20 a2 z0 z1 z2 z3 z4 z5 z6 z7 z8 z9 z10 z11 z12 z13 z14 z15 z16 z17 a1) 4 #[.val (.ref a1), .val (.int (7 : Int32))] [(.int (1 : Int32))]
  refine go_if 16 7 rfl (by decide) rfl d17_4 rfl (fun (hc4 : (1 : Int) = 0) => absurd hc4 (by decide)) (fun (hc4 : ¬ ((1 : Int) = 0)) => ?_)
  refine go_aloadN 8 rfl d17_7 rfl rfl ?_
  refine go_get 1 0 11 rfl d17_8 rfl rfl rfl (wd hw 60 rfl) ?_
  refine go_iloadN 12 rfl d17_11 rfl ?_
  refine go_callS 15 rfl d17_12 (wd hw 111 rfl) (wd hw 112 rfl) (wd hw 113 rfl) (wd hw 114 rfl) (by decide) (Met.frame [ob a1 "java/lang/String" [("java/lang/String", "value", "[B", (.ref a2)), ("java/lang/String", "coder", "B", (.int (0 : Int32)))]] (mt39 Z a0 hw h0 zc r99 cl pv SS z0 z1 z2 z3 z4 z5 z6 z7 z8 z9 z10 z11 z12 z13 z14 z15 z16 z17 G hc a2)) (argsL := [(.ref a2), (.int (7 : Int32))]) (rest := []) rfl (ps := [(.array .byte), .int]) (by decide +kernel) rfl rfl 0 rfl (by decide) (by decide) (by decide) (by decide) ?_
  rintro _ _ ⟨_, ⟨rfl, rfl⟩, rfl⟩
  show Go B17_38 Z a0 h0 _ 0 0 (mem20 a2 z0 z1 z2 z3 z4 z5 z6 z7 z8 z9 z10 z11 z12 z13 z14 z15 z16 z17 a1) 15 #[.val (.ref a1), .val (.int (7 : Int32))] [(.int z7)]
  exact go_ireturn d17_15 rfl (Or.inr (Or.inr (Or.inr (Or.inl rfl)))) rfl (congrArg Value.int (nar_z z7 (rg7 G))) (by decide) (by decide) ⟨rfl, rfl⟩
def B21_45 : Bdy := (⟨"jdk/internal/util/Preconditions", "checkIndex", "(IILjava/util/function/BiFunction;)I"⟩, jdk_41_method_11_code, 3, (some .int), ({ frames := 0, cells := 0, slots := 0, locals := 0 } : Room))
theorem mt45 (Z : State) (a0 : Array Value) (hw : ∀ d ∈ tables_1, d.before a0 Z = true) (h0 : Heap) (zc : Int32) (r99 : Value) (cl : Cell) (pv : Addr) (SS : Sts Z h0 zc r99 cl pv) (z0 z1 z2 z3 z4 z5 z6 z7 z8 z9 z10 z11 z12 z13 z14 z15 z16 z17 : Int32) (G : RG z0 z1 z2 z3 z4 z5 z6 z7 z8 z9 z10 z11 z12 z13 z14 z15 z16 z17) (hc : HC z0 z1 z2 z3 z4 z5 z6 z7 z8 z9 z10 z11 z12 z13 z14 z15 z16 z17) :
    Met B21_45 Z a0 h0 #[(.int (8 : Int32)), (.int (18 : Int32)), r99] [] (Ret (some (.int (8 : Int32))) []) := by
  refine Met.of pn21 (ls := #[.val (.int (8 : Int32)), .val (.int (18 : Int32)), .val r99]) (fun m => by rcases ref_cases SS.2.2.2.1 with rfl | ⟨_, rfl⟩ <;> first | (simp [entryFrame, mkF, argsToLocals, Value.category, B21_45]; done) | rfl) ?_
  show Go B21_45 Z a0 h0 _ 0 0 [] 0 #[.val (.int (8 : Int32)), .val (.int (18 : Int32)), .val r99] []
  refine go_iloadN 1 rfl d21_0 rfl ?_
  refine go_if 9 4 rfl (by decide) rfl d21_1 rfl (fun (hc1 : (8 : Int) < 0) => absurd hc1 (by decide)) (fun (hc1 : ¬ ((8 : Int) < 0)) => ?_)
  refine go_iloadN 5 rfl d21_4 rfl ?_
  refine go_iloadN 6 rfl d21_5 rfl ?_
  refine go_icmp 16 9 rfl (by decide) rfl d21_6 rfl (fun (hc6 : (8 : Int) < (18 : Int)) => ?_) (fun (hc6 : ¬ ((8 : Int) < (18 : Int))) => absurd hc6 (by decide))
  refine go_iloadN 17 rfl d21_16 rfl ?_
  exact go_ireturn d21_17 rfl (Or.inl rfl) rfl rfl (by decide) (by decide) ⟨rfl, rfl⟩
def B20_44 : Bdy := (⟨"java/lang/String", "checkIndex", "(II)V"⟩, jdk_42_method_155_code, 2, none, ({ frames := 1, cells := 0, slots := 0, locals := 14 } : Room))
theorem mt44 (Z : State) (a0 : Array Value) (hw : ∀ d ∈ tables_1, d.before a0 Z = true) (h0 : Heap) (zc : Int32) (r99 : Value) (cl : Cell) (pv : Addr) (SS : Sts Z h0 zc r99 cl pv) (z0 z1 z2 z3 z4 z5 z6 z7 z8 z9 z10 z11 z12 z13 z14 z15 z16 z17 : Int32) (G : RG z0 z1 z2 z3 z4 z5 z6 z7 z8 z9 z10 z11 z12 z13 z14 z15 z16 z17) (hc : HC z0 z1 z2 z3 z4 z5 z6 z7 z8 z9 z10 z11 z12 z13 z14 z15 z16 z17) :
    Met B20_44 Z a0 h0 #[(.int (8 : Int32)), (.int (18 : Int32))] [] (Ret none []) := by
  refine Met.of pn20 (ls := #[.val (.int (8 : Int32)), .val (.int (18 : Int32))]) (fun m => by first | (simp [entryFrame, mkF, argsToLocals, Value.category, B20_44]; done) | rfl) ?_
  show Go B20_44 Z a0 h0 _ 0 0 [] 0 #[.val (.int (8 : Int32)), .val (.int (18 : Int32))] []
  refine go_iloadN 1 rfl d20_0 rfl ?_
  refine go_iloadN 2 rfl d20_1 rfl ?_
  refine go_getS 5 rfl d20_2 (wd hw 118 rfl) SS.2.2.1 ?_
  refine go_callS 8 rfl d20_5 (wd hw 120 rfl) (wd hw 121 rfl) (wd hw 119 rfl) (wd hw 122 rfl) (by decide) (mt45 Z a0 hw h0 zc r99 cl pv SS z0 z1 z2 z3 z4 z5 z6 z7 z8 z9 z10 z11 z12 z13 z14 z15 z16 z17 G hc) (argsL := [(.int (8 : Int32)), (.int (18 : Int32)), r99]) (rest := []) rfl (ps := [.int, .int, (.object "java/util/function/BiFunction")]) (by decide +kernel) rfl rfl 0 rfl (by decide) (by decide) (by decide) (by decide) ?_
  rintro _ _ ⟨rfl, rfl⟩
  show Go B20_44 Z a0 h0 _ 0 0 [] 8 #[.val (.int (8 : Int32)), .val (.int (18 : Int32))] [(.int (8 : Int32))]
  refine go_pop 9 rfl d20_8 rfl rfl ?_
  exact go_return d20_9 rfl rfl (by decide) (by decide) ⟨rfl, rfl⟩
def B19_43 : Bdy := (⟨"java/lang/StringLatin1", "charAt", "([BI)C"⟩, jdk_43_method_2_code, 2, (some .char), ({ frames := 2, cells := 0, slots := 0, locals := 27 } : Room))
theorem mt43 (Z : State) (a0 : Array Value) (hw : ∀ d ∈ tables_1, d.before a0 Z = true) (h0 : Heap) (zc : Int32) (r99 : Value) (cl : Cell) (pv : Addr) (SS : Sts Z h0 zc r99 cl pv) (z0 z1 z2 z3 z4 z5 z6 z7 z8 z9 z10 z11 z12 z13 z14 z15 z16 z17 : Int32) (G : RG z0 z1 z2 z3 z4 z5 z6 z7 z8 z9 z10 z11 z12 z13 z14 z15 z16 z17) (hc : HC z0 z1 z2 z3 z4 z5 z6 z7 z8 z9 z10 z11 z12 z13 z14 z15 z16 z17) (a2 : Addr) :
    Met B19_43 Z a0 h0 #[(.ref a2), (.int (8 : Int32))] (mem21 a2 z0 z1 z2 z3 z4 z5 z6 z7 z8 z9 z10 z11 z12 z13 z14 z15 z16 z17) (Ret (some (.int z8)) (mem21 a2 z0 z1 z2 z3 z4 z5 z6 z7 z8 z9 z10 z11 z12 z13 z14 z15 z16 z17)) := by
  refine Met.of pn19 (ls := #[.val (.ref a2), .val (.int (8 : Int32))]) (fun m => by first | (simp [entryFrame, mkF, argsToLocals, Value.category, B19_43]; done) | rfl) ?_
  show Go B19_43 Z a0 h0 _ 0 0 (mem21 a2 z0 z1 z2 z3 z4 z5 z6 z7 z8 z9 z10 z11 z12 z13 z14 z15 z16 z17) 0 #[.val (.ref a2), .val (.int (8 : Int32))] []
  refine go_iloadN 1 rfl d19_0 rfl ?_
  refine go_aloadN 2 rfl d19_1 rfl rfl ?_
  refine go_alen 0 3 rfl d19_2 rfl rfl ?_
  show Go B19_43 Z a0 h0 _ 0 0 (mem21 a2 z0 z1 z2 z3 z4 z5 z6 z7 z8 z9 z10 z11 z12 z13 z14 z15 z16 z17) 3 #[.val (.ref a2), .val (.int (8 : Int32))] [(.int (18 : Int32)), (.int (8 : Int32))]
  refine go_callS 6 rfl d19_3 (wd hw 115 rfl) (wd hw 116 rfl) (wd hw 35 rfl) (wd hw 117 rfl) (by decide) (Met.frame (mem21 a2 z0 z1 z2 z3 z4 z5 z6 z7 z8 z9 z10 z11 z12 z13 z14 z15 z16 z17) (mt44 Z a0 hw h0 zc r99 cl pv SS z0 z1 z2 z3 z4 z5 z6 z7 z8 z9 z10 z11 z12 z13 z14 z15 z16 z17 G hc)) (argsL := [(.int (8 : Int32)), (.int (18 : Int32))]) (rest := []) rfl (ps := [.int, .int]) (by decide +kernel) rfl rfl 0 rfl (by decide) (by decide) (by decide) (by decide) ?_
  rintro _ _ ⟨_, ⟨rfl, rfl⟩, rfl⟩
  show Go B19_43 Z a0 h0 _ 0 0 (mem21 a2 z0 z1 z2 z3 z4 z5 z6 z7 z8 z9 z10 z11 z12 z13 z14 z15 z16 z17) 6 #[.val (.ref a2), .val (.int (8 : Int32))] []
  refine go_aloadN 7 rfl d19_6 rfl rfl ?_
  refine go_iloadN 8 rfl d19_7 rfl ?_
  refine go_baload 9 rfl d19_8 rfl (Mo.el (i := 0) rfl (by decide) rfl) ?_
  refine go_sipush (255 : Int32) 12 rfl d19_9 rfl ?_
  refine go_iand 13 rfl d19_12 rfl ?_
  refine go_i2c 14 rfl d19_13 rfl ?_
  exact go_ireturn d19_14 rfl (Or.inr (Or.inr (Or.inr (Or.inl rfl)))) rfl (congrArg Value.int (nar_c _)) (by decide) (by decide) (by rw [lat z8 (rg8 G)]; exact ⟨rfl, rfl⟩)
def B17_42 : Bdy := (⟨"java/lang/String", "charAt", "(I)C"⟩, jdk_42_method_56_code, 2, (some .char), ({ frames := 3, cells := 0, slots := 0, locals := 40 } : Room))
theorem mt42 (Z : State) (a0 : Array Value) (hw : ∀ d ∈ tables_1, d.before a0 Z = true) (h0 : Heap) (zc : Int32) (r99 : Value) (cl : Cell) (pv : Addr) (SS : Sts Z h0 zc r99 cl pv) (z0 z1 z2 z3 z4 z5 z6 z7 z8 z9 z10 z11 z12 z13 z14 z15 z16 z17 : Int32) (G : RG z0 z1 z2 z3 z4 z5 z6 z7 z8 z9 z10 z11 z12 z13 z14 z15 z16 z17) (hc : HC z0 z1 z2 z3 z4 z5 z6 z7 z8 z9 z10 z11 z12 z13 z14 z15 z16 z17) (a2 : Addr) (a1 : Addr) :
    Met B17_42 Z a0 h0 #[(.ref a1), (.int (8 : Int32))] (mem20 a2 z0 z1 z2 z3 z4 z5 z6 z7 z8 z9 z10 z11 z12 z13 z14 z15 z16 z17 a1) (Ret (some (.int z8)) (mem20 a2 z0 z1 z2 z3 z4 z5 z6 z7 z8 z9 z10 z11 z12 z13 z14 z15 z16 z17 a1)) := by
  refine Met.of pn17 (ls := #[.val (.ref a1), .val (.int (8 : Int32))]) (fun m => by first | (simp [entryFrame, mkF, argsToLocals, Value.category, B17_42]; done) | rfl) ?_
  show Go B17_42 Z a0 h0 _ 0 0 (mem20 a2 z0 z1 z2 z3 z4 z5 z6 z7 z8 z9 z10 z11 z12 z13 z14 z15 z16 z17 a1) 0 #[.val (.ref a1), .val (.int (8 : Int32))] []
  refine go_aloadN 1 rfl d17_0 rfl rfl ?_
  refine go_callV 4 rfl d17_1 (wd hw 106 rfl) (wd hw 107 rfl) (wd hw 109 rfl) (wd hw 108 rfl) (wd hw 35 rfl) (wd hw 110 rfl) (by decide) (Mo.exa (i := 1) rfl) (mt14 Z a0 hw h0 zc r99 cl pv SS z0 z1 z2 z3 z4 z5 z6 z7 z8 z9 z10 z11 z12 z13 z14 z15 z16 z17 G hc a2 a1) (argsL := []) (rest := []) rfl (ps := []) (by decide +kernel) rfl rfl 0 rfl (by decide) (by decide) (by decide) (by decide) ?_
  rintro _ _ ⟨rfl, rfl⟩
  show Go B17_42 Z a0 h0 _ 0 0 (mem20 a2 z0 z1 z2 z3 z4 z5 z6 z7 z8 z9 z10 z11 z12 z13 z14 z15 z16 z17 a1) 4 #[.val (.ref a1), .val (.int (8 : Int32))] [(.int (1 : Int32))]
  refine go_if 16 7 rfl (by decide) rfl d17_4 rfl (fun (hc4 : (1 : Int) = 0) => absurd hc4 (by decide)) (fun (hc4 : ¬ ((1 : Int) = 0)) => ?_)
  refine go_aloadN 8 rfl d17_7 rfl rfl ?_
  refine go_get 1 0 11 rfl d17_8 rfl rfl rfl (wd hw 60 rfl) ?_
  refine go_iloadN 12 rfl d17_11 rfl ?_
  refine go_callS 15 rfl d17_12 (wd hw 111 rfl) (wd hw 112 rfl) (wd hw 113 rfl) (wd hw 114 rfl) (by decide) (Met.frame [ob a1 "java/lang/String" [("java/lang/String", "value", "[B", (.ref a2)), ("java/lang/String", "coder", "B", (.int (0 : Int32)))]] (mt43 Z a0 hw h0 zc r99 cl pv SS z0 z1 z2 z3 z4 z5 z6 z7 z8 z9 z10 z11 z12 z13 z14 z15 z16 z17 G hc a2)) (argsL := [(.ref a2), (.int (8 : Int32))]) (rest := []) rfl (ps := [(.array .byte), .int]) (by decide +kernel) rfl rfl 0 rfl (by decide) (by decide) (by decide) (by decide) ?_
  rintro _ _ ⟨_, ⟨rfl, rfl⟩, rfl⟩
  show Go B17_42 Z a0 h0 _ 0 0 (mem20 a2 z0 z1 z2 z3 z4 z5 z6 z7 z8 z9 z10 z11 z12 z13 z14 z15 z16 z17 a1) 15 #[.val (.ref a1), .val (.int (8 : Int32))] [(.int z8)]
  exact go_ireturn d17_15 rfl (Or.inr (Or.inr (Or.inr (Or.inl rfl)))) rfl (congrArg Value.int (nar_z z8 (rg8 G))) (by decide) (by decide) ⟨rfl, rfl⟩
def B21_49 : Bdy := (⟨"jdk/internal/util/Preconditions", "checkIndex", "(IILjava/util/function/BiFunction;)I"⟩, jdk_41_method_11_code, 3, (some .int), ({ frames := 0, cells := 0, slots := 0, locals := 0 } : Room))
theorem mt49 (Z : State) (a0 : Array Value) (hw : ∀ d ∈ tables_1, d.before a0 Z = true) (h0 : Heap) (zc : Int32) (r99 : Value) (cl : Cell) (pv : Addr) (SS : Sts Z h0 zc r99 cl pv) (z0 z1 z2 z3 z4 z5 z6 z7 z8 z9 z10 z11 z12 z13 z14 z15 z16 z17 : Int32) (G : RG z0 z1 z2 z3 z4 z5 z6 z7 z8 z9 z10 z11 z12 z13 z14 z15 z16 z17) (hc : HC z0 z1 z2 z3 z4 z5 z6 z7 z8 z9 z10 z11 z12 z13 z14 z15 z16 z17) :
    Met B21_49 Z a0 h0 #[(.int (9 : Int32)), (.int (18 : Int32)), r99] [] (Ret (some (.int (9 : Int32))) []) := by
  refine Met.of pn21 (ls := #[.val (.int (9 : Int32)), .val (.int (18 : Int32)), .val r99]) (fun m => by rcases ref_cases SS.2.2.2.1 with rfl | ⟨_, rfl⟩ <;> first | (simp [entryFrame, mkF, argsToLocals, Value.category, B21_49]; done) | rfl) ?_
  show Go B21_49 Z a0 h0 _ 0 0 [] 0 #[.val (.int (9 : Int32)), .val (.int (18 : Int32)), .val r99] []
  refine go_iloadN 1 rfl d21_0 rfl ?_
  refine go_if 9 4 rfl (by decide) rfl d21_1 rfl (fun (hc1 : (9 : Int) < 0) => absurd hc1 (by decide)) (fun (hc1 : ¬ ((9 : Int) < 0)) => ?_)
  refine go_iloadN 5 rfl d21_4 rfl ?_
  refine go_iloadN 6 rfl d21_5 rfl ?_
  refine go_icmp 16 9 rfl (by decide) rfl d21_6 rfl (fun (hc6 : (9 : Int) < (18 : Int)) => ?_) (fun (hc6 : ¬ ((9 : Int) < (18 : Int))) => absurd hc6 (by decide))
  refine go_iloadN 17 rfl d21_16 rfl ?_
  exact go_ireturn d21_17 rfl (Or.inl rfl) rfl rfl (by decide) (by decide) ⟨rfl, rfl⟩
def B20_48 : Bdy := (⟨"java/lang/String", "checkIndex", "(II)V"⟩, jdk_42_method_155_code, 2, none, ({ frames := 1, cells := 0, slots := 0, locals := 14 } : Room))
theorem mt48 (Z : State) (a0 : Array Value) (hw : ∀ d ∈ tables_1, d.before a0 Z = true) (h0 : Heap) (zc : Int32) (r99 : Value) (cl : Cell) (pv : Addr) (SS : Sts Z h0 zc r99 cl pv) (z0 z1 z2 z3 z4 z5 z6 z7 z8 z9 z10 z11 z12 z13 z14 z15 z16 z17 : Int32) (G : RG z0 z1 z2 z3 z4 z5 z6 z7 z8 z9 z10 z11 z12 z13 z14 z15 z16 z17) (hc : HC z0 z1 z2 z3 z4 z5 z6 z7 z8 z9 z10 z11 z12 z13 z14 z15 z16 z17) :
    Met B20_48 Z a0 h0 #[(.int (9 : Int32)), (.int (18 : Int32))] [] (Ret none []) := by
  refine Met.of pn20 (ls := #[.val (.int (9 : Int32)), .val (.int (18 : Int32))]) (fun m => by first | (simp [entryFrame, mkF, argsToLocals, Value.category, B20_48]; done) | rfl) ?_
  show Go B20_48 Z a0 h0 _ 0 0 [] 0 #[.val (.int (9 : Int32)), .val (.int (18 : Int32))] []
  refine go_iloadN 1 rfl d20_0 rfl ?_
  refine go_iloadN 2 rfl d20_1 rfl ?_
  refine go_getS 5 rfl d20_2 (wd hw 118 rfl) SS.2.2.1 ?_
  refine go_callS 8 rfl d20_5 (wd hw 120 rfl) (wd hw 121 rfl) (wd hw 119 rfl) (wd hw 122 rfl) (by decide) (mt49 Z a0 hw h0 zc r99 cl pv SS z0 z1 z2 z3 z4 z5 z6 z7 z8 z9 z10 z11 z12 z13 z14 z15 z16 z17 G hc) (argsL := [(.int (9 : Int32)), (.int (18 : Int32)), r99]) (rest := []) rfl (ps := [.int, .int, (.object "java/util/function/BiFunction")]) (by decide +kernel) rfl rfl 0 rfl (by decide) (by decide) (by decide) (by decide) ?_
  rintro _ _ ⟨rfl, rfl⟩
  show Go B20_48 Z a0 h0 _ 0 0 [] 8 #[.val (.int (9 : Int32)), .val (.int (18 : Int32))] [(.int (9 : Int32))]
  refine go_pop 9 rfl d20_8 rfl rfl ?_
  exact go_return d20_9 rfl rfl (by decide) (by decide) ⟨rfl, rfl⟩
def B19_47 : Bdy := (⟨"java/lang/StringLatin1", "charAt", "([BI)C"⟩, jdk_43_method_2_code, 2, (some .char), ({ frames := 2, cells := 0, slots := 0, locals := 27 } : Room))
theorem mt47 (Z : State) (a0 : Array Value) (hw : ∀ d ∈ tables_1, d.before a0 Z = true) (h0 : Heap) (zc : Int32) (r99 : Value) (cl : Cell) (pv : Addr) (SS : Sts Z h0 zc r99 cl pv) (z0 z1 z2 z3 z4 z5 z6 z7 z8 z9 z10 z11 z12 z13 z14 z15 z16 z17 : Int32) (G : RG z0 z1 z2 z3 z4 z5 z6 z7 z8 z9 z10 z11 z12 z13 z14 z15 z16 z17) (hc : HC z0 z1 z2 z3 z4 z5 z6 z7 z8 z9 z10 z11 z12 z13 z14 z15 z16 z17) (a2 : Addr) :
    Met B19_47 Z a0 h0 #[(.ref a2), (.int (9 : Int32))] (mem21 a2 z0 z1 z2 z3 z4 z5 z6 z7 z8 z9 z10 z11 z12 z13 z14 z15 z16 z17) (Ret (some (.int z9)) (mem21 a2 z0 z1 z2 z3 z4 z5 z6 z7 z8 z9 z10 z11 z12 z13 z14 z15 z16 z17)) := by
  refine Met.of pn19 (ls := #[.val (.ref a2), .val (.int (9 : Int32))]) (fun m => by first | (simp [entryFrame, mkF, argsToLocals, Value.category, B19_47]; done) | rfl) ?_
  show Go B19_47 Z a0 h0 _ 0 0 (mem21 a2 z0 z1 z2 z3 z4 z5 z6 z7 z8 z9 z10 z11 z12 z13 z14 z15 z16 z17) 0 #[.val (.ref a2), .val (.int (9 : Int32))] []
  refine go_iloadN 1 rfl d19_0 rfl ?_
  refine go_aloadN 2 rfl d19_1 rfl rfl ?_
  refine go_alen 0 3 rfl d19_2 rfl rfl ?_
  show Go B19_47 Z a0 h0 _ 0 0 (mem21 a2 z0 z1 z2 z3 z4 z5 z6 z7 z8 z9 z10 z11 z12 z13 z14 z15 z16 z17) 3 #[.val (.ref a2), .val (.int (9 : Int32))] [(.int (18 : Int32)), (.int (9 : Int32))]
  refine go_callS 6 rfl d19_3 (wd hw 115 rfl) (wd hw 116 rfl) (wd hw 35 rfl) (wd hw 117 rfl) (by decide) (Met.frame (mem21 a2 z0 z1 z2 z3 z4 z5 z6 z7 z8 z9 z10 z11 z12 z13 z14 z15 z16 z17) (mt48 Z a0 hw h0 zc r99 cl pv SS z0 z1 z2 z3 z4 z5 z6 z7 z8 z9 z10 z11 z12 z13 z14 z15 z16 z17 G hc)) (argsL := [(.int (9 : Int32)), (.int (18 : Int32))]) (rest := []) rfl (ps := [.int, .int]) (by decide +kernel) rfl rfl 0 rfl (by decide) (by decide) (by decide) (by decide) ?_
  rintro _ _ ⟨_, ⟨rfl, rfl⟩, rfl⟩
  show Go B19_47 Z a0 h0 _ 0 0 (mem21 a2 z0 z1 z2 z3 z4 z5 z6 z7 z8 z9 z10 z11 z12 z13 z14 z15 z16 z17) 6 #[.val (.ref a2), .val (.int (9 : Int32))] []
  refine go_aloadN 7 rfl d19_6 rfl rfl ?_
  refine go_iloadN 8 rfl d19_7 rfl ?_
  refine go_baload 9 rfl d19_8 rfl (Mo.el (i := 0) rfl (by decide) rfl) ?_
  refine go_sipush (255 : Int32) 12 rfl d19_9 rfl ?_
  refine go_iand 13 rfl d19_12 rfl ?_
  refine go_i2c 14 rfl d19_13 rfl ?_
  exact go_ireturn d19_14 rfl (Or.inr (Or.inr (Or.inr (Or.inl rfl)))) rfl (congrArg Value.int (nar_c _)) (by decide) (by decide) (by rw [lat z9 (rg9 G)]; exact ⟨rfl, rfl⟩)
def B17_46 : Bdy := (⟨"java/lang/String", "charAt", "(I)C"⟩, jdk_42_method_56_code, 2, (some .char), ({ frames := 3, cells := 0, slots := 0, locals := 40 } : Room))
theorem mt46 (Z : State) (a0 : Array Value) (hw : ∀ d ∈ tables_1, d.before a0 Z = true) (h0 : Heap) (zc : Int32) (r99 : Value) (cl : Cell) (pv : Addr) (SS : Sts Z h0 zc r99 cl pv) (z0 z1 z2 z3 z4 z5 z6 z7 z8 z9 z10 z11 z12 z13 z14 z15 z16 z17 : Int32) (G : RG z0 z1 z2 z3 z4 z5 z6 z7 z8 z9 z10 z11 z12 z13 z14 z15 z16 z17) (hc : HC z0 z1 z2 z3 z4 z5 z6 z7 z8 z9 z10 z11 z12 z13 z14 z15 z16 z17) (a2 : Addr) (a1 : Addr) :
    Met B17_46 Z a0 h0 #[(.ref a1), (.int (9 : Int32))] (mem20 a2 z0 z1 z2 z3 z4 z5 z6 z7 z8 z9 z10 z11 z12 z13 z14 z15 z16 z17 a1) (Ret (some (.int z9)) (mem20 a2 z0 z1 z2 z3 z4 z5 z6 z7 z8 z9 z10 z11 z12 z13 z14 z15 z16 z17 a1)) := by
  refine Met.of pn17 (ls := #[.val (.ref a1), .val (.int (9 : Int32))]) (fun m => by first | (simp [entryFrame, mkF, argsToLocals, Value.category, B17_46]; done) | rfl) ?_
  show Go B17_46 Z a0 h0 _ 0 0 (mem20 a2 z0 z1 z2 z3 z4 z5 z6 z7 z8 z9 z10 z11 z12 z13 z14 z15 z16 z17 a1) 0 #[.val (.ref a1), .val (.int (9 : Int32))] []
  refine go_aloadN 1 rfl d17_0 rfl rfl ?_
  refine go_callV 4 rfl d17_1 (wd hw 106 rfl) (wd hw 107 rfl) (wd hw 109 rfl) (wd hw 108 rfl) (wd hw 35 rfl) (wd hw 110 rfl) (by decide) (Mo.exa (i := 1) rfl) (mt14 Z a0 hw h0 zc r99 cl pv SS z0 z1 z2 z3 z4 z5 z6 z7 z8 z9 z10 z11 z12 z13 z14 z15 z16 z17 G hc a2 a1) (argsL := []) (rest := []) rfl (ps := []) (by decide +kernel) rfl rfl 0 rfl (by decide) (by decide) (by decide) (by decide) ?_
  rintro _ _ ⟨rfl, rfl⟩
  show Go B17_46 Z a0 h0 _ 0 0 (mem20 a2 z0 z1 z2 z3 z4 z5 z6 z7 z8 z9 z10 z11 z12 z13 z14 z15 z16 z17 a1) 4 #[.val (.ref a1), .val (.int (9 : Int32))] [(.int (1 : Int32))]
  refine go_if 16 7 rfl (by decide) rfl d17_4 rfl (fun (hc4 : (1 : Int) = 0) => absurd hc4 (by decide)) (fun (hc4 : ¬ ((1 : Int) = 0)) => ?_)
  refine go_aloadN 8 rfl d17_7 rfl rfl ?_
  refine go_get 1 0 11 rfl d17_8 rfl rfl rfl (wd hw 60 rfl) ?_
  refine go_iloadN 12 rfl d17_11 rfl ?_
  refine go_callS 15 rfl d17_12 (wd hw 111 rfl) (wd hw 112 rfl) (wd hw 113 rfl) (wd hw 114 rfl) (by decide) (Met.frame [ob a1 "java/lang/String" [("java/lang/String", "value", "[B", (.ref a2)), ("java/lang/String", "coder", "B", (.int (0 : Int32)))]] (mt47 Z a0 hw h0 zc r99 cl pv SS z0 z1 z2 z3 z4 z5 z6 z7 z8 z9 z10 z11 z12 z13 z14 z15 z16 z17 G hc a2)) (argsL := [(.ref a2), (.int (9 : Int32))]) (rest := []) rfl (ps := [(.array .byte), .int]) (by decide +kernel) rfl rfl 0 rfl (by decide) (by decide) (by decide) (by decide) ?_
  rintro _ _ ⟨_, ⟨rfl, rfl⟩, rfl⟩
  show Go B17_46 Z a0 h0 _ 0 0 (mem20 a2 z0 z1 z2 z3 z4 z5 z6 z7 z8 z9 z10 z11 z12 z13 z14 z15 z16 z17 a1) 15 #[.val (.ref a1), .val (.int (9 : Int32))] [(.int z9)]
  exact go_ireturn d17_15 rfl (Or.inr (Or.inr (Or.inr (Or.inl rfl)))) rfl (congrArg Value.int (nar_z z9 (rg9 G))) (by decide) (by decide) ⟨rfl, rfl⟩
def B21_53 : Bdy := (⟨"jdk/internal/util/Preconditions", "checkIndex", "(IILjava/util/function/BiFunction;)I"⟩, jdk_41_method_11_code, 3, (some .int), ({ frames := 0, cells := 0, slots := 0, locals := 0 } : Room))
theorem mt53 (Z : State) (a0 : Array Value) (hw : ∀ d ∈ tables_1, d.before a0 Z = true) (h0 : Heap) (zc : Int32) (r99 : Value) (cl : Cell) (pv : Addr) (SS : Sts Z h0 zc r99 cl pv) (z0 z1 z2 z3 z4 z5 z6 z7 z8 z9 z10 z11 z12 z13 z14 z15 z16 z17 : Int32) (G : RG z0 z1 z2 z3 z4 z5 z6 z7 z8 z9 z10 z11 z12 z13 z14 z15 z16 z17) (hc : HC z0 z1 z2 z3 z4 z5 z6 z7 z8 z9 z10 z11 z12 z13 z14 z15 z16 z17) :
    Met B21_53 Z a0 h0 #[(.int (10 : Int32)), (.int (18 : Int32)), r99] [] (Ret (some (.int (10 : Int32))) []) := by
  refine Met.of pn21 (ls := #[.val (.int (10 : Int32)), .val (.int (18 : Int32)), .val r99]) (fun m => by rcases ref_cases SS.2.2.2.1 with rfl | ⟨_, rfl⟩ <;> first | (simp [entryFrame, mkF, argsToLocals, Value.category, B21_53]; done) | rfl) ?_
  show Go B21_53 Z a0 h0 _ 0 0 [] 0 #[.val (.int (10 : Int32)), .val (.int (18 : Int32)), .val r99] []
  refine go_iloadN 1 rfl d21_0 rfl ?_
  refine go_if 9 4 rfl (by decide) rfl d21_1 rfl (fun (hc1 : (10 : Int) < 0) => absurd hc1 (by decide)) (fun (hc1 : ¬ ((10 : Int) < 0)) => ?_)
  refine go_iloadN 5 rfl d21_4 rfl ?_
  refine go_iloadN 6 rfl d21_5 rfl ?_
  refine go_icmp 16 9 rfl (by decide) rfl d21_6 rfl (fun (hc6 : (10 : Int) < (18 : Int)) => ?_) (fun (hc6 : ¬ ((10 : Int) < (18 : Int))) => absurd hc6 (by decide))
  refine go_iloadN 17 rfl d21_16 rfl ?_
  exact go_ireturn d21_17 rfl (Or.inl rfl) rfl rfl (by decide) (by decide) ⟨rfl, rfl⟩
def B20_52 : Bdy := (⟨"java/lang/String", "checkIndex", "(II)V"⟩, jdk_42_method_155_code, 2, none, ({ frames := 1, cells := 0, slots := 0, locals := 14 } : Room))
theorem mt52 (Z : State) (a0 : Array Value) (hw : ∀ d ∈ tables_1, d.before a0 Z = true) (h0 : Heap) (zc : Int32) (r99 : Value) (cl : Cell) (pv : Addr) (SS : Sts Z h0 zc r99 cl pv) (z0 z1 z2 z3 z4 z5 z6 z7 z8 z9 z10 z11 z12 z13 z14 z15 z16 z17 : Int32) (G : RG z0 z1 z2 z3 z4 z5 z6 z7 z8 z9 z10 z11 z12 z13 z14 z15 z16 z17) (hc : HC z0 z1 z2 z3 z4 z5 z6 z7 z8 z9 z10 z11 z12 z13 z14 z15 z16 z17) :
    Met B20_52 Z a0 h0 #[(.int (10 : Int32)), (.int (18 : Int32))] [] (Ret none []) := by
  refine Met.of pn20 (ls := #[.val (.int (10 : Int32)), .val (.int (18 : Int32))]) (fun m => by first | (simp [entryFrame, mkF, argsToLocals, Value.category, B20_52]; done) | rfl) ?_
  show Go B20_52 Z a0 h0 _ 0 0 [] 0 #[.val (.int (10 : Int32)), .val (.int (18 : Int32))] []
  refine go_iloadN 1 rfl d20_0 rfl ?_
  refine go_iloadN 2 rfl d20_1 rfl ?_
  refine go_getS 5 rfl d20_2 (wd hw 118 rfl) SS.2.2.1 ?_
  refine go_callS 8 rfl d20_5 (wd hw 120 rfl) (wd hw 121 rfl) (wd hw 119 rfl) (wd hw 122 rfl) (by decide) (mt53 Z a0 hw h0 zc r99 cl pv SS z0 z1 z2 z3 z4 z5 z6 z7 z8 z9 z10 z11 z12 z13 z14 z15 z16 z17 G hc) (argsL := [(.int (10 : Int32)), (.int (18 : Int32)), r99]) (rest := []) rfl (ps := [.int, .int, (.object "java/util/function/BiFunction")]) (by decide +kernel) rfl rfl 0 rfl (by decide) (by decide) (by decide) (by decide) ?_
  rintro _ _ ⟨rfl, rfl⟩
  show Go B20_52 Z a0 h0 _ 0 0 [] 8 #[.val (.int (10 : Int32)), .val (.int (18 : Int32))] [(.int (10 : Int32))]
  refine go_pop 9 rfl d20_8 rfl rfl ?_
  exact go_return d20_9 rfl rfl (by decide) (by decide) ⟨rfl, rfl⟩
def B19_51 : Bdy := (⟨"java/lang/StringLatin1", "charAt", "([BI)C"⟩, jdk_43_method_2_code, 2, (some .char), ({ frames := 2, cells := 0, slots := 0, locals := 27 } : Room))
theorem mt51 (Z : State) (a0 : Array Value) (hw : ∀ d ∈ tables_1, d.before a0 Z = true) (h0 : Heap) (zc : Int32) (r99 : Value) (cl : Cell) (pv : Addr) (SS : Sts Z h0 zc r99 cl pv) (z0 z1 z2 z3 z4 z5 z6 z7 z8 z9 z10 z11 z12 z13 z14 z15 z16 z17 : Int32) (G : RG z0 z1 z2 z3 z4 z5 z6 z7 z8 z9 z10 z11 z12 z13 z14 z15 z16 z17) (hc : HC z0 z1 z2 z3 z4 z5 z6 z7 z8 z9 z10 z11 z12 z13 z14 z15 z16 z17) (a2 : Addr) :
    Met B19_51 Z a0 h0 #[(.ref a2), (.int (10 : Int32))] (mem21 a2 z0 z1 z2 z3 z4 z5 z6 z7 z8 z9 z10 z11 z12 z13 z14 z15 z16 z17) (Ret (some (.int z10)) (mem21 a2 z0 z1 z2 z3 z4 z5 z6 z7 z8 z9 z10 z11 z12 z13 z14 z15 z16 z17)) := by
  refine Met.of pn19 (ls := #[.val (.ref a2), .val (.int (10 : Int32))]) (fun m => by first | (simp [entryFrame, mkF, argsToLocals, Value.category, B19_51]; done) | rfl) ?_
  show Go B19_51 Z a0 h0 _ 0 0 (mem21 a2 z0 z1 z2 z3 z4 z5 z6 z7 z8 z9 z10 z11 z12 z13 z14 z15 z16 z17) 0 #[.val (.ref a2), .val (.int (10 : Int32))] []
  refine go_iloadN 1 rfl d19_0 rfl ?_
  refine go_aloadN 2 rfl d19_1 rfl rfl ?_
  refine go_alen 0 3 rfl d19_2 rfl rfl ?_
  show Go B19_51 Z a0 h0 _ 0 0 (mem21 a2 z0 z1 z2 z3 z4 z5 z6 z7 z8 z9 z10 z11 z12 z13 z14 z15 z16 z17) 3 #[.val (.ref a2), .val (.int (10 : Int32))] [(.int (18 : Int32)), (.int (10 : Int32))]
  refine go_callS 6 rfl d19_3 (wd hw 115 rfl) (wd hw 116 rfl) (wd hw 35 rfl) (wd hw 117 rfl) (by decide) (Met.frame (mem21 a2 z0 z1 z2 z3 z4 z5 z6 z7 z8 z9 z10 z11 z12 z13 z14 z15 z16 z17) (mt52 Z a0 hw h0 zc r99 cl pv SS z0 z1 z2 z3 z4 z5 z6 z7 z8 z9 z10 z11 z12 z13 z14 z15 z16 z17 G hc)) (argsL := [(.int (10 : Int32)), (.int (18 : Int32))]) (rest := []) rfl (ps := [.int, .int]) (by decide +kernel) rfl rfl 0 rfl (by decide) (by decide) (by decide) (by decide) ?_
  rintro _ _ ⟨_, ⟨rfl, rfl⟩, rfl⟩
  show Go B19_51 Z a0 h0 _ 0 0 (mem21 a2 z0 z1 z2 z3 z4 z5 z6 z7 z8 z9 z10 z11 z12 z13 z14 z15 z16 z17) 6 #[.val (.ref a2), .val (.int (10 : Int32))] []
  refine go_aloadN 7 rfl d19_6 rfl rfl ?_
  refine go_iloadN 8 rfl d19_7 rfl ?_
  refine go_baload 9 rfl d19_8 rfl (Mo.el (i := 0) rfl (by decide) rfl) ?_
  refine go_sipush (255 : Int32) 12 rfl d19_9 rfl ?_
  refine go_iand 13 rfl d19_12 rfl ?_
  refine go_i2c 14 rfl d19_13 rfl ?_
  exact go_ireturn d19_14 rfl (Or.inr (Or.inr (Or.inr (Or.inl rfl)))) rfl (congrArg Value.int (nar_c _)) (by decide) (by decide) (by rw [lat z10 (rg10 G)]; exact ⟨rfl, rfl⟩)
def B17_50 : Bdy := (⟨"java/lang/String", "charAt", "(I)C"⟩, jdk_42_method_56_code, 2, (some .char), ({ frames := 3, cells := 0, slots := 0, locals := 40 } : Room))
theorem mt50 (Z : State) (a0 : Array Value) (hw : ∀ d ∈ tables_1, d.before a0 Z = true) (h0 : Heap) (zc : Int32) (r99 : Value) (cl : Cell) (pv : Addr) (SS : Sts Z h0 zc r99 cl pv) (z0 z1 z2 z3 z4 z5 z6 z7 z8 z9 z10 z11 z12 z13 z14 z15 z16 z17 : Int32) (G : RG z0 z1 z2 z3 z4 z5 z6 z7 z8 z9 z10 z11 z12 z13 z14 z15 z16 z17) (hc : HC z0 z1 z2 z3 z4 z5 z6 z7 z8 z9 z10 z11 z12 z13 z14 z15 z16 z17) (a2 : Addr) (a1 : Addr) :
    Met B17_50 Z a0 h0 #[(.ref a1), (.int (10 : Int32))] (mem20 a2 z0 z1 z2 z3 z4 z5 z6 z7 z8 z9 z10 z11 z12 z13 z14 z15 z16 z17 a1) (Ret (some (.int z10)) (mem20 a2 z0 z1 z2 z3 z4 z5 z6 z7 z8 z9 z10 z11 z12 z13 z14 z15 z16 z17 a1)) := by
  refine Met.of pn17 (ls := #[.val (.ref a1), .val (.int (10 : Int32))]) (fun m => by first | (simp [entryFrame, mkF, argsToLocals, Value.category, B17_50]; done) | rfl) ?_
  show Go B17_50 Z a0 h0 _ 0 0 (mem20 a2 z0 z1 z2 z3 z4 z5 z6 z7 z8 z9 z10 z11 z12 z13 z14 z15 z16 z17 a1) 0 #[.val (.ref a1), .val (.int (10 : Int32))] []
  refine go_aloadN 1 rfl d17_0 rfl rfl ?_
  refine go_callV 4 rfl d17_1 (wd hw 106 rfl) (wd hw 107 rfl) (wd hw 109 rfl) (wd hw 108 rfl) (wd hw 35 rfl) (wd hw 110 rfl) (by decide) (Mo.exa (i := 1) rfl) (mt14 Z a0 hw h0 zc r99 cl pv SS z0 z1 z2 z3 z4 z5 z6 z7 z8 z9 z10 z11 z12 z13 z14 z15 z16 z17 G hc a2 a1) (argsL := []) (rest := []) rfl (ps := []) (by decide +kernel) rfl rfl 0 rfl (by decide) (by decide) (by decide) (by decide) ?_
  rintro _ _ ⟨rfl, rfl⟩
  show Go B17_50 Z a0 h0 _ 0 0 (mem20 a2 z0 z1 z2 z3 z4 z5 z6 z7 z8 z9 z10 z11 z12 z13 z14 z15 z16 z17 a1) 4 #[.val (.ref a1), .val (.int (10 : Int32))] [(.int (1 : Int32))]
  refine go_if 16 7 rfl (by decide) rfl d17_4 rfl (fun (hc4 : (1 : Int) = 0) => absurd hc4 (by decide)) (fun (hc4 : ¬ ((1 : Int) = 0)) => ?_)
  refine go_aloadN 8 rfl d17_7 rfl rfl ?_
  refine go_get 1 0 11 rfl d17_8 rfl rfl rfl (wd hw 60 rfl) ?_
  refine go_iloadN 12 rfl d17_11 rfl ?_
  refine go_callS 15 rfl d17_12 (wd hw 111 rfl) (wd hw 112 rfl) (wd hw 113 rfl) (wd hw 114 rfl) (by decide) (Met.frame [ob a1 "java/lang/String" [("java/lang/String", "value", "[B", (.ref a2)), ("java/lang/String", "coder", "B", (.int (0 : Int32)))]] (mt51 Z a0 hw h0 zc r99 cl pv SS z0 z1 z2 z3 z4 z5 z6 z7 z8 z9 z10 z11 z12 z13 z14 z15 z16 z17 G hc a2)) (argsL := [(.ref a2), (.int (10 : Int32))]) (rest := []) rfl (ps := [(.array .byte), .int]) (by decide +kernel) rfl rfl 0 rfl (by decide) (by decide) (by decide) (by decide) ?_
  rintro _ _ ⟨_, ⟨rfl, rfl⟩, rfl⟩
  show Go B17_50 Z a0 h0 _ 0 0 (mem20 a2 z0 z1 z2 z3 z4 z5 z6 z7 z8 z9 z10 z11 z12 z13 z14 z15 z16 z17 a1) 15 #[.val (.ref a1), .val (.int (10 : Int32))] [(.int z10)]
  exact go_ireturn d17_15 rfl (Or.inr (Or.inr (Or.inr (Or.inl rfl)))) rfl (congrArg Value.int (nar_z z10 (rg10 G))) (by decide) (by decide) ⟨rfl, rfl⟩
def B21_57 : Bdy := (⟨"jdk/internal/util/Preconditions", "checkIndex", "(IILjava/util/function/BiFunction;)I"⟩, jdk_41_method_11_code, 3, (some .int), ({ frames := 0, cells := 0, slots := 0, locals := 0 } : Room))
theorem mt57 (Z : State) (a0 : Array Value) (hw : ∀ d ∈ tables_1, d.before a0 Z = true) (h0 : Heap) (zc : Int32) (r99 : Value) (cl : Cell) (pv : Addr) (SS : Sts Z h0 zc r99 cl pv) (z0 z1 z2 z3 z4 z5 z6 z7 z8 z9 z10 z11 z12 z13 z14 z15 z16 z17 : Int32) (G : RG z0 z1 z2 z3 z4 z5 z6 z7 z8 z9 z10 z11 z12 z13 z14 z15 z16 z17) (hc : HC z0 z1 z2 z3 z4 z5 z6 z7 z8 z9 z10 z11 z12 z13 z14 z15 z16 z17) :
    Met B21_57 Z a0 h0 #[(.int (11 : Int32)), (.int (18 : Int32)), r99] [] (Ret (some (.int (11 : Int32))) []) := by
  refine Met.of pn21 (ls := #[.val (.int (11 : Int32)), .val (.int (18 : Int32)), .val r99]) (fun m => by rcases ref_cases SS.2.2.2.1 with rfl | ⟨_, rfl⟩ <;> first | (simp [entryFrame, mkF, argsToLocals, Value.category, B21_57]; done) | rfl) ?_
  show Go B21_57 Z a0 h0 _ 0 0 [] 0 #[.val (.int (11 : Int32)), .val (.int (18 : Int32)), .val r99] []
  refine go_iloadN 1 rfl d21_0 rfl ?_
  refine go_if 9 4 rfl (by decide) rfl d21_1 rfl (fun (hc1 : (11 : Int) < 0) => absurd hc1 (by decide)) (fun (hc1 : ¬ ((11 : Int) < 0)) => ?_)
  refine go_iloadN 5 rfl d21_4 rfl ?_
  refine go_iloadN 6 rfl d21_5 rfl ?_
  refine go_icmp 16 9 rfl (by decide) rfl d21_6 rfl (fun (hc6 : (11 : Int) < (18 : Int)) => ?_) (fun (hc6 : ¬ ((11 : Int) < (18 : Int))) => absurd hc6 (by decide))
  refine go_iloadN 17 rfl d21_16 rfl ?_
  exact go_ireturn d21_17 rfl (Or.inl rfl) rfl rfl (by decide) (by decide) ⟨rfl, rfl⟩
def B20_56 : Bdy := (⟨"java/lang/String", "checkIndex", "(II)V"⟩, jdk_42_method_155_code, 2, none, ({ frames := 1, cells := 0, slots := 0, locals := 14 } : Room))
theorem mt56 (Z : State) (a0 : Array Value) (hw : ∀ d ∈ tables_1, d.before a0 Z = true) (h0 : Heap) (zc : Int32) (r99 : Value) (cl : Cell) (pv : Addr) (SS : Sts Z h0 zc r99 cl pv) (z0 z1 z2 z3 z4 z5 z6 z7 z8 z9 z10 z11 z12 z13 z14 z15 z16 z17 : Int32) (G : RG z0 z1 z2 z3 z4 z5 z6 z7 z8 z9 z10 z11 z12 z13 z14 z15 z16 z17) (hc : HC z0 z1 z2 z3 z4 z5 z6 z7 z8 z9 z10 z11 z12 z13 z14 z15 z16 z17) :
    Met B20_56 Z a0 h0 #[(.int (11 : Int32)), (.int (18 : Int32))] [] (Ret none []) := by
  refine Met.of pn20 (ls := #[.val (.int (11 : Int32)), .val (.int (18 : Int32))]) (fun m => by first | (simp [entryFrame, mkF, argsToLocals, Value.category, B20_56]; done) | rfl) ?_
  show Go B20_56 Z a0 h0 _ 0 0 [] 0 #[.val (.int (11 : Int32)), .val (.int (18 : Int32))] []
  refine go_iloadN 1 rfl d20_0 rfl ?_
  refine go_iloadN 2 rfl d20_1 rfl ?_
  refine go_getS 5 rfl d20_2 (wd hw 118 rfl) SS.2.2.1 ?_
  refine go_callS 8 rfl d20_5 (wd hw 120 rfl) (wd hw 121 rfl) (wd hw 119 rfl) (wd hw 122 rfl) (by decide) (mt57 Z a0 hw h0 zc r99 cl pv SS z0 z1 z2 z3 z4 z5 z6 z7 z8 z9 z10 z11 z12 z13 z14 z15 z16 z17 G hc) (argsL := [(.int (11 : Int32)), (.int (18 : Int32)), r99]) (rest := []) rfl (ps := [.int, .int, (.object "java/util/function/BiFunction")]) (by decide +kernel) rfl rfl 0 rfl (by decide) (by decide) (by decide) (by decide) ?_
  rintro _ _ ⟨rfl, rfl⟩
  show Go B20_56 Z a0 h0 _ 0 0 [] 8 #[.val (.int (11 : Int32)), .val (.int (18 : Int32))] [(.int (11 : Int32))]
  refine go_pop 9 rfl d20_8 rfl rfl ?_
  exact go_return d20_9 rfl rfl (by decide) (by decide) ⟨rfl, rfl⟩
def B19_55 : Bdy := (⟨"java/lang/StringLatin1", "charAt", "([BI)C"⟩, jdk_43_method_2_code, 2, (some .char), ({ frames := 2, cells := 0, slots := 0, locals := 27 } : Room))
theorem mt55 (Z : State) (a0 : Array Value) (hw : ∀ d ∈ tables_1, d.before a0 Z = true) (h0 : Heap) (zc : Int32) (r99 : Value) (cl : Cell) (pv : Addr) (SS : Sts Z h0 zc r99 cl pv) (z0 z1 z2 z3 z4 z5 z6 z7 z8 z9 z10 z11 z12 z13 z14 z15 z16 z17 : Int32) (G : RG z0 z1 z2 z3 z4 z5 z6 z7 z8 z9 z10 z11 z12 z13 z14 z15 z16 z17) (hc : HC z0 z1 z2 z3 z4 z5 z6 z7 z8 z9 z10 z11 z12 z13 z14 z15 z16 z17) (a2 : Addr) :
    Met B19_55 Z a0 h0 #[(.ref a2), (.int (11 : Int32))] (mem21 a2 z0 z1 z2 z3 z4 z5 z6 z7 z8 z9 z10 z11 z12 z13 z14 z15 z16 z17) (Ret (some (.int z11)) (mem21 a2 z0 z1 z2 z3 z4 z5 z6 z7 z8 z9 z10 z11 z12 z13 z14 z15 z16 z17)) := by
  refine Met.of pn19 (ls := #[.val (.ref a2), .val (.int (11 : Int32))]) (fun m => by first | (simp [entryFrame, mkF, argsToLocals, Value.category, B19_55]; done) | rfl) ?_
  show Go B19_55 Z a0 h0 _ 0 0 (mem21 a2 z0 z1 z2 z3 z4 z5 z6 z7 z8 z9 z10 z11 z12 z13 z14 z15 z16 z17) 0 #[.val (.ref a2), .val (.int (11 : Int32))] []
  refine go_iloadN 1 rfl d19_0 rfl ?_
  refine go_aloadN 2 rfl d19_1 rfl rfl ?_
  refine go_alen 0 3 rfl d19_2 rfl rfl ?_
  show Go B19_55 Z a0 h0 _ 0 0 (mem21 a2 z0 z1 z2 z3 z4 z5 z6 z7 z8 z9 z10 z11 z12 z13 z14 z15 z16 z17) 3 #[.val (.ref a2), .val (.int (11 : Int32))] [(.int (18 : Int32)), (.int (11 : Int32))]
  refine go_callS 6 rfl d19_3 (wd hw 115 rfl) (wd hw 116 rfl) (wd hw 35 rfl) (wd hw 117 rfl) (by decide) (Met.frame (mem21 a2 z0 z1 z2 z3 z4 z5 z6 z7 z8 z9 z10 z11 z12 z13 z14 z15 z16 z17) (mt56 Z a0 hw h0 zc r99 cl pv SS z0 z1 z2 z3 z4 z5 z6 z7 z8 z9 z10 z11 z12 z13 z14 z15 z16 z17 G hc)) (argsL := [(.int (11 : Int32)), (.int (18 : Int32))]) (rest := []) rfl (ps := [.int, .int]) (by decide +kernel) rfl rfl 0 rfl (by decide) (by decide) (by decide) (by decide) ?_
  rintro _ _ ⟨_, ⟨rfl, rfl⟩, rfl⟩
  show Go B19_55 Z a0 h0 _ 0 0 (mem21 a2 z0 z1 z2 z3 z4 z5 z6 z7 z8 z9 z10 z11 z12 z13 z14 z15 z16 z17) 6 #[.val (.ref a2), .val (.int (11 : Int32))] []
  refine go_aloadN 7 rfl d19_6 rfl rfl ?_
  refine go_iloadN 8 rfl d19_7 rfl ?_
  refine go_baload 9 rfl d19_8 rfl (Mo.el (i := 0) rfl (by decide) rfl) ?_
  refine go_sipush (255 : Int32) 12 rfl d19_9 rfl ?_
  refine go_iand 13 rfl d19_12 rfl ?_
  refine go_i2c 14 rfl d19_13 rfl ?_
  exact go_ireturn d19_14 rfl (Or.inr (Or.inr (Or.inr (Or.inl rfl)))) rfl (congrArg Value.int (nar_c _)) (by decide) (by decide) (by rw [lat z11 (rg11 G)]; exact ⟨rfl, rfl⟩)
def B17_54 : Bdy := (⟨"java/lang/String", "charAt", "(I)C"⟩, jdk_42_method_56_code, 2, (some .char), ({ frames := 3, cells := 0, slots := 0, locals := 40 } : Room))
theorem mt54 (Z : State) (a0 : Array Value) (hw : ∀ d ∈ tables_1, d.before a0 Z = true) (h0 : Heap) (zc : Int32) (r99 : Value) (cl : Cell) (pv : Addr) (SS : Sts Z h0 zc r99 cl pv) (z0 z1 z2 z3 z4 z5 z6 z7 z8 z9 z10 z11 z12 z13 z14 z15 z16 z17 : Int32) (G : RG z0 z1 z2 z3 z4 z5 z6 z7 z8 z9 z10 z11 z12 z13 z14 z15 z16 z17) (hc : HC z0 z1 z2 z3 z4 z5 z6 z7 z8 z9 z10 z11 z12 z13 z14 z15 z16 z17) (a2 : Addr) (a1 : Addr) :
    Met B17_54 Z a0 h0 #[(.ref a1), (.int (11 : Int32))] (mem20 a2 z0 z1 z2 z3 z4 z5 z6 z7 z8 z9 z10 z11 z12 z13 z14 z15 z16 z17 a1) (Ret (some (.int z11)) (mem20 a2 z0 z1 z2 z3 z4 z5 z6 z7 z8 z9 z10 z11 z12 z13 z14 z15 z16 z17 a1)) := by
  refine Met.of pn17 (ls := #[.val (.ref a1), .val (.int (11 : Int32))]) (fun m => by first | (simp [entryFrame, mkF, argsToLocals, Value.category, B17_54]; done) | rfl) ?_
  show Go B17_54 Z a0 h0 _ 0 0 (mem20 a2 z0 z1 z2 z3 z4 z5 z6 z7 z8 z9 z10 z11 z12 z13 z14 z15 z16 z17 a1) 0 #[.val (.ref a1), .val (.int (11 : Int32))] []
  refine go_aloadN 1 rfl d17_0 rfl rfl ?_
  refine go_callV 4 rfl d17_1 (wd hw 106 rfl) (wd hw 107 rfl) (wd hw 109 rfl) (wd hw 108 rfl) (wd hw 35 rfl) (wd hw 110 rfl) (by decide) (Mo.exa (i := 1) rfl) (mt14 Z a0 hw h0 zc r99 cl pv SS z0 z1 z2 z3 z4 z5 z6 z7 z8 z9 z10 z11 z12 z13 z14 z15 z16 z17 G hc a2 a1) (argsL := []) (rest := []) rfl (ps := []) (by decide +kernel) rfl rfl 0 rfl (by decide) (by decide) (by decide) (by decide) ?_
  rintro _ _ ⟨rfl, rfl⟩
  show Go B17_54 Z a0 h0 _ 0 0 (mem20 a2 z0 z1 z2 z3 z4 z5 z6 z7 z8 z9 z10 z11 z12 z13 z14 z15 z16 z17 a1) 4 #[.val (.ref a1), .val (.int (11 : Int32))] [(.int (1 : Int32))]
  refine go_if 16 7 rfl (by decide) rfl d17_4 rfl (fun (hc4 : (1 : Int) = 0) => absurd hc4 (by decide)) (fun (hc4 : ¬ ((1 : Int) = 0)) => ?_)
  refine go_aloadN 8 rfl d17_7 rfl rfl ?_
  refine go_get 1 0 11 rfl d17_8 rfl rfl rfl (wd hw 60 rfl) ?_
  refine go_iloadN 12 rfl d17_11 rfl ?_
  refine go_callS 15 rfl d17_12 (wd hw 111 rfl) (wd hw 112 rfl) (wd hw 113 rfl) (wd hw 114 rfl) (by decide) (Met.frame [ob a1 "java/lang/String" [("java/lang/String", "value", "[B", (.ref a2)), ("java/lang/String", "coder", "B", (.int (0 : Int32)))]] (mt55 Z a0 hw h0 zc r99 cl pv SS z0 z1 z2 z3 z4 z5 z6 z7 z8 z9 z10 z11 z12 z13 z14 z15 z16 z17 G hc a2)) (argsL := [(.ref a2), (.int (11 : Int32))]) (rest := []) rfl (ps := [(.array .byte), .int]) (by decide +kernel) rfl rfl 0 rfl (by decide) (by decide) (by decide) (by decide) ?_
  rintro _ _ ⟨_, ⟨rfl, rfl⟩, rfl⟩
  show Go B17_54 Z a0 h0 _ 0 0 (mem20 a2 z0 z1 z2 z3 z4 z5 z6 z7 z8 z9 z10 z11 z12 z13 z14 z15 z16 z17 a1) 15 #[.val (.ref a1), .val (.int (11 : Int32))] [(.int z11)]
  exact go_ireturn d17_15 rfl (Or.inr (Or.inr (Or.inr (Or.inl rfl)))) rfl (congrArg Value.int (nar_z z11 (rg11 G))) (by decide) (by decide) ⟨rfl, rfl⟩
def B21_61 : Bdy := (⟨"jdk/internal/util/Preconditions", "checkIndex", "(IILjava/util/function/BiFunction;)I"⟩, jdk_41_method_11_code, 3, (some .int), ({ frames := 0, cells := 0, slots := 0, locals := 0 } : Room))
theorem mt61 (Z : State) (a0 : Array Value) (hw : ∀ d ∈ tables_1, d.before a0 Z = true) (h0 : Heap) (zc : Int32) (r99 : Value) (cl : Cell) (pv : Addr) (SS : Sts Z h0 zc r99 cl pv) (z0 z1 z2 z3 z4 z5 z6 z7 z8 z9 z10 z11 z12 z13 z14 z15 z16 z17 : Int32) (G : RG z0 z1 z2 z3 z4 z5 z6 z7 z8 z9 z10 z11 z12 z13 z14 z15 z16 z17) (hc : HC z0 z1 z2 z3 z4 z5 z6 z7 z8 z9 z10 z11 z12 z13 z14 z15 z16 z17) :
    Met B21_61 Z a0 h0 #[(.int (12 : Int32)), (.int (18 : Int32)), r99] [] (Ret (some (.int (12 : Int32))) []) := by
  refine Met.of pn21 (ls := #[.val (.int (12 : Int32)), .val (.int (18 : Int32)), .val r99]) (fun m => by rcases ref_cases SS.2.2.2.1 with rfl | ⟨_, rfl⟩ <;> first | (simp [entryFrame, mkF, argsToLocals, Value.category, B21_61]; done) | rfl) ?_
  show Go B21_61 Z a0 h0 _ 0 0 [] 0 #[.val (.int (12 : Int32)), .val (.int (18 : Int32)), .val r99] []
  refine go_iloadN 1 rfl d21_0 rfl ?_
  refine go_if 9 4 rfl (by decide) rfl d21_1 rfl (fun (hc1 : (12 : Int) < 0) => absurd hc1 (by decide)) (fun (hc1 : ¬ ((12 : Int) < 0)) => ?_)
  refine go_iloadN 5 rfl d21_4 rfl ?_
  refine go_iloadN 6 rfl d21_5 rfl ?_
  refine go_icmp 16 9 rfl (by decide) rfl d21_6 rfl (fun (hc6 : (12 : Int) < (18 : Int)) => ?_) (fun (hc6 : ¬ ((12 : Int) < (18 : Int))) => absurd hc6 (by decide))
  refine go_iloadN 17 rfl d21_16 rfl ?_
  exact go_ireturn d21_17 rfl (Or.inl rfl) rfl rfl (by decide) (by decide) ⟨rfl, rfl⟩
def B20_60 : Bdy := (⟨"java/lang/String", "checkIndex", "(II)V"⟩, jdk_42_method_155_code, 2, none, ({ frames := 1, cells := 0, slots := 0, locals := 14 } : Room))
theorem mt60 (Z : State) (a0 : Array Value) (hw : ∀ d ∈ tables_1, d.before a0 Z = true) (h0 : Heap) (zc : Int32) (r99 : Value) (cl : Cell) (pv : Addr) (SS : Sts Z h0 zc r99 cl pv) (z0 z1 z2 z3 z4 z5 z6 z7 z8 z9 z10 z11 z12 z13 z14 z15 z16 z17 : Int32) (G : RG z0 z1 z2 z3 z4 z5 z6 z7 z8 z9 z10 z11 z12 z13 z14 z15 z16 z17) (hc : HC z0 z1 z2 z3 z4 z5 z6 z7 z8 z9 z10 z11 z12 z13 z14 z15 z16 z17) :
    Met B20_60 Z a0 h0 #[(.int (12 : Int32)), (.int (18 : Int32))] [] (Ret none []) := by
  refine Met.of pn20 (ls := #[.val (.int (12 : Int32)), .val (.int (18 : Int32))]) (fun m => by first | (simp [entryFrame, mkF, argsToLocals, Value.category, B20_60]; done) | rfl) ?_
  show Go B20_60 Z a0 h0 _ 0 0 [] 0 #[.val (.int (12 : Int32)), .val (.int (18 : Int32))] []
  refine go_iloadN 1 rfl d20_0 rfl ?_
  refine go_iloadN 2 rfl d20_1 rfl ?_
  refine go_getS 5 rfl d20_2 (wd hw 118 rfl) SS.2.2.1 ?_
  refine go_callS 8 rfl d20_5 (wd hw 120 rfl) (wd hw 121 rfl) (wd hw 119 rfl) (wd hw 122 rfl) (by decide) (mt61 Z a0 hw h0 zc r99 cl pv SS z0 z1 z2 z3 z4 z5 z6 z7 z8 z9 z10 z11 z12 z13 z14 z15 z16 z17 G hc) (argsL := [(.int (12 : Int32)), (.int (18 : Int32)), r99]) (rest := []) rfl (ps := [.int, .int, (.object "java/util/function/BiFunction")]) (by decide +kernel) rfl rfl 0 rfl (by decide) (by decide) (by decide) (by decide) ?_
  rintro _ _ ⟨rfl, rfl⟩
  show Go B20_60 Z a0 h0 _ 0 0 [] 8 #[.val (.int (12 : Int32)), .val (.int (18 : Int32))] [(.int (12 : Int32))]
  refine go_pop 9 rfl d20_8 rfl rfl ?_
  exact go_return d20_9 rfl rfl (by decide) (by decide) ⟨rfl, rfl⟩
def B19_59 : Bdy := (⟨"java/lang/StringLatin1", "charAt", "([BI)C"⟩, jdk_43_method_2_code, 2, (some .char), ({ frames := 2, cells := 0, slots := 0, locals := 27 } : Room))
theorem mt59 (Z : State) (a0 : Array Value) (hw : ∀ d ∈ tables_1, d.before a0 Z = true) (h0 : Heap) (zc : Int32) (r99 : Value) (cl : Cell) (pv : Addr) (SS : Sts Z h0 zc r99 cl pv) (z0 z1 z2 z3 z4 z5 z6 z7 z8 z9 z10 z11 z12 z13 z14 z15 z16 z17 : Int32) (G : RG z0 z1 z2 z3 z4 z5 z6 z7 z8 z9 z10 z11 z12 z13 z14 z15 z16 z17) (hc : HC z0 z1 z2 z3 z4 z5 z6 z7 z8 z9 z10 z11 z12 z13 z14 z15 z16 z17) (a2 : Addr) :
    Met B19_59 Z a0 h0 #[(.ref a2), (.int (12 : Int32))] (mem21 a2 z0 z1 z2 z3 z4 z5 z6 z7 z8 z9 z10 z11 z12 z13 z14 z15 z16 z17) (Ret (some (.int z12)) (mem21 a2 z0 z1 z2 z3 z4 z5 z6 z7 z8 z9 z10 z11 z12 z13 z14 z15 z16 z17)) := by
  refine Met.of pn19 (ls := #[.val (.ref a2), .val (.int (12 : Int32))]) (fun m => by first | (simp [entryFrame, mkF, argsToLocals, Value.category, B19_59]; done) | rfl) ?_
  show Go B19_59 Z a0 h0 _ 0 0 (mem21 a2 z0 z1 z2 z3 z4 z5 z6 z7 z8 z9 z10 z11 z12 z13 z14 z15 z16 z17) 0 #[.val (.ref a2), .val (.int (12 : Int32))] []
  refine go_iloadN 1 rfl d19_0 rfl ?_
  refine go_aloadN 2 rfl d19_1 rfl rfl ?_
  refine go_alen 0 3 rfl d19_2 rfl rfl ?_
  show Go B19_59 Z a0 h0 _ 0 0 (mem21 a2 z0 z1 z2 z3 z4 z5 z6 z7 z8 z9 z10 z11 z12 z13 z14 z15 z16 z17) 3 #[.val (.ref a2), .val (.int (12 : Int32))] [(.int (18 : Int32)), (.int (12 : Int32))]
  refine go_callS 6 rfl d19_3 (wd hw 115 rfl) (wd hw 116 rfl) (wd hw 35 rfl) (wd hw 117 rfl) (by decide) (Met.frame (mem21 a2 z0 z1 z2 z3 z4 z5 z6 z7 z8 z9 z10 z11 z12 z13 z14 z15 z16 z17) (mt60 Z a0 hw h0 zc r99 cl pv SS z0 z1 z2 z3 z4 z5 z6 z7 z8 z9 z10 z11 z12 z13 z14 z15 z16 z17 G hc)) (argsL := [(.int (12 : Int32)), (.int (18 : Int32))]) (rest := []) rfl (ps := [.int, .int]) (by decide +kernel) rfl rfl 0 rfl (by decide) (by decide) (by decide) (by decide) ?_
  rintro _ _ ⟨_, ⟨rfl, rfl⟩, rfl⟩
  show Go B19_59 Z a0 h0 _ 0 0 (mem21 a2 z0 z1 z2 z3 z4 z5 z6 z7 z8 z9 z10 z11 z12 z13 z14 z15 z16 z17) 6 #[.val (.ref a2), .val (.int (12 : Int32))] []
  refine go_aloadN 7 rfl d19_6 rfl rfl ?_
  refine go_iloadN 8 rfl d19_7 rfl ?_
  refine go_baload 9 rfl d19_8 rfl (Mo.el (i := 0) rfl (by decide) rfl) ?_
  refine go_sipush (255 : Int32) 12 rfl d19_9 rfl ?_
  refine go_iand 13 rfl d19_12 rfl ?_
  refine go_i2c 14 rfl d19_13 rfl ?_
  exact go_ireturn d19_14 rfl (Or.inr (Or.inr (Or.inr (Or.inl rfl)))) rfl (congrArg Value.int (nar_c _)) (by decide) (by decide) (by rw [lat z12 (rg12 G)]; exact ⟨rfl, rfl⟩)
def B17_58 : Bdy := (⟨"java/lang/String", "charAt", "(I)C"⟩, jdk_42_method_56_code, 2, (some .char), ({ frames := 3, cells := 0, slots := 0, locals := 40 } : Room))
theorem mt58 (Z : State) (a0 : Array Value) (hw : ∀ d ∈ tables_1, d.before a0 Z = true) (h0 : Heap) (zc : Int32) (r99 : Value) (cl : Cell) (pv : Addr) (SS : Sts Z h0 zc r99 cl pv) (z0 z1 z2 z3 z4 z5 z6 z7 z8 z9 z10 z11 z12 z13 z14 z15 z16 z17 : Int32) (G : RG z0 z1 z2 z3 z4 z5 z6 z7 z8 z9 z10 z11 z12 z13 z14 z15 z16 z17) (hc : HC z0 z1 z2 z3 z4 z5 z6 z7 z8 z9 z10 z11 z12 z13 z14 z15 z16 z17) (a2 : Addr) (a1 : Addr) :
    Met B17_58 Z a0 h0 #[(.ref a1), (.int (12 : Int32))] (mem20 a2 z0 z1 z2 z3 z4 z5 z6 z7 z8 z9 z10 z11 z12 z13 z14 z15 z16 z17 a1) (Ret (some (.int z12)) (mem20 a2 z0 z1 z2 z3 z4 z5 z6 z7 z8 z9 z10 z11 z12 z13 z14 z15 z16 z17 a1)) := by
  refine Met.of pn17 (ls := #[.val (.ref a1), .val (.int (12 : Int32))]) (fun m => by first | (simp [entryFrame, mkF, argsToLocals, Value.category, B17_58]; done) | rfl) ?_
  show Go B17_58 Z a0 h0 _ 0 0 (mem20 a2 z0 z1 z2 z3 z4 z5 z6 z7 z8 z9 z10 z11 z12 z13 z14 z15 z16 z17 a1) 0 #[.val (.ref a1), .val (.int (12 : Int32))] []
  refine go_aloadN 1 rfl d17_0 rfl rfl ?_
  refine go_callV 4 rfl d17_1 (wd hw 106 rfl) (wd hw 107 rfl) (wd hw 109 rfl) (wd hw 108 rfl) (wd hw 35 rfl) (wd hw 110 rfl) (by decide) (Mo.exa (i := 1) rfl) (mt14 Z a0 hw h0 zc r99 cl pv SS z0 z1 z2 z3 z4 z5 z6 z7 z8 z9 z10 z11 z12 z13 z14 z15 z16 z17 G hc a2 a1) (argsL := []) (rest := []) rfl (ps := []) (by decide +kernel) rfl rfl 0 rfl (by decide) (by decide) (by decide) (by decide) ?_
  rintro _ _ ⟨rfl, rfl⟩
  show Go B17_58 Z a0 h0 _ 0 0 (mem20 a2 z0 z1 z2 z3 z4 z5 z6 z7 z8 z9 z10 z11 z12 z13 z14 z15 z16 z17 a1) 4 #[.val (.ref a1), .val (.int (12 : Int32))] [(.int (1 : Int32))]
  refine go_if 16 7 rfl (by decide) rfl d17_4 rfl (fun (hc4 : (1 : Int) = 0) => absurd hc4 (by decide)) (fun (hc4 : ¬ ((1 : Int) = 0)) => ?_)
  refine go_aloadN 8 rfl d17_7 rfl rfl ?_
  refine go_get 1 0 11 rfl d17_8 rfl rfl rfl (wd hw 60 rfl) ?_
  refine go_iloadN 12 rfl d17_11 rfl ?_
  refine go_callS 15 rfl d17_12 (wd hw 111 rfl) (wd hw 112 rfl) (wd hw 113 rfl) (wd hw 114 rfl) (by decide) (Met.frame [ob a1 "java/lang/String" [("java/lang/String", "value", "[B", (.ref a2)), ("java/lang/String", "coder", "B", (.int (0 : Int32)))]] (mt59 Z a0 hw h0 zc r99 cl pv SS z0 z1 z2 z3 z4 z5 z6 z7 z8 z9 z10 z11 z12 z13 z14 z15 z16 z17 G hc a2)) (argsL := [(.ref a2), (.int (12 : Int32))]) (rest := []) rfl (ps := [(.array .byte), .int]) (by decide +kernel) rfl rfl 0 rfl (by decide) (by decide) (by decide) (by decide) ?_
  rintro _ _ ⟨_, ⟨rfl, rfl⟩, rfl⟩
  show Go B17_58 Z a0 h0 _ 0 0 (mem20 a2 z0 z1 z2 z3 z4 z5 z6 z7 z8 z9 z10 z11 z12 z13 z14 z15 z16 z17 a1) 15 #[.val (.ref a1), .val (.int (12 : Int32))] [(.int z12)]
  exact go_ireturn d17_15 rfl (Or.inr (Or.inr (Or.inr (Or.inl rfl)))) rfl (congrArg Value.int (nar_z z12 (rg12 G))) (by decide) (by decide) ⟨rfl, rfl⟩
def B21_65 : Bdy := (⟨"jdk/internal/util/Preconditions", "checkIndex", "(IILjava/util/function/BiFunction;)I"⟩, jdk_41_method_11_code, 3, (some .int), ({ frames := 0, cells := 0, slots := 0, locals := 0 } : Room))
theorem mt65 (Z : State) (a0 : Array Value) (hw : ∀ d ∈ tables_1, d.before a0 Z = true) (h0 : Heap) (zc : Int32) (r99 : Value) (cl : Cell) (pv : Addr) (SS : Sts Z h0 zc r99 cl pv) (z0 z1 z2 z3 z4 z5 z6 z7 z8 z9 z10 z11 z12 z13 z14 z15 z16 z17 : Int32) (G : RG z0 z1 z2 z3 z4 z5 z6 z7 z8 z9 z10 z11 z12 z13 z14 z15 z16 z17) (hc : HC z0 z1 z2 z3 z4 z5 z6 z7 z8 z9 z10 z11 z12 z13 z14 z15 z16 z17) :
    Met B21_65 Z a0 h0 #[(.int (13 : Int32)), (.int (18 : Int32)), r99] [] (Ret (some (.int (13 : Int32))) []) := by
  refine Met.of pn21 (ls := #[.val (.int (13 : Int32)), .val (.int (18 : Int32)), .val r99]) (fun m => by rcases ref_cases SS.2.2.2.1 with rfl | ⟨_, rfl⟩ <;> first | (simp [entryFrame, mkF, argsToLocals, Value.category, B21_65]; done) | rfl) ?_
  show Go B21_65 Z a0 h0 _ 0 0 [] 0 #[.val (.int (13 : Int32)), .val (.int (18 : Int32)), .val r99] []
  refine go_iloadN 1 rfl d21_0 rfl ?_
  refine go_if 9 4 rfl (by decide) rfl d21_1 rfl (fun (hc1 : (13 : Int) < 0) => absurd hc1 (by decide)) (fun (hc1 : ¬ ((13 : Int) < 0)) => ?_)
  refine go_iloadN 5 rfl d21_4 rfl ?_
  refine go_iloadN 6 rfl d21_5 rfl ?_
  refine go_icmp 16 9 rfl (by decide) rfl d21_6 rfl (fun (hc6 : (13 : Int) < (18 : Int)) => ?_) (fun (hc6 : ¬ ((13 : Int) < (18 : Int))) => absurd hc6 (by decide))
  refine go_iloadN 17 rfl d21_16 rfl ?_
  exact go_ireturn d21_17 rfl (Or.inl rfl) rfl rfl (by decide) (by decide) ⟨rfl, rfl⟩
def B20_64 : Bdy := (⟨"java/lang/String", "checkIndex", "(II)V"⟩, jdk_42_method_155_code, 2, none, ({ frames := 1, cells := 0, slots := 0, locals := 14 } : Room))
theorem mt64 (Z : State) (a0 : Array Value) (hw : ∀ d ∈ tables_1, d.before a0 Z = true) (h0 : Heap) (zc : Int32) (r99 : Value) (cl : Cell) (pv : Addr) (SS : Sts Z h0 zc r99 cl pv) (z0 z1 z2 z3 z4 z5 z6 z7 z8 z9 z10 z11 z12 z13 z14 z15 z16 z17 : Int32) (G : RG z0 z1 z2 z3 z4 z5 z6 z7 z8 z9 z10 z11 z12 z13 z14 z15 z16 z17) (hc : HC z0 z1 z2 z3 z4 z5 z6 z7 z8 z9 z10 z11 z12 z13 z14 z15 z16 z17) :
    Met B20_64 Z a0 h0 #[(.int (13 : Int32)), (.int (18 : Int32))] [] (Ret none []) := by
  refine Met.of pn20 (ls := #[.val (.int (13 : Int32)), .val (.int (18 : Int32))]) (fun m => by first | (simp [entryFrame, mkF, argsToLocals, Value.category, B20_64]; done) | rfl) ?_
  show Go B20_64 Z a0 h0 _ 0 0 [] 0 #[.val (.int (13 : Int32)), .val (.int (18 : Int32))] []
  refine go_iloadN 1 rfl d20_0 rfl ?_
  refine go_iloadN 2 rfl d20_1 rfl ?_
  refine go_getS 5 rfl d20_2 (wd hw 118 rfl) SS.2.2.1 ?_
  refine go_callS 8 rfl d20_5 (wd hw 120 rfl) (wd hw 121 rfl) (wd hw 119 rfl) (wd hw 122 rfl) (by decide) (mt65 Z a0 hw h0 zc r99 cl pv SS z0 z1 z2 z3 z4 z5 z6 z7 z8 z9 z10 z11 z12 z13 z14 z15 z16 z17 G hc) (argsL := [(.int (13 : Int32)), (.int (18 : Int32)), r99]) (rest := []) rfl (ps := [.int, .int, (.object "java/util/function/BiFunction")]) (by decide +kernel) rfl rfl 0 rfl (by decide) (by decide) (by decide) (by decide) ?_
  rintro _ _ ⟨rfl, rfl⟩
  show Go B20_64 Z a0 h0 _ 0 0 [] 8 #[.val (.int (13 : Int32)), .val (.int (18 : Int32))] [(.int (13 : Int32))]
  refine go_pop 9 rfl d20_8 rfl rfl ?_
  exact go_return d20_9 rfl rfl (by decide) (by decide) ⟨rfl, rfl⟩
def B19_63 : Bdy := (⟨"java/lang/StringLatin1", "charAt", "([BI)C"⟩, jdk_43_method_2_code, 2, (some .char), ({ frames := 2, cells := 0, slots := 0, locals := 27 } : Room))
theorem mt63 (Z : State) (a0 : Array Value) (hw : ∀ d ∈ tables_1, d.before a0 Z = true) (h0 : Heap) (zc : Int32) (r99 : Value) (cl : Cell) (pv : Addr) (SS : Sts Z h0 zc r99 cl pv) (z0 z1 z2 z3 z4 z5 z6 z7 z8 z9 z10 z11 z12 z13 z14 z15 z16 z17 : Int32) (G : RG z0 z1 z2 z3 z4 z5 z6 z7 z8 z9 z10 z11 z12 z13 z14 z15 z16 z17) (hc : HC z0 z1 z2 z3 z4 z5 z6 z7 z8 z9 z10 z11 z12 z13 z14 z15 z16 z17) (a2 : Addr) :
    Met B19_63 Z a0 h0 #[(.ref a2), (.int (13 : Int32))] (mem21 a2 z0 z1 z2 z3 z4 z5 z6 z7 z8 z9 z10 z11 z12 z13 z14 z15 z16 z17) (Ret (some (.int z13)) (mem21 a2 z0 z1 z2 z3 z4 z5 z6 z7 z8 z9 z10 z11 z12 z13 z14 z15 z16 z17)) := by
  refine Met.of pn19 (ls := #[.val (.ref a2), .val (.int (13 : Int32))]) (fun m => by first | (simp [entryFrame, mkF, argsToLocals, Value.category, B19_63]; done) | rfl) ?_
  show Go B19_63 Z a0 h0 _ 0 0 (mem21 a2 z0 z1 z2 z3 z4 z5 z6 z7 z8 z9 z10 z11 z12 z13 z14 z15 z16 z17) 0 #[.val (.ref a2), .val (.int (13 : Int32))] []
  refine go_iloadN 1 rfl d19_0 rfl ?_
  refine go_aloadN 2 rfl d19_1 rfl rfl ?_
  refine go_alen 0 3 rfl d19_2 rfl rfl ?_
  show Go B19_63 Z a0 h0 _ 0 0 (mem21 a2 z0 z1 z2 z3 z4 z5 z6 z7 z8 z9 z10 z11 z12 z13 z14 z15 z16 z17) 3 #[.val (.ref a2), .val (.int (13 : Int32))] [(.int (18 : Int32)), (.int (13 : Int32))]
  refine go_callS 6 rfl d19_3 (wd hw 115 rfl) (wd hw 116 rfl) (wd hw 35 rfl) (wd hw 117 rfl) (by decide) (Met.frame (mem21 a2 z0 z1 z2 z3 z4 z5 z6 z7 z8 z9 z10 z11 z12 z13 z14 z15 z16 z17) (mt64 Z a0 hw h0 zc r99 cl pv SS z0 z1 z2 z3 z4 z5 z6 z7 z8 z9 z10 z11 z12 z13 z14 z15 z16 z17 G hc)) (argsL := [(.int (13 : Int32)), (.int (18 : Int32))]) (rest := []) rfl (ps := [.int, .int]) (by decide +kernel) rfl rfl 0 rfl (by decide) (by decide) (by decide) (by decide) ?_
  rintro _ _ ⟨_, ⟨rfl, rfl⟩, rfl⟩
  show Go B19_63 Z a0 h0 _ 0 0 (mem21 a2 z0 z1 z2 z3 z4 z5 z6 z7 z8 z9 z10 z11 z12 z13 z14 z15 z16 z17) 6 #[.val (.ref a2), .val (.int (13 : Int32))] []
  refine go_aloadN 7 rfl d19_6 rfl rfl ?_
  refine go_iloadN 8 rfl d19_7 rfl ?_
  refine go_baload 9 rfl d19_8 rfl (Mo.el (i := 0) rfl (by decide) rfl) ?_
  refine go_sipush (255 : Int32) 12 rfl d19_9 rfl ?_
  refine go_iand 13 rfl d19_12 rfl ?_
  refine go_i2c 14 rfl d19_13 rfl ?_
  exact go_ireturn d19_14 rfl (Or.inr (Or.inr (Or.inr (Or.inl rfl)))) rfl (congrArg Value.int (nar_c _)) (by decide) (by decide) (by rw [lat z13 (rg13 G)]; exact ⟨rfl, rfl⟩)
def B17_62 : Bdy := (⟨"java/lang/String", "charAt", "(I)C"⟩, jdk_42_method_56_code, 2, (some .char), ({ frames := 3, cells := 0, slots := 0, locals := 40 } : Room))
theorem mt62 (Z : State) (a0 : Array Value) (hw : ∀ d ∈ tables_1, d.before a0 Z = true) (h0 : Heap) (zc : Int32) (r99 : Value) (cl : Cell) (pv : Addr) (SS : Sts Z h0 zc r99 cl pv) (z0 z1 z2 z3 z4 z5 z6 z7 z8 z9 z10 z11 z12 z13 z14 z15 z16 z17 : Int32) (G : RG z0 z1 z2 z3 z4 z5 z6 z7 z8 z9 z10 z11 z12 z13 z14 z15 z16 z17) (hc : HC z0 z1 z2 z3 z4 z5 z6 z7 z8 z9 z10 z11 z12 z13 z14 z15 z16 z17) (a2 : Addr) (a1 : Addr) :
    Met B17_62 Z a0 h0 #[(.ref a1), (.int (13 : Int32))] (mem20 a2 z0 z1 z2 z3 z4 z5 z6 z7 z8 z9 z10 z11 z12 z13 z14 z15 z16 z17 a1) (Ret (some (.int z13)) (mem20 a2 z0 z1 z2 z3 z4 z5 z6 z7 z8 z9 z10 z11 z12 z13 z14 z15 z16 z17 a1)) := by
  refine Met.of pn17 (ls := #[.val (.ref a1), .val (.int (13 : Int32))]) (fun m => by first | (simp [entryFrame, mkF, argsToLocals, Value.category, B17_62]; done) | rfl) ?_
  show Go B17_62 Z a0 h0 _ 0 0 (mem20 a2 z0 z1 z2 z3 z4 z5 z6 z7 z8 z9 z10 z11 z12 z13 z14 z15 z16 z17 a1) 0 #[.val (.ref a1), .val (.int (13 : Int32))] []
  refine go_aloadN 1 rfl d17_0 rfl rfl ?_
  refine go_callV 4 rfl d17_1 (wd hw 106 rfl) (wd hw 107 rfl) (wd hw 109 rfl) (wd hw 108 rfl) (wd hw 35 rfl) (wd hw 110 rfl) (by decide) (Mo.exa (i := 1) rfl) (mt14 Z a0 hw h0 zc r99 cl pv SS z0 z1 z2 z3 z4 z5 z6 z7 z8 z9 z10 z11 z12 z13 z14 z15 z16 z17 G hc a2 a1) (argsL := []) (rest := []) rfl (ps := []) (by decide +kernel) rfl rfl 0 rfl (by decide) (by decide) (by decide) (by decide) ?_
  rintro _ _ ⟨rfl, rfl⟩
  show Go B17_62 Z a0 h0 _ 0 0 (mem20 a2 z0 z1 z2 z3 z4 z5 z6 z7 z8 z9 z10 z11 z12 z13 z14 z15 z16 z17 a1) 4 #[.val (.ref a1), .val (.int (13 : Int32))] [(.int (1 : Int32))]
  refine go_if 16 7 rfl (by decide) rfl d17_4 rfl (fun (hc4 : (1 : Int) = 0) => absurd hc4 (by decide)) (fun (hc4 : ¬ ((1 : Int) = 0)) => ?_)
  refine go_aloadN 8 rfl d17_7 rfl rfl ?_
  refine go_get 1 0 11 rfl d17_8 rfl rfl rfl (wd hw 60 rfl) ?_
  refine go_iloadN 12 rfl d17_11 rfl ?_
  refine go_callS 15 rfl d17_12 (wd hw 111 rfl) (wd hw 112 rfl) (wd hw 113 rfl) (wd hw 114 rfl) (by decide) (Met.frame [ob a1 "java/lang/String" [("java/lang/String", "value", "[B", (.ref a2)), ("java/lang/String", "coder", "B", (.int (0 : Int32)))]] (mt63 Z a0 hw h0 zc r99 cl pv SS z0 z1 z2 z3 z4 z5 z6 z7 z8 z9 z10 z11 z12 z13 z14 z15 z16 z17 G hc a2)) (argsL := [(.ref a2), (.int (13 : Int32))]) (rest := []) rfl (ps := [(.array .byte), .int]) (by decide +kernel) rfl rfl 0 rfl (by decide) (by decide) (by decide) (by decide) ?_
  rintro _ _ ⟨_, ⟨rfl, rfl⟩, rfl⟩
  show Go B17_62 Z a0 h0 _ 0 0 (mem20 a2 z0 z1 z2 z3 z4 z5 z6 z7 z8 z9 z10 z11 z12 z13 z14 z15 z16 z17 a1) 15 #[.val (.ref a1), .val (.int (13 : Int32))] [(.int z13)]
  exact go_ireturn d17_15 rfl (Or.inr (Or.inr (Or.inr (Or.inl rfl)))) rfl (congrArg Value.int (nar_z z13 (rg13 G))) (by decide) (by decide) ⟨rfl, rfl⟩
def B21_69 : Bdy := (⟨"jdk/internal/util/Preconditions", "checkIndex", "(IILjava/util/function/BiFunction;)I"⟩, jdk_41_method_11_code, 3, (some .int), ({ frames := 0, cells := 0, slots := 0, locals := 0 } : Room))
theorem mt69 (Z : State) (a0 : Array Value) (hw : ∀ d ∈ tables_1, d.before a0 Z = true) (h0 : Heap) (zc : Int32) (r99 : Value) (cl : Cell) (pv : Addr) (SS : Sts Z h0 zc r99 cl pv) (z0 z1 z2 z3 z4 z5 z6 z7 z8 z9 z10 z11 z12 z13 z14 z15 z16 z17 : Int32) (G : RG z0 z1 z2 z3 z4 z5 z6 z7 z8 z9 z10 z11 z12 z13 z14 z15 z16 z17) (hc : HC z0 z1 z2 z3 z4 z5 z6 z7 z8 z9 z10 z11 z12 z13 z14 z15 z16 z17) :
    Met B21_69 Z a0 h0 #[(.int (14 : Int32)), (.int (18 : Int32)), r99] [] (Ret (some (.int (14 : Int32))) []) := by
  refine Met.of pn21 (ls := #[.val (.int (14 : Int32)), .val (.int (18 : Int32)), .val r99]) (fun m => by rcases ref_cases SS.2.2.2.1 with rfl | ⟨_, rfl⟩ <;> first | (simp [entryFrame, mkF, argsToLocals, Value.category, B21_69]; done) | rfl) ?_
  show Go B21_69 Z a0 h0 _ 0 0 [] 0 #[.val (.int (14 : Int32)), .val (.int (18 : Int32)), .val r99] []
  refine go_iloadN 1 rfl d21_0 rfl ?_
  refine go_if 9 4 rfl (by decide) rfl d21_1 rfl (fun (hc1 : (14 : Int) < 0) => absurd hc1 (by decide)) (fun (hc1 : ¬ ((14 : Int) < 0)) => ?_)
  refine go_iloadN 5 rfl d21_4 rfl ?_
  refine go_iloadN 6 rfl d21_5 rfl ?_
  refine go_icmp 16 9 rfl (by decide) rfl d21_6 rfl (fun (hc6 : (14 : Int) < (18 : Int)) => ?_) (fun (hc6 : ¬ ((14 : Int) < (18 : Int))) => absurd hc6 (by decide))
  refine go_iloadN 17 rfl d21_16 rfl ?_
  exact go_ireturn d21_17 rfl (Or.inl rfl) rfl rfl (by decide) (by decide) ⟨rfl, rfl⟩
def B20_68 : Bdy := (⟨"java/lang/String", "checkIndex", "(II)V"⟩, jdk_42_method_155_code, 2, none, ({ frames := 1, cells := 0, slots := 0, locals := 14 } : Room))
theorem mt68 (Z : State) (a0 : Array Value) (hw : ∀ d ∈ tables_1, d.before a0 Z = true) (h0 : Heap) (zc : Int32) (r99 : Value) (cl : Cell) (pv : Addr) (SS : Sts Z h0 zc r99 cl pv) (z0 z1 z2 z3 z4 z5 z6 z7 z8 z9 z10 z11 z12 z13 z14 z15 z16 z17 : Int32) (G : RG z0 z1 z2 z3 z4 z5 z6 z7 z8 z9 z10 z11 z12 z13 z14 z15 z16 z17) (hc : HC z0 z1 z2 z3 z4 z5 z6 z7 z8 z9 z10 z11 z12 z13 z14 z15 z16 z17) :
    Met B20_68 Z a0 h0 #[(.int (14 : Int32)), (.int (18 : Int32))] [] (Ret none []) := by
  refine Met.of pn20 (ls := #[.val (.int (14 : Int32)), .val (.int (18 : Int32))]) (fun m => by first | (simp [entryFrame, mkF, argsToLocals, Value.category, B20_68]; done) | rfl) ?_
  show Go B20_68 Z a0 h0 _ 0 0 [] 0 #[.val (.int (14 : Int32)), .val (.int (18 : Int32))] []
  refine go_iloadN 1 rfl d20_0 rfl ?_
  refine go_iloadN 2 rfl d20_1 rfl ?_
  refine go_getS 5 rfl d20_2 (wd hw 118 rfl) SS.2.2.1 ?_
  refine go_callS 8 rfl d20_5 (wd hw 120 rfl) (wd hw 121 rfl) (wd hw 119 rfl) (wd hw 122 rfl) (by decide) (mt69 Z a0 hw h0 zc r99 cl pv SS z0 z1 z2 z3 z4 z5 z6 z7 z8 z9 z10 z11 z12 z13 z14 z15 z16 z17 G hc) (argsL := [(.int (14 : Int32)), (.int (18 : Int32)), r99]) (rest := []) rfl (ps := [.int, .int, (.object "java/util/function/BiFunction")]) (by decide +kernel) rfl rfl 0 rfl (by decide) (by decide) (by decide) (by decide) ?_
  rintro _ _ ⟨rfl, rfl⟩
  show Go B20_68 Z a0 h0 _ 0 0 [] 8 #[.val (.int (14 : Int32)), .val (.int (18 : Int32))] [(.int (14 : Int32))]
  refine go_pop 9 rfl d20_8 rfl rfl ?_
  exact go_return d20_9 rfl rfl (by decide) (by decide) ⟨rfl, rfl⟩
def B19_67 : Bdy := (⟨"java/lang/StringLatin1", "charAt", "([BI)C"⟩, jdk_43_method_2_code, 2, (some .char), ({ frames := 2, cells := 0, slots := 0, locals := 27 } : Room))
theorem mt67 (Z : State) (a0 : Array Value) (hw : ∀ d ∈ tables_1, d.before a0 Z = true) (h0 : Heap) (zc : Int32) (r99 : Value) (cl : Cell) (pv : Addr) (SS : Sts Z h0 zc r99 cl pv) (z0 z1 z2 z3 z4 z5 z6 z7 z8 z9 z10 z11 z12 z13 z14 z15 z16 z17 : Int32) (G : RG z0 z1 z2 z3 z4 z5 z6 z7 z8 z9 z10 z11 z12 z13 z14 z15 z16 z17) (hc : HC z0 z1 z2 z3 z4 z5 z6 z7 z8 z9 z10 z11 z12 z13 z14 z15 z16 z17) (a2 : Addr) :
    Met B19_67 Z a0 h0 #[(.ref a2), (.int (14 : Int32))] (mem21 a2 z0 z1 z2 z3 z4 z5 z6 z7 z8 z9 z10 z11 z12 z13 z14 z15 z16 z17) (Ret (some (.int z14)) (mem21 a2 z0 z1 z2 z3 z4 z5 z6 z7 z8 z9 z10 z11 z12 z13 z14 z15 z16 z17)) := by
  refine Met.of pn19 (ls := #[.val (.ref a2), .val (.int (14 : Int32))]) (fun m => by first | (simp [entryFrame, mkF, argsToLocals, Value.category, B19_67]; done) | rfl) ?_
  show Go B19_67 Z a0 h0 _ 0 0 (mem21 a2 z0 z1 z2 z3 z4 z5 z6 z7 z8 z9 z10 z11 z12 z13 z14 z15 z16 z17) 0 #[.val (.ref a2), .val (.int (14 : Int32))] []
  refine go_iloadN 1 rfl d19_0 rfl ?_
  refine go_aloadN 2 rfl d19_1 rfl rfl ?_
  refine go_alen 0 3 rfl d19_2 rfl rfl ?_
  show Go B19_67 Z a0 h0 _ 0 0 (mem21 a2 z0 z1 z2 z3 z4 z5 z6 z7 z8 z9 z10 z11 z12 z13 z14 z15 z16 z17) 3 #[.val (.ref a2), .val (.int (14 : Int32))] [(.int (18 : Int32)), (.int (14 : Int32))]
  refine go_callS 6 rfl d19_3 (wd hw 115 rfl) (wd hw 116 rfl) (wd hw 35 rfl) (wd hw 117 rfl) (by decide) (Met.frame (mem21 a2 z0 z1 z2 z3 z4 z5 z6 z7 z8 z9 z10 z11 z12 z13 z14 z15 z16 z17) (mt68 Z a0 hw h0 zc r99 cl pv SS z0 z1 z2 z3 z4 z5 z6 z7 z8 z9 z10 z11 z12 z13 z14 z15 z16 z17 G hc)) (argsL := [(.int (14 : Int32)), (.int (18 : Int32))]) (rest := []) rfl (ps := [.int, .int]) (by decide +kernel) rfl rfl 0 rfl (by decide) (by decide) (by decide) (by decide) ?_
  rintro _ _ ⟨_, ⟨rfl, rfl⟩, rfl⟩
  show Go B19_67 Z a0 h0 _ 0 0 (mem21 a2 z0 z1 z2 z3 z4 z5 z6 z7 z8 z9 z10 z11 z12 z13 z14 z15 z16 z17) 6 #[.val (.ref a2), .val (.int (14 : Int32))] []
  refine go_aloadN 7 rfl d19_6 rfl rfl ?_
  refine go_iloadN 8 rfl d19_7 rfl ?_
  refine go_baload 9 rfl d19_8 rfl (Mo.el (i := 0) rfl (by decide) rfl) ?_
  refine go_sipush (255 : Int32) 12 rfl d19_9 rfl ?_
  refine go_iand 13 rfl d19_12 rfl ?_
  refine go_i2c 14 rfl d19_13 rfl ?_
  exact go_ireturn d19_14 rfl (Or.inr (Or.inr (Or.inr (Or.inl rfl)))) rfl (congrArg Value.int (nar_c _)) (by decide) (by decide) (by rw [lat z14 (rg14 G)]; exact ⟨rfl, rfl⟩)
def B17_66 : Bdy := (⟨"java/lang/String", "charAt", "(I)C"⟩, jdk_42_method_56_code, 2, (some .char), ({ frames := 3, cells := 0, slots := 0, locals := 40 } : Room))
theorem mt66 (Z : State) (a0 : Array Value) (hw : ∀ d ∈ tables_1, d.before a0 Z = true) (h0 : Heap) (zc : Int32) (r99 : Value) (cl : Cell) (pv : Addr) (SS : Sts Z h0 zc r99 cl pv) (z0 z1 z2 z3 z4 z5 z6 z7 z8 z9 z10 z11 z12 z13 z14 z15 z16 z17 : Int32) (G : RG z0 z1 z2 z3 z4 z5 z6 z7 z8 z9 z10 z11 z12 z13 z14 z15 z16 z17) (hc : HC z0 z1 z2 z3 z4 z5 z6 z7 z8 z9 z10 z11 z12 z13 z14 z15 z16 z17) (a2 : Addr) (a1 : Addr) :
    Met B17_66 Z a0 h0 #[(.ref a1), (.int (14 : Int32))] (mem20 a2 z0 z1 z2 z3 z4 z5 z6 z7 z8 z9 z10 z11 z12 z13 z14 z15 z16 z17 a1) (Ret (some (.int z14)) (mem20 a2 z0 z1 z2 z3 z4 z5 z6 z7 z8 z9 z10 z11 z12 z13 z14 z15 z16 z17 a1)) := by
  refine Met.of pn17 (ls := #[.val (.ref a1), .val (.int (14 : Int32))]) (fun m => by first | (simp [entryFrame, mkF, argsToLocals, Value.category, B17_66]; done) | rfl) ?_
  show Go B17_66 Z a0 h0 _ 0 0 (mem20 a2 z0 z1 z2 z3 z4 z5 z6 z7 z8 z9 z10 z11 z12 z13 z14 z15 z16 z17 a1) 0 #[.val (.ref a1), .val (.int (14 : Int32))] []
  refine go_aloadN 1 rfl d17_0 rfl rfl ?_
  refine go_callV 4 rfl d17_1 (wd hw 106 rfl) (wd hw 107 rfl) (wd hw 109 rfl) (wd hw 108 rfl) (wd hw 35 rfl) (wd hw 110 rfl) (by decide) (Mo.exa (i := 1) rfl) (mt14 Z a0 hw h0 zc r99 cl pv SS z0 z1 z2 z3 z4 z5 z6 z7 z8 z9 z10 z11 z12 z13 z14 z15 z16 z17 G hc a2 a1) (argsL := []) (rest := []) rfl (ps := []) (by decide +kernel) rfl rfl 0 rfl (by decide) (by decide) (by decide) (by decide) ?_
  rintro _ _ ⟨rfl, rfl⟩
  show Go B17_66 Z a0 h0 _ 0 0 (mem20 a2 z0 z1 z2 z3 z4 z5 z6 z7 z8 z9 z10 z11 z12 z13 z14 z15 z16 z17 a1) 4 #[.val (.ref a1), .val (.int (14 : Int32))] [(.int (1 : Int32))]
  refine go_if 16 7 rfl (by decide) rfl d17_4 rfl (fun (hc4 : (1 : Int) = 0) => absurd hc4 (by decide)) (fun (hc4 : ¬ ((1 : Int) = 0)) => ?_)
  refine go_aloadN 8 rfl d17_7 rfl rfl ?_
  refine go_get 1 0 11 rfl d17_8 rfl rfl rfl (wd hw 60 rfl) ?_
  refine go_iloadN 12 rfl d17_11 rfl ?_
  refine go_callS 15 rfl d17_12 (wd hw 111 rfl) (wd hw 112 rfl) (wd hw 113 rfl) (wd hw 114 rfl) (by decide) (Met.frame [ob a1 "java/lang/String" [("java/lang/String", "value", "[B", (.ref a2)), ("java/lang/String", "coder", "B", (.int (0 : Int32)))]] (mt67 Z a0 hw h0 zc r99 cl pv SS z0 z1 z2 z3 z4 z5 z6 z7 z8 z9 z10 z11 z12 z13 z14 z15 z16 z17 G hc a2)) (argsL := [(.ref a2), (.int (14 : Int32))]) (rest := []) rfl (ps := [(.array .byte), .int]) (by decide +kernel) rfl rfl 0 rfl (by decide) (by decide) (by decide) (by decide) ?_
  rintro _ _ ⟨_, ⟨rfl, rfl⟩, rfl⟩
  show Go B17_66 Z a0 h0 _ 0 0 (mem20 a2 z0 z1 z2 z3 z4 z5 z6 z7 z8 z9 z10 z11 z12 z13 z14 z15 z16 z17 a1) 15 #[.val (.ref a1), .val (.int (14 : Int32))] [(.int z14)]
  exact go_ireturn d17_15 rfl (Or.inr (Or.inr (Or.inr (Or.inl rfl)))) rfl (congrArg Value.int (nar_z z14 (rg14 G))) (by decide) (by decide) ⟨rfl, rfl⟩
def B21_73 : Bdy := (⟨"jdk/internal/util/Preconditions", "checkIndex", "(IILjava/util/function/BiFunction;)I"⟩, jdk_41_method_11_code, 3, (some .int), ({ frames := 0, cells := 0, slots := 0, locals := 0 } : Room))
theorem mt73 (Z : State) (a0 : Array Value) (hw : ∀ d ∈ tables_1, d.before a0 Z = true) (h0 : Heap) (zc : Int32) (r99 : Value) (cl : Cell) (pv : Addr) (SS : Sts Z h0 zc r99 cl pv) (z0 z1 z2 z3 z4 z5 z6 z7 z8 z9 z10 z11 z12 z13 z14 z15 z16 z17 : Int32) (G : RG z0 z1 z2 z3 z4 z5 z6 z7 z8 z9 z10 z11 z12 z13 z14 z15 z16 z17) (hc : HC z0 z1 z2 z3 z4 z5 z6 z7 z8 z9 z10 z11 z12 z13 z14 z15 z16 z17) :
    Met B21_73 Z a0 h0 #[(.int (15 : Int32)), (.int (18 : Int32)), r99] [] (Ret (some (.int (15 : Int32))) []) := by
  refine Met.of pn21 (ls := #[.val (.int (15 : Int32)), .val (.int (18 : Int32)), .val r99]) (fun m => by rcases ref_cases SS.2.2.2.1 with rfl | ⟨_, rfl⟩ <;> first | (simp [entryFrame, mkF, argsToLocals, Value.category, B21_73]; done) | rfl) ?_
  show Go B21_73 Z a0 h0 _ 0 0 [] 0 #[.val (.int (15 : Int32)), .val (.int (18 : Int32)), .val r99] []
  refine go_iloadN 1 rfl d21_0 rfl ?_
  refine go_if 9 4 rfl (by decide) rfl d21_1 rfl (fun (hc1 : (15 : Int) < 0) => absurd hc1 (by decide)) (fun (hc1 : ¬ ((15 : Int) < 0)) => ?_)
  refine go_iloadN 5 rfl d21_4 rfl ?_
  refine go_iloadN 6 rfl d21_5 rfl ?_
  refine go_icmp 16 9 rfl (by decide) rfl d21_6 rfl (fun (hc6 : (15 : Int) < (18 : Int)) => ?_) (fun (hc6 : ¬ ((15 : Int) < (18 : Int))) => absurd hc6 (by decide))
  refine go_iloadN 17 rfl d21_16 rfl ?_
  exact go_ireturn d21_17 rfl (Or.inl rfl) rfl rfl (by decide) (by decide) ⟨rfl, rfl⟩
def B20_72 : Bdy := (⟨"java/lang/String", "checkIndex", "(II)V"⟩, jdk_42_method_155_code, 2, none, ({ frames := 1, cells := 0, slots := 0, locals := 14 } : Room))
theorem mt72 (Z : State) (a0 : Array Value) (hw : ∀ d ∈ tables_1, d.before a0 Z = true) (h0 : Heap) (zc : Int32) (r99 : Value) (cl : Cell) (pv : Addr) (SS : Sts Z h0 zc r99 cl pv) (z0 z1 z2 z3 z4 z5 z6 z7 z8 z9 z10 z11 z12 z13 z14 z15 z16 z17 : Int32) (G : RG z0 z1 z2 z3 z4 z5 z6 z7 z8 z9 z10 z11 z12 z13 z14 z15 z16 z17) (hc : HC z0 z1 z2 z3 z4 z5 z6 z7 z8 z9 z10 z11 z12 z13 z14 z15 z16 z17) :
    Met B20_72 Z a0 h0 #[(.int (15 : Int32)), (.int (18 : Int32))] [] (Ret none []) := by
  refine Met.of pn20 (ls := #[.val (.int (15 : Int32)), .val (.int (18 : Int32))]) (fun m => by first | (simp [entryFrame, mkF, argsToLocals, Value.category, B20_72]; done) | rfl) ?_
  show Go B20_72 Z a0 h0 _ 0 0 [] 0 #[.val (.int (15 : Int32)), .val (.int (18 : Int32))] []
  refine go_iloadN 1 rfl d20_0 rfl ?_
  refine go_iloadN 2 rfl d20_1 rfl ?_
  refine go_getS 5 rfl d20_2 (wd hw 118 rfl) SS.2.2.1 ?_
  refine go_callS 8 rfl d20_5 (wd hw 120 rfl) (wd hw 121 rfl) (wd hw 119 rfl) (wd hw 122 rfl) (by decide) (mt73 Z a0 hw h0 zc r99 cl pv SS z0 z1 z2 z3 z4 z5 z6 z7 z8 z9 z10 z11 z12 z13 z14 z15 z16 z17 G hc) (argsL := [(.int (15 : Int32)), (.int (18 : Int32)), r99]) (rest := []) rfl (ps := [.int, .int, (.object "java/util/function/BiFunction")]) (by decide +kernel) rfl rfl 0 rfl (by decide) (by decide) (by decide) (by decide) ?_
  rintro _ _ ⟨rfl, rfl⟩
  show Go B20_72 Z a0 h0 _ 0 0 [] 8 #[.val (.int (15 : Int32)), .val (.int (18 : Int32))] [(.int (15 : Int32))]
  refine go_pop 9 rfl d20_8 rfl rfl ?_
  exact go_return d20_9 rfl rfl (by decide) (by decide) ⟨rfl, rfl⟩
def B19_71 : Bdy := (⟨"java/lang/StringLatin1", "charAt", "([BI)C"⟩, jdk_43_method_2_code, 2, (some .char), ({ frames := 2, cells := 0, slots := 0, locals := 27 } : Room))
theorem mt71 (Z : State) (a0 : Array Value) (hw : ∀ d ∈ tables_1, d.before a0 Z = true) (h0 : Heap) (zc : Int32) (r99 : Value) (cl : Cell) (pv : Addr) (SS : Sts Z h0 zc r99 cl pv) (z0 z1 z2 z3 z4 z5 z6 z7 z8 z9 z10 z11 z12 z13 z14 z15 z16 z17 : Int32) (G : RG z0 z1 z2 z3 z4 z5 z6 z7 z8 z9 z10 z11 z12 z13 z14 z15 z16 z17) (hc : HC z0 z1 z2 z3 z4 z5 z6 z7 z8 z9 z10 z11 z12 z13 z14 z15 z16 z17) (a2 : Addr) :
    Met B19_71 Z a0 h0 #[(.ref a2), (.int (15 : Int32))] (mem21 a2 z0 z1 z2 z3 z4 z5 z6 z7 z8 z9 z10 z11 z12 z13 z14 z15 z16 z17) (Ret (some (.int z15)) (mem21 a2 z0 z1 z2 z3 z4 z5 z6 z7 z8 z9 z10 z11 z12 z13 z14 z15 z16 z17)) := by
  refine Met.of pn19 (ls := #[.val (.ref a2), .val (.int (15 : Int32))]) (fun m => by first | (simp [entryFrame, mkF, argsToLocals, Value.category, B19_71]; done) | rfl) ?_
  show Go B19_71 Z a0 h0 _ 0 0 (mem21 a2 z0 z1 z2 z3 z4 z5 z6 z7 z8 z9 z10 z11 z12 z13 z14 z15 z16 z17) 0 #[.val (.ref a2), .val (.int (15 : Int32))] []
  refine go_iloadN 1 rfl d19_0 rfl ?_
  refine go_aloadN 2 rfl d19_1 rfl rfl ?_
  refine go_alen 0 3 rfl d19_2 rfl rfl ?_
  show Go B19_71 Z a0 h0 _ 0 0 (mem21 a2 z0 z1 z2 z3 z4 z5 z6 z7 z8 z9 z10 z11 z12 z13 z14 z15 z16 z17) 3 #[.val (.ref a2), .val (.int (15 : Int32))] [(.int (18 : Int32)), (.int (15 : Int32))]
  refine go_callS 6 rfl d19_3 (wd hw 115 rfl) (wd hw 116 rfl) (wd hw 35 rfl) (wd hw 117 rfl) (by decide) (Met.frame (mem21 a2 z0 z1 z2 z3 z4 z5 z6 z7 z8 z9 z10 z11 z12 z13 z14 z15 z16 z17) (mt72 Z a0 hw h0 zc r99 cl pv SS z0 z1 z2 z3 z4 z5 z6 z7 z8 z9 z10 z11 z12 z13 z14 z15 z16 z17 G hc)) (argsL := [(.int (15 : Int32)), (.int (18 : Int32))]) (rest := []) rfl (ps := [.int, .int]) (by decide +kernel) rfl rfl 0 rfl (by decide) (by decide) (by decide) (by decide) ?_
  rintro _ _ ⟨_, ⟨rfl, rfl⟩, rfl⟩
  show Go B19_71 Z a0 h0 _ 0 0 (mem21 a2 z0 z1 z2 z3 z4 z5 z6 z7 z8 z9 z10 z11 z12 z13 z14 z15 z16 z17) 6 #[.val (.ref a2), .val (.int (15 : Int32))] []
  refine go_aloadN 7 rfl d19_6 rfl rfl ?_
  refine go_iloadN 8 rfl d19_7 rfl ?_
  refine go_baload 9 rfl d19_8 rfl (Mo.el (i := 0) rfl (by decide) rfl) ?_
  refine go_sipush (255 : Int32) 12 rfl d19_9 rfl ?_
  refine go_iand 13 rfl d19_12 rfl ?_
  refine go_i2c 14 rfl d19_13 rfl ?_
  exact go_ireturn d19_14 rfl (Or.inr (Or.inr (Or.inr (Or.inl rfl)))) rfl (congrArg Value.int (nar_c _)) (by decide) (by decide) (by rw [lat z15 (rg15 G)]; exact ⟨rfl, rfl⟩)
def B17_70 : Bdy := (⟨"java/lang/String", "charAt", "(I)C"⟩, jdk_42_method_56_code, 2, (some .char), ({ frames := 3, cells := 0, slots := 0, locals := 40 } : Room))
theorem mt70 (Z : State) (a0 : Array Value) (hw : ∀ d ∈ tables_1, d.before a0 Z = true) (h0 : Heap) (zc : Int32) (r99 : Value) (cl : Cell) (pv : Addr) (SS : Sts Z h0 zc r99 cl pv) (z0 z1 z2 z3 z4 z5 z6 z7 z8 z9 z10 z11 z12 z13 z14 z15 z16 z17 : Int32) (G : RG z0 z1 z2 z3 z4 z5 z6 z7 z8 z9 z10 z11 z12 z13 z14 z15 z16 z17) (hc : HC z0 z1 z2 z3 z4 z5 z6 z7 z8 z9 z10 z11 z12 z13 z14 z15 z16 z17) (a2 : Addr) (a1 : Addr) :
    Met B17_70 Z a0 h0 #[(.ref a1), (.int (15 : Int32))] (mem20 a2 z0 z1 z2 z3 z4 z5 z6 z7 z8 z9 z10 z11 z12 z13 z14 z15 z16 z17 a1) (Ret (some (.int z15)) (mem20 a2 z0 z1 z2 z3 z4 z5 z6 z7 z8 z9 z10 z11 z12 z13 z14 z15 z16 z17 a1)) := by
  refine Met.of pn17 (ls := #[.val (.ref a1), .val (.int (15 : Int32))]) (fun m => by first | (simp [entryFrame, mkF, argsToLocals, Value.category, B17_70]; done) | rfl) ?_
  show Go B17_70 Z a0 h0 _ 0 0 (mem20 a2 z0 z1 z2 z3 z4 z5 z6 z7 z8 z9 z10 z11 z12 z13 z14 z15 z16 z17 a1) 0 #[.val (.ref a1), .val (.int (15 : Int32))] []
  refine go_aloadN 1 rfl d17_0 rfl rfl ?_
  refine go_callV 4 rfl d17_1 (wd hw 106 rfl) (wd hw 107 rfl) (wd hw 109 rfl) (wd hw 108 rfl) (wd hw 35 rfl) (wd hw 110 rfl) (by decide) (Mo.exa (i := 1) rfl) (mt14 Z a0 hw h0 zc r99 cl pv SS z0 z1 z2 z3 z4 z5 z6 z7 z8 z9 z10 z11 z12 z13 z14 z15 z16 z17 G hc a2 a1) (argsL := []) (rest := []) rfl (ps := []) (by decide +kernel) rfl rfl 0 rfl (by decide) (by decide) (by decide) (by decide) ?_
  rintro _ _ ⟨rfl, rfl⟩
  show Go B17_70 Z a0 h0 _ 0 0 (mem20 a2 z0 z1 z2 z3 z4 z5 z6 z7 z8 z9 z10 z11 z12 z13 z14 z15 z16 z17 a1) 4 #[.val (.ref a1), .val (.int (15 : Int32))] [(.int (1 : Int32))]
  refine go_if 16 7 rfl (by decide) rfl d17_4 rfl (fun (hc4 : (1 : Int) = 0) => absurd hc4 (by decide)) (fun (hc4 : ¬ ((1 : Int) = 0)) => ?_)
  refine go_aloadN 8 rfl d17_7 rfl rfl ?_
  refine go_get 1 0 11 rfl d17_8 rfl rfl rfl (wd hw 60 rfl) ?_
  refine go_iloadN 12 rfl d17_11 rfl ?_
  refine go_callS 15 rfl d17_12 (wd hw 111 rfl) (wd hw 112 rfl) (wd hw 113 rfl) (wd hw 114 rfl) (by decide) (Met.frame [ob a1 "java/lang/String" [("java/lang/String", "value", "[B", (.ref a2)), ("java/lang/String", "coder", "B", (.int (0 : Int32)))]] (mt71 Z a0 hw h0 zc r99 cl pv SS z0 z1 z2 z3 z4 z5 z6 z7 z8 z9 z10 z11 z12 z13 z14 z15 z16 z17 G hc a2)) (argsL := [(.ref a2), (.int (15 : Int32))]) (rest := []) rfl (ps := [(.array .byte), .int]) (by decide +kernel) rfl rfl 0 rfl (by decide) (by decide) (by decide) (by decide) ?_
  rintro _ _ ⟨_, ⟨rfl, rfl⟩, rfl⟩
  show Go B17_70 Z a0 h0 _ 0 0 (mem20 a2 z0 z1 z2 z3 z4 z5 z6 z7 z8 z9 z10 z11 z12 z13 z14 z15 z16 z17 a1) 15 #[.val (.ref a1), .val (.int (15 : Int32))] [(.int z15)]
  exact go_ireturn d17_15 rfl (Or.inr (Or.inr (Or.inr (Or.inl rfl)))) rfl (congrArg Value.int (nar_z z15 (rg15 G))) (by decide) (by decide) ⟨rfl, rfl⟩
def B21_77 : Bdy := (⟨"jdk/internal/util/Preconditions", "checkIndex", "(IILjava/util/function/BiFunction;)I"⟩, jdk_41_method_11_code, 3, (some .int), ({ frames := 0, cells := 0, slots := 0, locals := 0 } : Room))
theorem mt77 (Z : State) (a0 : Array Value) (hw : ∀ d ∈ tables_1, d.before a0 Z = true) (h0 : Heap) (zc : Int32) (r99 : Value) (cl : Cell) (pv : Addr) (SS : Sts Z h0 zc r99 cl pv) (z0 z1 z2 z3 z4 z5 z6 z7 z8 z9 z10 z11 z12 z13 z14 z15 z16 z17 : Int32) (G : RG z0 z1 z2 z3 z4 z5 z6 z7 z8 z9 z10 z11 z12 z13 z14 z15 z16 z17) (hc : HC z0 z1 z2 z3 z4 z5 z6 z7 z8 z9 z10 z11 z12 z13 z14 z15 z16 z17) :
    Met B21_77 Z a0 h0 #[(.int (16 : Int32)), (.int (18 : Int32)), r99] [] (Ret (some (.int (16 : Int32))) []) := by
  refine Met.of pn21 (ls := #[.val (.int (16 : Int32)), .val (.int (18 : Int32)), .val r99]) (fun m => by rcases ref_cases SS.2.2.2.1 with rfl | ⟨_, rfl⟩ <;> first | (simp [entryFrame, mkF, argsToLocals, Value.category, B21_77]; done) | rfl) ?_
  show Go B21_77 Z a0 h0 _ 0 0 [] 0 #[.val (.int (16 : Int32)), .val (.int (18 : Int32)), .val r99] []
  refine go_iloadN 1 rfl d21_0 rfl ?_
  refine go_if 9 4 rfl (by decide) rfl d21_1 rfl (fun (hc1 : (16 : Int) < 0) => absurd hc1 (by decide)) (fun (hc1 : ¬ ((16 : Int) < 0)) => ?_)
  refine go_iloadN 5 rfl d21_4 rfl ?_
  refine go_iloadN 6 rfl d21_5 rfl ?_
  refine go_icmp 16 9 rfl (by decide) rfl d21_6 rfl (fun (hc6 : (16 : Int) < (18 : Int)) => ?_) (fun (hc6 : ¬ ((16 : Int) < (18 : Int))) => absurd hc6 (by decide))
  refine go_iloadN 17 rfl d21_16 rfl ?_
  exact go_ireturn d21_17 rfl (Or.inl rfl) rfl rfl (by decide) (by decide) ⟨rfl, rfl⟩
def B20_76 : Bdy := (⟨"java/lang/String", "checkIndex", "(II)V"⟩, jdk_42_method_155_code, 2, none, ({ frames := 1, cells := 0, slots := 0, locals := 14 } : Room))
theorem mt76 (Z : State) (a0 : Array Value) (hw : ∀ d ∈ tables_1, d.before a0 Z = true) (h0 : Heap) (zc : Int32) (r99 : Value) (cl : Cell) (pv : Addr) (SS : Sts Z h0 zc r99 cl pv) (z0 z1 z2 z3 z4 z5 z6 z7 z8 z9 z10 z11 z12 z13 z14 z15 z16 z17 : Int32) (G : RG z0 z1 z2 z3 z4 z5 z6 z7 z8 z9 z10 z11 z12 z13 z14 z15 z16 z17) (hc : HC z0 z1 z2 z3 z4 z5 z6 z7 z8 z9 z10 z11 z12 z13 z14 z15 z16 z17) :
    Met B20_76 Z a0 h0 #[(.int (16 : Int32)), (.int (18 : Int32))] [] (Ret none []) := by
  refine Met.of pn20 (ls := #[.val (.int (16 : Int32)), .val (.int (18 : Int32))]) (fun m => by first | (simp [entryFrame, mkF, argsToLocals, Value.category, B20_76]; done) | rfl) ?_
  show Go B20_76 Z a0 h0 _ 0 0 [] 0 #[.val (.int (16 : Int32)), .val (.int (18 : Int32))] []
  refine go_iloadN 1 rfl d20_0 rfl ?_
  refine go_iloadN 2 rfl d20_1 rfl ?_
  refine go_getS 5 rfl d20_2 (wd hw 118 rfl) SS.2.2.1 ?_
  refine go_callS 8 rfl d20_5 (wd hw 120 rfl) (wd hw 121 rfl) (wd hw 119 rfl) (wd hw 122 rfl) (by decide) (mt77 Z a0 hw h0 zc r99 cl pv SS z0 z1 z2 z3 z4 z5 z6 z7 z8 z9 z10 z11 z12 z13 z14 z15 z16 z17 G hc) (argsL := [(.int (16 : Int32)), (.int (18 : Int32)), r99]) (rest := []) rfl (ps := [.int, .int, (.object "java/util/function/BiFunction")]) (by decide +kernel) rfl rfl 0 rfl (by decide) (by decide) (by decide) (by decide) ?_
  rintro _ _ ⟨rfl, rfl⟩
  show Go B20_76 Z a0 h0 _ 0 0 [] 8 #[.val (.int (16 : Int32)), .val (.int (18 : Int32))] [(.int (16 : Int32))]
  refine go_pop 9 rfl d20_8 rfl rfl ?_
  exact go_return d20_9 rfl rfl (by decide) (by decide) ⟨rfl, rfl⟩
def B19_75 : Bdy := (⟨"java/lang/StringLatin1", "charAt", "([BI)C"⟩, jdk_43_method_2_code, 2, (some .char), ({ frames := 2, cells := 0, slots := 0, locals := 27 } : Room))
theorem mt75 (Z : State) (a0 : Array Value) (hw : ∀ d ∈ tables_1, d.before a0 Z = true) (h0 : Heap) (zc : Int32) (r99 : Value) (cl : Cell) (pv : Addr) (SS : Sts Z h0 zc r99 cl pv) (z0 z1 z2 z3 z4 z5 z6 z7 z8 z9 z10 z11 z12 z13 z14 z15 z16 z17 : Int32) (G : RG z0 z1 z2 z3 z4 z5 z6 z7 z8 z9 z10 z11 z12 z13 z14 z15 z16 z17) (hc : HC z0 z1 z2 z3 z4 z5 z6 z7 z8 z9 z10 z11 z12 z13 z14 z15 z16 z17) (a2 : Addr) :
    Met B19_75 Z a0 h0 #[(.ref a2), (.int (16 : Int32))] (mem21 a2 z0 z1 z2 z3 z4 z5 z6 z7 z8 z9 z10 z11 z12 z13 z14 z15 z16 z17) (Ret (some (.int z16)) (mem21 a2 z0 z1 z2 z3 z4 z5 z6 z7 z8 z9 z10 z11 z12 z13 z14 z15 z16 z17)) := by
  refine Met.of pn19 (ls := #[.val (.ref a2), .val (.int (16 : Int32))]) (fun m => by first | (simp [entryFrame, mkF, argsToLocals, Value.category, B19_75]; done) | rfl) ?_
  show Go B19_75 Z a0 h0 _ 0 0 (mem21 a2 z0 z1 z2 z3 z4 z5 z6 z7 z8 z9 z10 z11 z12 z13 z14 z15 z16 z17) 0 #[.val (.ref a2), .val (.int (16 : Int32))] []
  refine go_iloadN 1 rfl d19_0 rfl ?_
  refine go_aloadN 2 rfl d19_1 rfl rfl ?_
  refine go_alen 0 3 rfl d19_2 rfl rfl ?_
  show Go B19_75 Z a0 h0 _ 0 0 (mem21 a2 z0 z1 z2 z3 z4 z5 z6 z7 z8 z9 z10 z11 z12 z13 z14 z15 z16 z17) 3 #[.val (.ref a2), .val (.int (16 : Int32))] [(.int (18 : Int32)), (.int (16 : Int32))]
  refine go_callS 6 rfl d19_3 (wd hw 115 rfl) (wd hw 116 rfl) (wd hw 35 rfl) (wd hw 117 rfl) (by decide) (Met.frame (mem21 a2 z0 z1 z2 z3 z4 z5 z6 z7 z8 z9 z10 z11 z12 z13 z14 z15 z16 z17) (mt76 Z a0 hw h0 zc r99 cl pv SS z0 z1 z2 z3 z4 z5 z6 z7 z8 z9 z10 z11 z12 z13 z14 z15 z16 z17 G hc)) (argsL := [(.int (16 : Int32)), (.int (18 : Int32))]) (rest := []) rfl (ps := [.int, .int]) (by decide +kernel) rfl rfl 0 rfl (by decide) (by decide) (by decide) (by decide) ?_
  rintro _ _ ⟨_, ⟨rfl, rfl⟩, rfl⟩
  show Go B19_75 Z a0 h0 _ 0 0 (mem21 a2 z0 z1 z2 z3 z4 z5 z6 z7 z8 z9 z10 z11 z12 z13 z14 z15 z16 z17) 6 #[.val (.ref a2), .val (.int (16 : Int32))] []
  refine go_aloadN 7 rfl d19_6 rfl rfl ?_
  refine go_iloadN 8 rfl d19_7 rfl ?_
  refine go_baload 9 rfl d19_8 rfl (Mo.el (i := 0) rfl (by decide) rfl) ?_
  refine go_sipush (255 : Int32) 12 rfl d19_9 rfl ?_
  refine go_iand 13 rfl d19_12 rfl ?_
  refine go_i2c 14 rfl d19_13 rfl ?_
  exact go_ireturn d19_14 rfl (Or.inr (Or.inr (Or.inr (Or.inl rfl)))) rfl (congrArg Value.int (nar_c _)) (by decide) (by decide) (by rw [lat z16 (rg16 G)]; exact ⟨rfl, rfl⟩)
def B17_74 : Bdy := (⟨"java/lang/String", "charAt", "(I)C"⟩, jdk_42_method_56_code, 2, (some .char), ({ frames := 3, cells := 0, slots := 0, locals := 40 } : Room))
theorem mt74 (Z : State) (a0 : Array Value) (hw : ∀ d ∈ tables_1, d.before a0 Z = true) (h0 : Heap) (zc : Int32) (r99 : Value) (cl : Cell) (pv : Addr) (SS : Sts Z h0 zc r99 cl pv) (z0 z1 z2 z3 z4 z5 z6 z7 z8 z9 z10 z11 z12 z13 z14 z15 z16 z17 : Int32) (G : RG z0 z1 z2 z3 z4 z5 z6 z7 z8 z9 z10 z11 z12 z13 z14 z15 z16 z17) (hc : HC z0 z1 z2 z3 z4 z5 z6 z7 z8 z9 z10 z11 z12 z13 z14 z15 z16 z17) (a2 : Addr) (a1 : Addr) :
    Met B17_74 Z a0 h0 #[(.ref a1), (.int (16 : Int32))] (mem20 a2 z0 z1 z2 z3 z4 z5 z6 z7 z8 z9 z10 z11 z12 z13 z14 z15 z16 z17 a1) (Ret (some (.int z16)) (mem20 a2 z0 z1 z2 z3 z4 z5 z6 z7 z8 z9 z10 z11 z12 z13 z14 z15 z16 z17 a1)) := by
  refine Met.of pn17 (ls := #[.val (.ref a1), .val (.int (16 : Int32))]) (fun m => by first | (simp [entryFrame, mkF, argsToLocals, Value.category, B17_74]; done) | rfl) ?_
  show Go B17_74 Z a0 h0 _ 0 0 (mem20 a2 z0 z1 z2 z3 z4 z5 z6 z7 z8 z9 z10 z11 z12 z13 z14 z15 z16 z17 a1) 0 #[.val (.ref a1), .val (.int (16 : Int32))] []
  refine go_aloadN 1 rfl d17_0 rfl rfl ?_
  refine go_callV 4 rfl d17_1 (wd hw 106 rfl) (wd hw 107 rfl) (wd hw 109 rfl) (wd hw 108 rfl) (wd hw 35 rfl) (wd hw 110 rfl) (by decide) (Mo.exa (i := 1) rfl) (mt14 Z a0 hw h0 zc r99 cl pv SS z0 z1 z2 z3 z4 z5 z6 z7 z8 z9 z10 z11 z12 z13 z14 z15 z16 z17 G hc a2 a1) (argsL := []) (rest := []) rfl (ps := []) (by decide +kernel) rfl rfl 0 rfl (by decide) (by decide) (by decide) (by decide) ?_
  rintro _ _ ⟨rfl, rfl⟩
  show Go B17_74 Z a0 h0 _ 0 0 (mem20 a2 z0 z1 z2 z3 z4 z5 z6 z7 z8 z9 z10 z11 z12 z13 z14 z15 z16 z17 a1) 4 #[.val (.ref a1), .val (.int (16 : Int32))] [(.int (1 : Int32))]
  refine go_if 16 7 rfl (by decide) rfl d17_4 rfl (fun (hc4 : (1 : Int) = 0) => absurd hc4 (by decide)) (fun (hc4 : ¬ ((1 : Int) = 0)) => ?_)
  refine go_aloadN 8 rfl d17_7 rfl rfl ?_
  refine go_get 1 0 11 rfl d17_8 rfl rfl rfl (wd hw 60 rfl) ?_
  refine go_iloadN 12 rfl d17_11 rfl ?_
  refine go_callS 15 rfl d17_12 (wd hw 111 rfl) (wd hw 112 rfl) (wd hw 113 rfl) (wd hw 114 rfl) (by decide) (Met.frame [ob a1 "java/lang/String" [("java/lang/String", "value", "[B", (.ref a2)), ("java/lang/String", "coder", "B", (.int (0 : Int32)))]] (mt75 Z a0 hw h0 zc r99 cl pv SS z0 z1 z2 z3 z4 z5 z6 z7 z8 z9 z10 z11 z12 z13 z14 z15 z16 z17 G hc a2)) (argsL := [(.ref a2), (.int (16 : Int32))]) (rest := []) rfl (ps := [(.array .byte), .int]) (by decide +kernel) rfl rfl 0 rfl (by decide) (by decide) (by decide) (by decide) ?_
  rintro _ _ ⟨_, ⟨rfl, rfl⟩, rfl⟩
  show Go B17_74 Z a0 h0 _ 0 0 (mem20 a2 z0 z1 z2 z3 z4 z5 z6 z7 z8 z9 z10 z11 z12 z13 z14 z15 z16 z17 a1) 15 #[.val (.ref a1), .val (.int (16 : Int32))] [(.int z16)]
  exact go_ireturn d17_15 rfl (Or.inr (Or.inr (Or.inr (Or.inl rfl)))) rfl (congrArg Value.int (nar_z z16 (rg16 G))) (by decide) (by decide) ⟨rfl, rfl⟩
def B21_81 : Bdy := (⟨"jdk/internal/util/Preconditions", "checkIndex", "(IILjava/util/function/BiFunction;)I"⟩, jdk_41_method_11_code, 3, (some .int), ({ frames := 0, cells := 0, slots := 0, locals := 0 } : Room))
theorem mt81 (Z : State) (a0 : Array Value) (hw : ∀ d ∈ tables_1, d.before a0 Z = true) (h0 : Heap) (zc : Int32) (r99 : Value) (cl : Cell) (pv : Addr) (SS : Sts Z h0 zc r99 cl pv) (z0 z1 z2 z3 z4 z5 z6 z7 z8 z9 z10 z11 z12 z13 z14 z15 z16 z17 : Int32) (G : RG z0 z1 z2 z3 z4 z5 z6 z7 z8 z9 z10 z11 z12 z13 z14 z15 z16 z17) (hc : HC z0 z1 z2 z3 z4 z5 z6 z7 z8 z9 z10 z11 z12 z13 z14 z15 z16 z17) :
    Met B21_81 Z a0 h0 #[(.int (17 : Int32)), (.int (18 : Int32)), r99] [] (Ret (some (.int (17 : Int32))) []) := by
  refine Met.of pn21 (ls := #[.val (.int (17 : Int32)), .val (.int (18 : Int32)), .val r99]) (fun m => by rcases ref_cases SS.2.2.2.1 with rfl | ⟨_, rfl⟩ <;> first | (simp [entryFrame, mkF, argsToLocals, Value.category, B21_81]; done) | rfl) ?_
  show Go B21_81 Z a0 h0 _ 0 0 [] 0 #[.val (.int (17 : Int32)), .val (.int (18 : Int32)), .val r99] []
  refine go_iloadN 1 rfl d21_0 rfl ?_
  refine go_if 9 4 rfl (by decide) rfl d21_1 rfl (fun (hc1 : (17 : Int) < 0) => absurd hc1 (by decide)) (fun (hc1 : ¬ ((17 : Int) < 0)) => ?_)
  refine go_iloadN 5 rfl d21_4 rfl ?_
  refine go_iloadN 6 rfl d21_5 rfl ?_
  refine go_icmp 16 9 rfl (by decide) rfl d21_6 rfl (fun (hc6 : (17 : Int) < (18 : Int)) => ?_) (fun (hc6 : ¬ ((17 : Int) < (18 : Int))) => absurd hc6 (by decide))
  refine go_iloadN 17 rfl d21_16 rfl ?_
  exact go_ireturn d21_17 rfl (Or.inl rfl) rfl rfl (by decide) (by decide) ⟨rfl, rfl⟩
def B20_80 : Bdy := (⟨"java/lang/String", "checkIndex", "(II)V"⟩, jdk_42_method_155_code, 2, none, ({ frames := 1, cells := 0, slots := 0, locals := 14 } : Room))
theorem mt80 (Z : State) (a0 : Array Value) (hw : ∀ d ∈ tables_1, d.before a0 Z = true) (h0 : Heap) (zc : Int32) (r99 : Value) (cl : Cell) (pv : Addr) (SS : Sts Z h0 zc r99 cl pv) (z0 z1 z2 z3 z4 z5 z6 z7 z8 z9 z10 z11 z12 z13 z14 z15 z16 z17 : Int32) (G : RG z0 z1 z2 z3 z4 z5 z6 z7 z8 z9 z10 z11 z12 z13 z14 z15 z16 z17) (hc : HC z0 z1 z2 z3 z4 z5 z6 z7 z8 z9 z10 z11 z12 z13 z14 z15 z16 z17) :
    Met B20_80 Z a0 h0 #[(.int (17 : Int32)), (.int (18 : Int32))] [] (Ret none []) := by
  refine Met.of pn20 (ls := #[.val (.int (17 : Int32)), .val (.int (18 : Int32))]) (fun m => by first | (simp [entryFrame, mkF, argsToLocals, Value.category, B20_80]; done) | rfl) ?_
  show Go B20_80 Z a0 h0 _ 0 0 [] 0 #[.val (.int (17 : Int32)), .val (.int (18 : Int32))] []
  refine go_iloadN 1 rfl d20_0 rfl ?_
  refine go_iloadN 2 rfl d20_1 rfl ?_
  refine go_getS 5 rfl d20_2 (wd hw 118 rfl) SS.2.2.1 ?_
  refine go_callS 8 rfl d20_5 (wd hw 120 rfl) (wd hw 121 rfl) (wd hw 119 rfl) (wd hw 122 rfl) (by decide) (mt81 Z a0 hw h0 zc r99 cl pv SS z0 z1 z2 z3 z4 z5 z6 z7 z8 z9 z10 z11 z12 z13 z14 z15 z16 z17 G hc) (argsL := [(.int (17 : Int32)), (.int (18 : Int32)), r99]) (rest := []) rfl (ps := [.int, .int, (.object "java/util/function/BiFunction")]) (by decide +kernel) rfl rfl 0 rfl (by decide) (by decide) (by decide) (by decide) ?_
  rintro _ _ ⟨rfl, rfl⟩
  show Go B20_80 Z a0 h0 _ 0 0 [] 8 #[.val (.int (17 : Int32)), .val (.int (18 : Int32))] [(.int (17 : Int32))]
  refine go_pop 9 rfl d20_8 rfl rfl ?_
  exact go_return d20_9 rfl rfl (by decide) (by decide) ⟨rfl, rfl⟩
def B19_79 : Bdy := (⟨"java/lang/StringLatin1", "charAt", "([BI)C"⟩, jdk_43_method_2_code, 2, (some .char), ({ frames := 2, cells := 0, slots := 0, locals := 27 } : Room))
theorem mt79 (Z : State) (a0 : Array Value) (hw : ∀ d ∈ tables_1, d.before a0 Z = true) (h0 : Heap) (zc : Int32) (r99 : Value) (cl : Cell) (pv : Addr) (SS : Sts Z h0 zc r99 cl pv) (z0 z1 z2 z3 z4 z5 z6 z7 z8 z9 z10 z11 z12 z13 z14 z15 z16 z17 : Int32) (G : RG z0 z1 z2 z3 z4 z5 z6 z7 z8 z9 z10 z11 z12 z13 z14 z15 z16 z17) (hc : HC z0 z1 z2 z3 z4 z5 z6 z7 z8 z9 z10 z11 z12 z13 z14 z15 z16 z17) (a2 : Addr) :
    Met B19_79 Z a0 h0 #[(.ref a2), (.int (17 : Int32))] (mem21 a2 z0 z1 z2 z3 z4 z5 z6 z7 z8 z9 z10 z11 z12 z13 z14 z15 z16 z17) (Ret (some (.int z17)) (mem21 a2 z0 z1 z2 z3 z4 z5 z6 z7 z8 z9 z10 z11 z12 z13 z14 z15 z16 z17)) := by
  refine Met.of pn19 (ls := #[.val (.ref a2), .val (.int (17 : Int32))]) (fun m => by first | (simp [entryFrame, mkF, argsToLocals, Value.category, B19_79]; done) | rfl) ?_
  show Go B19_79 Z a0 h0 _ 0 0 (mem21 a2 z0 z1 z2 z3 z4 z5 z6 z7 z8 z9 z10 z11 z12 z13 z14 z15 z16 z17) 0 #[.val (.ref a2), .val (.int (17 : Int32))] []
  refine go_iloadN 1 rfl d19_0 rfl ?_
  refine go_aloadN 2 rfl d19_1 rfl rfl ?_
  refine go_alen 0 3 rfl d19_2 rfl rfl ?_
  show Go B19_79 Z a0 h0 _ 0 0 (mem21 a2 z0 z1 z2 z3 z4 z5 z6 z7 z8 z9 z10 z11 z12 z13 z14 z15 z16 z17) 3 #[.val (.ref a2), .val (.int (17 : Int32))] [(.int (18 : Int32)), (.int (17 : Int32))]
  refine go_callS 6 rfl d19_3 (wd hw 115 rfl) (wd hw 116 rfl) (wd hw 35 rfl) (wd hw 117 rfl) (by decide) (Met.frame (mem21 a2 z0 z1 z2 z3 z4 z5 z6 z7 z8 z9 z10 z11 z12 z13 z14 z15 z16 z17) (mt80 Z a0 hw h0 zc r99 cl pv SS z0 z1 z2 z3 z4 z5 z6 z7 z8 z9 z10 z11 z12 z13 z14 z15 z16 z17 G hc)) (argsL := [(.int (17 : Int32)), (.int (18 : Int32))]) (rest := []) rfl (ps := [.int, .int]) (by decide +kernel) rfl rfl 0 rfl (by decide) (by decide) (by decide) (by decide) ?_
  rintro _ _ ⟨_, ⟨rfl, rfl⟩, rfl⟩
  show Go B19_79 Z a0 h0 _ 0 0 (mem21 a2 z0 z1 z2 z3 z4 z5 z6 z7 z8 z9 z10 z11 z12 z13 z14 z15 z16 z17) 6 #[.val (.ref a2), .val (.int (17 : Int32))] []
  refine go_aloadN 7 rfl d19_6 rfl rfl ?_
  refine go_iloadN 8 rfl d19_7 rfl ?_
  refine go_baload 9 rfl d19_8 rfl (Mo.el (i := 0) rfl (by decide) rfl) ?_
  refine go_sipush (255 : Int32) 12 rfl d19_9 rfl ?_
  refine go_iand 13 rfl d19_12 rfl ?_
  refine go_i2c 14 rfl d19_13 rfl ?_
  exact go_ireturn d19_14 rfl (Or.inr (Or.inr (Or.inr (Or.inl rfl)))) rfl (congrArg Value.int (nar_c _)) (by decide) (by decide) (by rw [lat z17 (rg17 G)]; exact ⟨rfl, rfl⟩)
def B17_78 : Bdy := (⟨"java/lang/String", "charAt", "(I)C"⟩, jdk_42_method_56_code, 2, (some .char), ({ frames := 3, cells := 0, slots := 0, locals := 40 } : Room))
theorem mt78 (Z : State) (a0 : Array Value) (hw : ∀ d ∈ tables_1, d.before a0 Z = true) (h0 : Heap) (zc : Int32) (r99 : Value) (cl : Cell) (pv : Addr) (SS : Sts Z h0 zc r99 cl pv) (z0 z1 z2 z3 z4 z5 z6 z7 z8 z9 z10 z11 z12 z13 z14 z15 z16 z17 : Int32) (G : RG z0 z1 z2 z3 z4 z5 z6 z7 z8 z9 z10 z11 z12 z13 z14 z15 z16 z17) (hc : HC z0 z1 z2 z3 z4 z5 z6 z7 z8 z9 z10 z11 z12 z13 z14 z15 z16 z17) (a2 : Addr) (a1 : Addr) :
    Met B17_78 Z a0 h0 #[(.ref a1), (.int (17 : Int32))] (mem20 a2 z0 z1 z2 z3 z4 z5 z6 z7 z8 z9 z10 z11 z12 z13 z14 z15 z16 z17 a1) (Ret (some (.int z17)) (mem20 a2 z0 z1 z2 z3 z4 z5 z6 z7 z8 z9 z10 z11 z12 z13 z14 z15 z16 z17 a1)) := by
  refine Met.of pn17 (ls := #[.val (.ref a1), .val (.int (17 : Int32))]) (fun m => by first | (simp [entryFrame, mkF, argsToLocals, Value.category, B17_78]; done) | rfl) ?_
  show Go B17_78 Z a0 h0 _ 0 0 (mem20 a2 z0 z1 z2 z3 z4 z5 z6 z7 z8 z9 z10 z11 z12 z13 z14 z15 z16 z17 a1) 0 #[.val (.ref a1), .val (.int (17 : Int32))] []
  refine go_aloadN 1 rfl d17_0 rfl rfl ?_
  refine go_callV 4 rfl d17_1 (wd hw 106 rfl) (wd hw 107 rfl) (wd hw 109 rfl) (wd hw 108 rfl) (wd hw 35 rfl) (wd hw 110 rfl) (by decide) (Mo.exa (i := 1) rfl) (mt14 Z a0 hw h0 zc r99 cl pv SS z0 z1 z2 z3 z4 z5 z6 z7 z8 z9 z10 z11 z12 z13 z14 z15 z16 z17 G hc a2 a1) (argsL := []) (rest := []) rfl (ps := []) (by decide +kernel) rfl rfl 0 rfl (by decide) (by decide) (by decide) (by decide) ?_
  rintro _ _ ⟨rfl, rfl⟩
  show Go B17_78 Z a0 h0 _ 0 0 (mem20 a2 z0 z1 z2 z3 z4 z5 z6 z7 z8 z9 z10 z11 z12 z13 z14 z15 z16 z17 a1) 4 #[.val (.ref a1), .val (.int (17 : Int32))] [(.int (1 : Int32))]
  refine go_if 16 7 rfl (by decide) rfl d17_4 rfl (fun (hc4 : (1 : Int) = 0) => absurd hc4 (by decide)) (fun (hc4 : ¬ ((1 : Int) = 0)) => ?_)
  refine go_aloadN 8 rfl d17_7 rfl rfl ?_
  refine go_get 1 0 11 rfl d17_8 rfl rfl rfl (wd hw 60 rfl) ?_
  refine go_iloadN 12 rfl d17_11 rfl ?_
  refine go_callS 15 rfl d17_12 (wd hw 111 rfl) (wd hw 112 rfl) (wd hw 113 rfl) (wd hw 114 rfl) (by decide) (Met.frame [ob a1 "java/lang/String" [("java/lang/String", "value", "[B", (.ref a2)), ("java/lang/String", "coder", "B", (.int (0 : Int32)))]] (mt79 Z a0 hw h0 zc r99 cl pv SS z0 z1 z2 z3 z4 z5 z6 z7 z8 z9 z10 z11 z12 z13 z14 z15 z16 z17 G hc a2)) (argsL := [(.ref a2), (.int (17 : Int32))]) (rest := []) rfl (ps := [(.array .byte), .int]) (by decide +kernel) rfl rfl 0 rfl (by decide) (by decide) (by decide) (by decide) ?_
  rintro _ _ ⟨_, ⟨rfl, rfl⟩, rfl⟩
  show Go B17_78 Z a0 h0 _ 0 0 (mem20 a2 z0 z1 z2 z3 z4 z5 z6 z7 z8 z9 z10 z11 z12 z13 z14 z15 z16 z17 a1) 15 #[.val (.ref a1), .val (.int (17 : Int32))] [(.int z17)]
  exact go_ireturn d17_15 rfl (Or.inr (Or.inr (Or.inr (Or.inl rfl)))) rfl (congrArg Value.int (nar_z z17 (rg17 G))) (by decide) (by decide) ⟨rfl, rfl⟩
theorem d13_0 : decode prog_10_method_2_code 0 = .ok (.aload_n 1, 1) := by decide +kernel
theorem d13_1 : decode prog_10_method_2_code 1 = .ok (.aload_n 0, 1) := by decide +kernel
theorem d13_2 : decode prog_10_method_2_code 2 = .ok (.invokestatic 7, 3) := by decide +kernel
theorem d13_5 : decode prog_10_method_2_code 5 = .ok (.pop, 1) := by decide +kernel
theorem d13_6 : decode prog_10_method_2_code 6 = .ok (.aload_n 1, 1) := by decide +kernel
theorem d13_7 : decode prog_10_method_2_code 7 = .ok (.invokeinterface 13 1, 5) := by decide +kernel
theorem d13_12 : decode prog_10_method_2_code 12 = .ok (.ifCond .ne 17, 3) := by decide +kernel
theorem d13_29 : decode prog_10_method_2_code 29 = .ok (.iconst 0, 1) := by decide +kernel
theorem d13_30 : decode prog_10_method_2_code 30 = .ok (.istore_n 2, 1) := by decide +kernel
theorem d13_31 : decode prog_10_method_2_code 31 = .ok (.iload_n 2, 1) := by decide +kernel
theorem d13_32 : decode prog_10_method_2_code 32 = .ok (.aload_n 1, 1) := by decide +kernel
theorem d13_33 : decode prog_10_method_2_code 33 = .ok (.invokeinterface 13 1, 5) := by decide +kernel
theorem d13_38 : decode prog_10_method_2_code 38 = .ok (.if_icmp .ge 53, 3) := by decide +kernel
theorem d13_41 : decode prog_10_method_2_code 41 = .ok (.aload_n 1, 1) := by decide +kernel
theorem d13_42 : decode prog_10_method_2_code 42 = .ok (.iload_n 2, 1) := by decide +kernel
theorem d13_43 : decode prog_10_method_2_code 43 = .ok (.invokeinterface 28 2, 5) := by decide +kernel
theorem d13_48 : decode prog_10_method_2_code 48 = .ok (.istore_n 3, 1) := by decide +kernel
theorem d13_49 : decode prog_10_method_2_code 49 = .ok (.iload_n 3, 1) := by decide +kernel
theorem d13_50 : decode prog_10_method_2_code 50 = .ok (.bipush 48, 2) := by decide +kernel
theorem d13_52 : decode prog_10_method_2_code 52 = .ok (.if_icmp .lt 9, 3) := by decide +kernel
theorem d13_55 : decode prog_10_method_2_code 55 = .ok (.iload_n 3, 1) := by decide +kernel
theorem d13_56 : decode prog_10_method_2_code 56 = .ok (.bipush 57, 2) := by decide +kernel
theorem d13_58 : decode prog_10_method_2_code 58 = .ok (.if_icmp .le 27, 3) := by decide +kernel
theorem d13_85 : decode prog_10_method_2_code 85 = .ok (.iinc 2 1, 3) := by decide +kernel
theorem d13_88 : decode prog_10_method_2_code 88 = .ok (.goto (-57), 3) := by decide +kernel
theorem d13_91 : decode prog_10_method_2_code 91 = .ok (.return_, 1) := by decide +kernel
theorem pn13 : plainFor (⟨"com/example/cartonmark/cartonmark/gs1/Gs1Digits", "requireDigits", "(Ljava/lang/String;Ljava/lang/CharSequence;)V"⟩ : MethodName) = true := by first | (apply plainFor_of_name; simp [plainName, overriddenIn]; done) | decide +kernel
def B13_2 : Bdy := (⟨"com/example/cartonmark/cartonmark/gs1/Gs1Digits", "requireDigits", "(Ljava/lang/String;Ljava/lang/CharSequence;)V"⟩, prog_10_method_2_code, 4, none, ({ frames := 4, cells := 0, slots := 0, locals := 53 } : Room))
theorem mt2 (Z : State) (a0 : Array Value) (hw : ∀ d ∈ tables_1, d.before a0 Z = true) (h0 : Heap) (zc : Int32) (r99 : Value) (cl : Cell) (pv : Addr) (SS : Sts Z h0 zc r99 cl pv) (z0 z1 z2 z3 z4 z5 z6 z7 z8 z9 z10 z11 z12 z13 z14 z15 z16 z17 : Int32) (G : RG z0 z1 z2 z3 z4 z5 z6 z7 z8 z9 z10 z11 z12 z13 z14 z15 z16 z17) (hc : HC z0 z1 z2 z3 z4 z5 z6 z7 z8 z9 z10 z11 z12 z13 z14 z15 z16 z17) (a1 : Addr) (a2 : Addr) (b9 : Addr) :
    Met B13_2 Z a0 h0 #[(.ref b9), (.ref a1)] (mem19 a1 a2 z0 z1 z2 z3 z4 z5 z6 z7 z8 z9 z10 z11 z12 z13 z14 z15 z16 z17) (Ret none (mem20 a2 z0 z1 z2 z3 z4 z5 z6 z7 z8 z9 z10 z11 z12 z13 z14 z15 z16 z17 a1)) := by
  refine Met.of pn13 (ls := #[.val (.ref b9), .val (.ref a1), .unset, .unset]) (fun m => by first | (simp [entryFrame, mkF, argsToLocals, Value.category, B13_2]; done) | rfl) ?_
  show Go B13_2 Z a0 h0 _ 0 0 (mem19 a1 a2 z0 z1 z2 z3 z4 z5 z6 z7 z8 z9 z10 z11 z12 z13 z14 z15 z16 z17) 0 #[.val (.ref b9), .val (.ref a1), .unset, .unset] []
  refine go_aloadN 1 rfl d13_0 rfl rfl ?_
  refine go_aloadN 2 rfl d13_1 rfl rfl ?_
  refine go_callS 5 rfl d13_2 (wd hw 80 rfl) (wd hw 81 rfl) (wd hw 82 rfl) (wd hw 83 rfl) (by decide) (mt3 Z a0 hw h0 zc r99 cl pv SS z0 z1 z2 z3 z4 z5 z6 z7 z8 z9 z10 z11 z12 z13 z14 z15 z16 z17 G hc a1 a2 b9) (argsL := [(.ref a1), (.ref b9)]) (rest := []) rfl (ps := [(.object "java/lang/Object"), (.object "java/lang/String")]) (by decide +kernel) rfl rfl 0 rfl (by decide) (by decide) (by decide) (by decide) ?_
  rintro _ _ ⟨rfl, rfl⟩
  show Go B13_2 Z a0 h0 _ 0 0 (mem19 a1 a2 z0 z1 z2 z3 z4 z5 z6 z7 z8 z9 z10 z11 z12 z13 z14 z15 z16 z17) 5 #[.val (.ref b9), .val (.ref a1), .unset, .unset] [(.ref a1)]
  refine go_pop 6 rfl d13_5 rfl rfl ?_
  refine go_aloadN 7 rfl d13_6 rfl rfl ?_
  refine go_callF 12 rfl d13_7 (wd hw 84 rfl) (wd hw 85 rfl) (wd hw 86 rfl) (by decide) (wd hw 87 rfl) (wd hw 88 rfl) (wd hw 89 rfl) (wd hw 90 rfl) (wd hw 91 rfl) (wd hw 35 rfl) (wd hw 92 rfl) (by decide) (Mo.exa (i := 0) rfl) (mt4 Z a0 hw h0 zc r99 cl pv SS z0 z1 z2 z3 z4 z5 z6 z7 z8 z9 z10 z11 z12 z13 z14 z15 z16 z17 G hc a1 a2) (argsL := []) (rest := []) rfl (ps := []) (by decide +kernel) rfl rfl 0 rfl (by decide) (by decide) (by decide) (by decide) ?_
  rintro _ _ ⟨rfl, rfl⟩
  show Go B13_2 Z a0 h0 _ 0 0 (mem19 a1 a2 z0 z1 z2 z3 z4 z5 z6 z7 z8 z9 z10 z11 z12 z13 z14 z15 z16 z17) 12 #[.val (.ref b9), .val (.ref a1), .unset, .unset] [(.int (18 : Int32))]
  refine go_if 29 15 rfl (by decide) rfl d13_12 rfl (fun (hc12 : (18 : Int) ≠ 0) => ?_) (fun (hc12 : ¬ ((18 : Int) ≠ 0)) => absurd hc12 (by decide))
  refine go_iconst (0 : Int32) 30 rfl d13_29 rfl ?_
  refine go_istoreN #[.val (.ref b9), .val (.ref a1), .val (.int (0 : Int32)), .unset] 31 rfl d13_30 rfl rfl ?_
  refine go_iloadN 32 rfl d13_31 rfl ?_
  refine go_aloadN 33 rfl d13_32 rfl rfl ?_
  refine go_callF 38 rfl d13_33 (wd hw 84 rfl) (wd hw 85 rfl) (wd hw 86 rfl) (by decide) (wd hw 87 rfl) (wd hw 88 rfl) (wd hw 89 rfl) (wd hw 90 rfl) (wd hw 91 rfl) (wd hw 35 rfl) (wd hw 92 rfl) (by decide) (Mo.exa (i := 0) rfl) (mt4 Z a0 hw h0 zc r99 cl pv SS z0 z1 z2 z3 z4 z5 z6 z7 z8 z9 z10 z11 z12 z13 z14 z15 z16 z17 G hc a1 a2) (argsL := []) (rest := [(.int (0 : Int32))]) rfl (ps := []) (by decide +kernel) rfl rfl 1 rfl (by decide) (by decide) (by decide) (by decide) ?_
  rintro _ _ ⟨rfl, rfl⟩
  show Go B13_2 Z a0 h0 _ 0 0 (mem19 a1 a2 z0 z1 z2 z3 z4 z5 z6 z7 z8 z9 z10 z11 z12 z13 z14 z15 z16 z17) 38 #[.val (.ref b9), .val (.ref a1), .val (.int (0 : Int32)), .unset] [(.int (18 : Int32)), (.int (0 : Int32))]
  refine go_icmp 91 41 rfl (by decide) rfl d13_38 rfl (fun (hc38 : (18 : Int) ≤ (0 : Int)) => absurd hc38 (by decide)) (fun (hc38 : ¬ ((18 : Int) ≤ (0 : Int))) => ?_)
  refine go_aloadN 42 rfl d13_41 rfl rfl ?_
  refine go_iloadN 43 rfl d13_42 rfl ?_
  refine go_callF 48 rfl d13_43 (wd hw 98 rfl) (wd hw 99 rfl) (wd hw 100 rfl) (by decide) (wd hw 101 rfl) (wd hw 102 rfl) (wd hw 103 rfl) (wd hw 104 rfl) (wd hw 91 rfl) (wd hw 35 rfl) (wd hw 105 rfl) (by decide) (Mo.exa (i := 0) rfl) (mt6 Z a0 hw h0 zc r99 cl pv SS z0 z1 z2 z3 z4 z5 z6 z7 z8 z9 z10 z11 z12 z13 z14 z15 z16 z17 G hc a1 a2) (argsL := [(.int (0 : Int32))]) (rest := []) rfl (ps := [.int]) (by decide +kernel) rfl rfl 0 rfl (by decide) (by decide) (by decide) (by decide) ?_
  rintro _ _ ⟨rfl, rfl⟩
  show Go B13_2 Z a0 h0 _ 0 0 (mem20 a2 z0 z1 z2 z3 z4 z5 z6 z7 z8 z9 z10 z11 z12 z13 z14 z15 z16 z17 a1) 48 #[.val (.ref b9), .val (.ref a1), .val (.int (0 : Int32)), .unset] [(.int z0)]
  refine go_istoreN #[.val (.ref b9), .val (.ref a1), .val (.int (0 : Int32)), .val (.int z0)] 49 rfl d13_48 rfl rfl ?_
  refine go_iloadN 50 rfl d13_49 rfl ?_
  refine go_bipush (48 : Int32) 52 rfl d13_50 rfl ?_
  refine go_icmp 61 55 rfl (by decide) rfl d13_52 rfl (fun (hc52 : z0.toInt < (48 : Int)) => absurd hc52 (by have := rg0 G; omega)) (fun (hc52 : ¬ (z0.toInt < (48 : Int))) => ?_)
  refine go_iloadN 56 rfl d13_55 rfl ?_
  refine go_bipush (57 : Int32) 58 rfl d13_56 rfl ?_
  refine go_icmp 85 61 rfl (by decide) rfl d13_58 rfl (fun (hc58 : z0.toInt ≤ (57 : Int)) => ?_) (fun (hc58 : ¬ (z0.toInt ≤ (57 : Int))) => absurd hc58 (by have := rg0 G; omega))
  refine go_iinc #[.val (.ref b9), .val (.ref a1), .val (.int (1 : Int32)), .val (.int z0)] 88 rfl d13_85 rfl rfl ?_
  refine go_goto 31 (by decide) rfl d13_88 ?_
  refine go_iloadN 32 rfl d13_31 rfl ?_
  refine go_aloadN 33 rfl d13_32 rfl rfl ?_
  refine go_callF 38 rfl d13_33 (wd hw 84 rfl) (wd hw 85 rfl) (wd hw 86 rfl) (by decide) (wd hw 87 rfl) (wd hw 88 rfl) (wd hw 89 rfl) (wd hw 90 rfl) (wd hw 91 rfl) (wd hw 35 rfl) (wd hw 92 rfl) (by decide) (Mo.exa (i := 1) rfl) (mt11 Z a0 hw h0 zc r99 cl pv SS z0 z1 z2 z3 z4 z5 z6 z7 z8 z9 z10 z11 z12 z13 z14 z15 z16 z17 G hc a2 a1) (argsL := []) (rest := [(.int (1 : Int32))]) rfl (ps := []) (by decide +kernel) rfl rfl 1 rfl (by decide) (by decide) (by decide) (by decide) ?_
  rintro _ _ ⟨rfl, rfl⟩
  show Go B13_2 Z a0 h0 _ 0 0 (mem20 a2 z0 z1 z2 z3 z4 z5 z6 z7 z8 z9 z10 z11 z12 z13 z14 z15 z16 z17 a1) 38 #[.val (.ref b9), .val (.ref a1), .val (.int (1 : Int32)), .val (.int z0)] [(.int (18 : Int32)), (.int (1 : Int32))]
  refine go_icmp 91 41 rfl (by decide) rfl d13_38 rfl (fun (hc38 : (18 : Int) ≤ (1 : Int)) => absurd hc38 (by decide)) (fun (hc38 : ¬ ((18 : Int) ≤ (1 : Int))) => ?_)
  refine go_aloadN 42 rfl d13_41 rfl rfl ?_
  refine go_iloadN 43 rfl d13_42 rfl ?_
  refine go_callF 48 rfl d13_43 (wd hw 98 rfl) (wd hw 99 rfl) (wd hw 100 rfl) (by decide) (wd hw 101 rfl) (wd hw 102 rfl) (wd hw 103 rfl) (wd hw 104 rfl) (wd hw 91 rfl) (wd hw 35 rfl) (wd hw 105 rfl) (by decide) (Mo.exa (i := 1) rfl) (mt13 Z a0 hw h0 zc r99 cl pv SS z0 z1 z2 z3 z4 z5 z6 z7 z8 z9 z10 z11 z12 z13 z14 z15 z16 z17 G hc a2 a1) (argsL := [(.int (1 : Int32))]) (rest := []) rfl (ps := [.int]) (by decide +kernel) rfl rfl 0 rfl (by decide) (by decide) (by decide) (by decide) ?_
  rintro _ _ ⟨rfl, rfl⟩
  show Go B13_2 Z a0 h0 _ 0 0 (mem20 a2 z0 z1 z2 z3 z4 z5 z6 z7 z8 z9 z10 z11 z12 z13 z14 z15 z16 z17 a1) 48 #[.val (.ref b9), .val (.ref a1), .val (.int (1 : Int32)), .val (.int z0)] [(.int z1)]
  refine go_istoreN #[.val (.ref b9), .val (.ref a1), .val (.int (1 : Int32)), .val (.int z1)] 49 rfl d13_48 rfl rfl ?_
  refine go_iloadN 50 rfl d13_49 rfl ?_
  refine go_bipush (48 : Int32) 52 rfl d13_50 rfl ?_
  refine go_icmp 61 55 rfl (by decide) rfl d13_52 rfl (fun (hc52 : z1.toInt < (48 : Int)) => absurd hc52 (by have := rg1 G; omega)) (fun (hc52 : ¬ (z1.toInt < (48 : Int))) => ?_)
  refine go_iloadN 56 rfl d13_55 rfl ?_
  refine go_bipush (57 : Int32) 58 rfl d13_56 rfl ?_
  refine go_icmp 85 61 rfl (by decide) rfl d13_58 rfl (fun (hc58 : z1.toInt ≤ (57 : Int)) => ?_) (fun (hc58 : ¬ (z1.toInt ≤ (57 : Int))) => absurd hc58 (by have := rg1 G; omega))
  refine go_iinc #[.val (.ref b9), .val (.ref a1), .val (.int (2 : Int32)), .val (.int z1)] 88 rfl d13_85 rfl rfl ?_
  refine go_goto 31 (by decide) rfl d13_88 ?_
  refine go_iloadN 32 rfl d13_31 rfl ?_
  refine go_aloadN 33 rfl d13_32 rfl rfl ?_
  refine go_callF 38 rfl d13_33 (wd hw 84 rfl) (wd hw 85 rfl) (wd hw 86 rfl) (by decide) (wd hw 87 rfl) (wd hw 88 rfl) (wd hw 89 rfl) (wd hw 90 rfl) (wd hw 91 rfl) (wd hw 35 rfl) (wd hw 92 rfl) (by decide) (Mo.exa (i := 1) rfl) (mt11 Z a0 hw h0 zc r99 cl pv SS z0 z1 z2 z3 z4 z5 z6 z7 z8 z9 z10 z11 z12 z13 z14 z15 z16 z17 G hc a2 a1) (argsL := []) (rest := [(.int (2 : Int32))]) rfl (ps := []) (by decide +kernel) rfl rfl 1 rfl (by decide) (by decide) (by decide) (by decide) ?_
  rintro _ _ ⟨rfl, rfl⟩
  show Go B13_2 Z a0 h0 _ 0 0 (mem20 a2 z0 z1 z2 z3 z4 z5 z6 z7 z8 z9 z10 z11 z12 z13 z14 z15 z16 z17 a1) 38 #[.val (.ref b9), .val (.ref a1), .val (.int (2 : Int32)), .val (.int z1)] [(.int (18 : Int32)), (.int (2 : Int32))]
  refine go_icmp 91 41 rfl (by decide) rfl d13_38 rfl (fun (hc38 : (18 : Int) ≤ (2 : Int)) => absurd hc38 (by decide)) (fun (hc38 : ¬ ((18 : Int) ≤ (2 : Int))) => ?_)
  refine go_aloadN 42 rfl d13_41 rfl rfl ?_
  refine go_iloadN 43 rfl d13_42 rfl ?_
  refine go_callF 48 rfl d13_43 (wd hw 98 rfl) (wd hw 99 rfl) (wd hw 100 rfl) (by decide) (wd hw 101 rfl) (wd hw 102 rfl) (wd hw 103 rfl) (wd hw 104 rfl) (wd hw 91 rfl) (wd hw 35 rfl) (wd hw 105 rfl) (by decide) (Mo.exa (i := 1) rfl) (mt18 Z a0 hw h0 zc r99 cl pv SS z0 z1 z2 z3 z4 z5 z6 z7 z8 z9 z10 z11 z12 z13 z14 z15 z16 z17 G hc a2 a1) (argsL := [(.int (2 : Int32))]) (rest := []) rfl (ps := [.int]) (by decide +kernel) rfl rfl 0 rfl (by decide) (by decide) (by decide) (by decide) ?_
  rintro _ _ ⟨rfl, rfl⟩
  show Go B13_2 Z a0 h0 _ 0 0 (mem20 a2 z0 z1 z2 z3 z4 z5 z6 z7 z8 z9 z10 z11 z12 z13 z14 z15 z16 z17 a1) 48 #[.val (.ref b9), .val (.ref a1), .val (.int (2 : Int32)), .val (.int z1)] [(.int z2)]
  refine go_istoreN #[.val (.ref b9), .val (.ref a1), .val (.int (2 : Int32)), .val (.int z2)] 49 rfl d13_48 rfl rfl ?_
  refine go_iloadN 50 rfl d13_49 rfl ?_
  refine go_bipush (48 : Int32) 52 rfl d13_50 rfl ?_
  refine go_icmp 61 55 rfl (by decide) rfl d13_52 rfl (fun (hc52 : z2.toInt < (48 : Int)) => absurd hc52 (by have := rg2 G; omega)) (fun (hc52 : ¬ (z2.toInt < (48 : Int))) => ?_)
  refine go_iloadN 56 rfl d13_55 rfl ?_
  refine go_bipush (57 : Int32) 58 rfl d13_56 rfl ?_
  refine go_icmp 85 61 rfl (by decide) rfl d13_58 rfl (fun (hc58 : z2.toInt ≤ (57 : Int)) => ?_) (fun (hc58 : ¬ (z2.toInt ≤ (57 : Int))) => absurd hc58 (by have := rg2 G; omega))
  refine go_iinc #[.val (.ref b9), .val (.ref a1), .val (.int (3 : Int32)), .val (.int z2)] 88 rfl d13_85 rfl rfl ?_
  refine go_goto 31 (by decide) rfl d13_88 ?_
  refine go_iloadN 32 rfl d13_31 rfl ?_
  refine go_aloadN 33 rfl d13_32 rfl rfl ?_
  refine go_callF 38 rfl d13_33 (wd hw 84 rfl) (wd hw 85 rfl) (wd hw 86 rfl) (by decide) (wd hw 87 rfl) (wd hw 88 rfl) (wd hw 89 rfl) (wd hw 90 rfl) (wd hw 91 rfl) (wd hw 35 rfl) (wd hw 92 rfl) (by decide) (Mo.exa (i := 1) rfl) (mt11 Z a0 hw h0 zc r99 cl pv SS z0 z1 z2 z3 z4 z5 z6 z7 z8 z9 z10 z11 z12 z13 z14 z15 z16 z17 G hc a2 a1) (argsL := []) (rest := [(.int (3 : Int32))]) rfl (ps := []) (by decide +kernel) rfl rfl 1 rfl (by decide) (by decide) (by decide) (by decide) ?_
  rintro _ _ ⟨rfl, rfl⟩
  show Go B13_2 Z a0 h0 _ 0 0 (mem20 a2 z0 z1 z2 z3 z4 z5 z6 z7 z8 z9 z10 z11 z12 z13 z14 z15 z16 z17 a1) 38 #[.val (.ref b9), .val (.ref a1), .val (.int (3 : Int32)), .val (.int z2)] [(.int (18 : Int32)), (.int (3 : Int32))]
  refine go_icmp 91 41 rfl (by decide) rfl d13_38 rfl (fun (hc38 : (18 : Int) ≤ (3 : Int)) => absurd hc38 (by decide)) (fun (hc38 : ¬ ((18 : Int) ≤ (3 : Int))) => ?_)
  refine go_aloadN 42 rfl d13_41 rfl rfl ?_
  refine go_iloadN 43 rfl d13_42 rfl ?_
  refine go_callF 48 rfl d13_43 (wd hw 98 rfl) (wd hw 99 rfl) (wd hw 100 rfl) (by decide) (wd hw 101 rfl) (wd hw 102 rfl) (wd hw 103 rfl) (wd hw 104 rfl) (wd hw 91 rfl) (wd hw 35 rfl) (wd hw 105 rfl) (by decide) (Mo.exa (i := 1) rfl) (mt22 Z a0 hw h0 zc r99 cl pv SS z0 z1 z2 z3 z4 z5 z6 z7 z8 z9 z10 z11 z12 z13 z14 z15 z16 z17 G hc a2 a1) (argsL := [(.int (3 : Int32))]) (rest := []) rfl (ps := [.int]) (by decide +kernel) rfl rfl 0 rfl (by decide) (by decide) (by decide) (by decide) ?_
  rintro _ _ ⟨rfl, rfl⟩
  show Go B13_2 Z a0 h0 _ 0 0 (mem20 a2 z0 z1 z2 z3 z4 z5 z6 z7 z8 z9 z10 z11 z12 z13 z14 z15 z16 z17 a1) 48 #[.val (.ref b9), .val (.ref a1), .val (.int (3 : Int32)), .val (.int z2)] [(.int z3)]
  refine go_istoreN #[.val (.ref b9), .val (.ref a1), .val (.int (3 : Int32)), .val (.int z3)] 49 rfl d13_48 rfl rfl ?_
  refine go_iloadN 50 rfl d13_49 rfl ?_
  refine go_bipush (48 : Int32) 52 rfl d13_50 rfl ?_
  refine go_icmp 61 55 rfl (by decide) rfl d13_52 rfl (fun (hc52 : z3.toInt < (48 : Int)) => absurd hc52 (by have := rg3 G; omega)) (fun (hc52 : ¬ (z3.toInt < (48 : Int))) => ?_)
  refine go_iloadN 56 rfl d13_55 rfl ?_
  refine go_bipush (57 : Int32) 58 rfl d13_56 rfl ?_
  refine go_icmp 85 61 rfl (by decide) rfl d13_58 rfl (fun (hc58 : z3.toInt ≤ (57 : Int)) => ?_) (fun (hc58 : ¬ (z3.toInt ≤ (57 : Int))) => absurd hc58 (by have := rg3 G; omega))
  refine go_iinc #[.val (.ref b9), .val (.ref a1), .val (.int (4 : Int32)), .val (.int z3)] 88 rfl d13_85 rfl rfl ?_
  refine go_goto 31 (by decide) rfl d13_88 ?_
  refine go_iloadN 32 rfl d13_31 rfl ?_
  refine go_aloadN 33 rfl d13_32 rfl rfl ?_
  refine go_callF 38 rfl d13_33 (wd hw 84 rfl) (wd hw 85 rfl) (wd hw 86 rfl) (by decide) (wd hw 87 rfl) (wd hw 88 rfl) (wd hw 89 rfl) (wd hw 90 rfl) (wd hw 91 rfl) (wd hw 35 rfl) (wd hw 92 rfl) (by decide) (Mo.exa (i := 1) rfl) (mt11 Z a0 hw h0 zc r99 cl pv SS z0 z1 z2 z3 z4 z5 z6 z7 z8 z9 z10 z11 z12 z13 z14 z15 z16 z17 G hc a2 a1) (argsL := []) (rest := [(.int (4 : Int32))]) rfl (ps := []) (by decide +kernel) rfl rfl 1 rfl (by decide) (by decide) (by decide) (by decide) ?_
  rintro _ _ ⟨rfl, rfl⟩
  show Go B13_2 Z a0 h0 _ 0 0 (mem20 a2 z0 z1 z2 z3 z4 z5 z6 z7 z8 z9 z10 z11 z12 z13 z14 z15 z16 z17 a1) 38 #[.val (.ref b9), .val (.ref a1), .val (.int (4 : Int32)), .val (.int z3)] [(.int (18 : Int32)), (.int (4 : Int32))]
  refine go_icmp 91 41 rfl (by decide) rfl d13_38 rfl (fun (hc38 : (18 : Int) ≤ (4 : Int)) => absurd hc38 (by decide)) (fun (hc38 : ¬ ((18 : Int) ≤ (4 : Int))) => ?_)
  refine go_aloadN 42 rfl d13_41 rfl rfl ?_
  refine go_iloadN 43 rfl d13_42 rfl ?_
  refine go_callF 48 rfl d13_43 (wd hw 98 rfl) (wd hw 99 rfl) (wd hw 100 rfl) (by decide) (wd hw 101 rfl) (wd hw 102 rfl) (wd hw 103 rfl) (wd hw 104 rfl) (wd hw 91 rfl) (wd hw 35 rfl) (wd hw 105 rfl) (by decide) (Mo.exa (i := 1) rfl) (mt26 Z a0 hw h0 zc r99 cl pv SS z0 z1 z2 z3 z4 z5 z6 z7 z8 z9 z10 z11 z12 z13 z14 z15 z16 z17 G hc a2 a1) (argsL := [(.int (4 : Int32))]) (rest := []) rfl (ps := [.int]) (by decide +kernel) rfl rfl 0 rfl (by decide) (by decide) (by decide) (by decide) ?_
  rintro _ _ ⟨rfl, rfl⟩
  show Go B13_2 Z a0 h0 _ 0 0 (mem20 a2 z0 z1 z2 z3 z4 z5 z6 z7 z8 z9 z10 z11 z12 z13 z14 z15 z16 z17 a1) 48 #[.val (.ref b9), .val (.ref a1), .val (.int (4 : Int32)), .val (.int z3)] [(.int z4)]
  refine go_istoreN #[.val (.ref b9), .val (.ref a1), .val (.int (4 : Int32)), .val (.int z4)] 49 rfl d13_48 rfl rfl ?_
  refine go_iloadN 50 rfl d13_49 rfl ?_
  refine go_bipush (48 : Int32) 52 rfl d13_50 rfl ?_
  refine go_icmp 61 55 rfl (by decide) rfl d13_52 rfl (fun (hc52 : z4.toInt < (48 : Int)) => absurd hc52 (by have := rg4 G; omega)) (fun (hc52 : ¬ (z4.toInt < (48 : Int))) => ?_)
  refine go_iloadN 56 rfl d13_55 rfl ?_
  refine go_bipush (57 : Int32) 58 rfl d13_56 rfl ?_
  refine go_icmp 85 61 rfl (by decide) rfl d13_58 rfl (fun (hc58 : z4.toInt ≤ (57 : Int)) => ?_) (fun (hc58 : ¬ (z4.toInt ≤ (57 : Int))) => absurd hc58 (by have := rg4 G; omega))
  refine go_iinc #[.val (.ref b9), .val (.ref a1), .val (.int (5 : Int32)), .val (.int z4)] 88 rfl d13_85 rfl rfl ?_
  refine go_goto 31 (by decide) rfl d13_88 ?_
  refine go_iloadN 32 rfl d13_31 rfl ?_
  refine go_aloadN 33 rfl d13_32 rfl rfl ?_
  refine go_callF 38 rfl d13_33 (wd hw 84 rfl) (wd hw 85 rfl) (wd hw 86 rfl) (by decide) (wd hw 87 rfl) (wd hw 88 rfl) (wd hw 89 rfl) (wd hw 90 rfl) (wd hw 91 rfl) (wd hw 35 rfl) (wd hw 92 rfl) (by decide) (Mo.exa (i := 1) rfl) (mt11 Z a0 hw h0 zc r99 cl pv SS z0 z1 z2 z3 z4 z5 z6 z7 z8 z9 z10 z11 z12 z13 z14 z15 z16 z17 G hc a2 a1) (argsL := []) (rest := [(.int (5 : Int32))]) rfl (ps := []) (by decide +kernel) rfl rfl 1 rfl (by decide) (by decide) (by decide) (by decide) ?_
  rintro _ _ ⟨rfl, rfl⟩
  show Go B13_2 Z a0 h0 _ 0 0 (mem20 a2 z0 z1 z2 z3 z4 z5 z6 z7 z8 z9 z10 z11 z12 z13 z14 z15 z16 z17 a1) 38 #[.val (.ref b9), .val (.ref a1), .val (.int (5 : Int32)), .val (.int z4)] [(.int (18 : Int32)), (.int (5 : Int32))]
  refine go_icmp 91 41 rfl (by decide) rfl d13_38 rfl (fun (hc38 : (18 : Int) ≤ (5 : Int)) => absurd hc38 (by decide)) (fun (hc38 : ¬ ((18 : Int) ≤ (5 : Int))) => ?_)
  refine go_aloadN 42 rfl d13_41 rfl rfl ?_
  refine go_iloadN 43 rfl d13_42 rfl ?_
  refine go_callF 48 rfl d13_43 (wd hw 98 rfl) (wd hw 99 rfl) (wd hw 100 rfl) (by decide) (wd hw 101 rfl) (wd hw 102 rfl) (wd hw 103 rfl) (wd hw 104 rfl) (wd hw 91 rfl) (wd hw 35 rfl) (wd hw 105 rfl) (by decide) (Mo.exa (i := 1) rfl) (mt30 Z a0 hw h0 zc r99 cl pv SS z0 z1 z2 z3 z4 z5 z6 z7 z8 z9 z10 z11 z12 z13 z14 z15 z16 z17 G hc a2 a1) (argsL := [(.int (5 : Int32))]) (rest := []) rfl (ps := [.int]) (by decide +kernel) rfl rfl 0 rfl (by decide) (by decide) (by decide) (by decide) ?_
  rintro _ _ ⟨rfl, rfl⟩
  show Go B13_2 Z a0 h0 _ 0 0 (mem20 a2 z0 z1 z2 z3 z4 z5 z6 z7 z8 z9 z10 z11 z12 z13 z14 z15 z16 z17 a1) 48 #[.val (.ref b9), .val (.ref a1), .val (.int (5 : Int32)), .val (.int z4)] [(.int z5)]
  refine go_istoreN #[.val (.ref b9), .val (.ref a1), .val (.int (5 : Int32)), .val (.int z5)] 49 rfl d13_48 rfl rfl ?_
  refine go_iloadN 50 rfl d13_49 rfl ?_
  refine go_bipush (48 : Int32) 52 rfl d13_50 rfl ?_
  refine go_icmp 61 55 rfl (by decide) rfl d13_52 rfl (fun (hc52 : z5.toInt < (48 : Int)) => absurd hc52 (by have := rg5 G; omega)) (fun (hc52 : ¬ (z5.toInt < (48 : Int))) => ?_)
  refine go_iloadN 56 rfl d13_55 rfl ?_
  refine go_bipush (57 : Int32) 58 rfl d13_56 rfl ?_
  refine go_icmp 85 61 rfl (by decide) rfl d13_58 rfl (fun (hc58 : z5.toInt ≤ (57 : Int)) => ?_) (fun (hc58 : ¬ (z5.toInt ≤ (57 : Int))) => absurd hc58 (by have := rg5 G; omega))
  refine go_iinc #[.val (.ref b9), .val (.ref a1), .val (.int (6 : Int32)), .val (.int z5)] 88 rfl d13_85 rfl rfl ?_
  refine go_goto 31 (by decide) rfl d13_88 ?_
  refine go_iloadN 32 rfl d13_31 rfl ?_
  refine go_aloadN 33 rfl d13_32 rfl rfl ?_
  refine go_callF 38 rfl d13_33 (wd hw 84 rfl) (wd hw 85 rfl) (wd hw 86 rfl) (by decide) (wd hw 87 rfl) (wd hw 88 rfl) (wd hw 89 rfl) (wd hw 90 rfl) (wd hw 91 rfl) (wd hw 35 rfl) (wd hw 92 rfl) (by decide) (Mo.exa (i := 1) rfl) (mt11 Z a0 hw h0 zc r99 cl pv SS z0 z1 z2 z3 z4 z5 z6 z7 z8 z9 z10 z11 z12 z13 z14 z15 z16 z17 G hc a2 a1) (argsL := []) (rest := [(.int (6 : Int32))]) rfl (ps := []) (by decide +kernel) rfl rfl 1 rfl (by decide) (by decide) (by decide) (by decide) ?_
  rintro _ _ ⟨rfl, rfl⟩
  show Go B13_2 Z a0 h0 _ 0 0 (mem20 a2 z0 z1 z2 z3 z4 z5 z6 z7 z8 z9 z10 z11 z12 z13 z14 z15 z16 z17 a1) 38 #[.val (.ref b9), .val (.ref a1), .val (.int (6 : Int32)), .val (.int z5)] [(.int (18 : Int32)), (.int (6 : Int32))]
  refine go_icmp 91 41 rfl (by decide) rfl d13_38 rfl (fun (hc38 : (18 : Int) ≤ (6 : Int)) => absurd hc38 (by decide)) (fun (hc38 : ¬ ((18 : Int) ≤ (6 : Int))) => ?_)
  refine go_aloadN 42 rfl d13_41 rfl rfl ?_
  refine go_iloadN 43 rfl d13_42 rfl ?_
  refine go_callF 48 rfl d13_43 (wd hw 98 rfl) (wd hw 99 rfl) (wd hw 100 rfl) (by decide) (wd hw 101 rfl) (wd hw 102 rfl) (wd hw 103 rfl) (wd hw 104 rfl) (wd hw 91 rfl) (wd hw 35 rfl) (wd hw 105 rfl) (by decide) (Mo.exa (i := 1) rfl) (mt34 Z a0 hw h0 zc r99 cl pv SS z0 z1 z2 z3 z4 z5 z6 z7 z8 z9 z10 z11 z12 z13 z14 z15 z16 z17 G hc a2 a1) (argsL := [(.int (6 : Int32))]) (rest := []) rfl (ps := [.int]) (by decide +kernel) rfl rfl 0 rfl (by decide) (by decide) (by decide) (by decide) ?_
  rintro _ _ ⟨rfl, rfl⟩
  show Go B13_2 Z a0 h0 _ 0 0 (mem20 a2 z0 z1 z2 z3 z4 z5 z6 z7 z8 z9 z10 z11 z12 z13 z14 z15 z16 z17 a1) 48 #[.val (.ref b9), .val (.ref a1), .val (.int (6 : Int32)), .val (.int z5)] [(.int z6)]
  refine go_istoreN #[.val (.ref b9), .val (.ref a1), .val (.int (6 : Int32)), .val (.int z6)] 49 rfl d13_48 rfl rfl ?_
  refine go_iloadN 50 rfl d13_49 rfl ?_
  refine go_bipush (48 : Int32) 52 rfl d13_50 rfl ?_
  refine go_icmp 61 55 rfl (by decide) rfl d13_52 rfl (fun (hc52 : z6.toInt < (48 : Int)) => absurd hc52 (by have := rg6 G; omega)) (fun (hc52 : ¬ (z6.toInt < (48 : Int))) => ?_)
  refine go_iloadN 56 rfl d13_55 rfl ?_
  refine go_bipush (57 : Int32) 58 rfl d13_56 rfl ?_
  refine go_icmp 85 61 rfl (by decide) rfl d13_58 rfl (fun (hc58 : z6.toInt ≤ (57 : Int)) => ?_) (fun (hc58 : ¬ (z6.toInt ≤ (57 : Int))) => absurd hc58 (by have := rg6 G; omega))
  refine go_iinc #[.val (.ref b9), .val (.ref a1), .val (.int (7 : Int32)), .val (.int z6)] 88 rfl d13_85 rfl rfl ?_
  refine go_goto 31 (by decide) rfl d13_88 ?_
  refine go_iloadN 32 rfl d13_31 rfl ?_
  refine go_aloadN 33 rfl d13_32 rfl rfl ?_
  refine go_callF 38 rfl d13_33 (wd hw 84 rfl) (wd hw 85 rfl) (wd hw 86 rfl) (by decide) (wd hw 87 rfl) (wd hw 88 rfl) (wd hw 89 rfl) (wd hw 90 rfl) (wd hw 91 rfl) (wd hw 35 rfl) (wd hw 92 rfl) (by decide) (Mo.exa (i := 1) rfl) (mt11 Z a0 hw h0 zc r99 cl pv SS z0 z1 z2 z3 z4 z5 z6 z7 z8 z9 z10 z11 z12 z13 z14 z15 z16 z17 G hc a2 a1) (argsL := []) (rest := [(.int (7 : Int32))]) rfl (ps := []) (by decide +kernel) rfl rfl 1 rfl (by decide) (by decide) (by decide) (by decide) ?_
  rintro _ _ ⟨rfl, rfl⟩
  show Go B13_2 Z a0 h0 _ 0 0 (mem20 a2 z0 z1 z2 z3 z4 z5 z6 z7 z8 z9 z10 z11 z12 z13 z14 z15 z16 z17 a1) 38 #[.val (.ref b9), .val (.ref a1), .val (.int (7 : Int32)), .val (.int z6)] [(.int (18 : Int32)), (.int (7 : Int32))]
  refine go_icmp 91 41 rfl (by decide) rfl d13_38 rfl (fun (hc38 : (18 : Int) ≤ (7 : Int)) => absurd hc38 (by decide)) (fun (hc38 : ¬ ((18 : Int) ≤ (7 : Int))) => ?_)
  refine go_aloadN 42 rfl d13_41 rfl rfl ?_
  refine go_iloadN 43 rfl d13_42 rfl ?_
  refine go_callF 48 rfl d13_43 (wd hw 98 rfl) (wd hw 99 rfl) (wd hw 100 rfl) (by decide) (wd hw 101 rfl) (wd hw 102 rfl) (wd hw 103 rfl) (wd hw 104 rfl) (wd hw 91 rfl) (wd hw 35 rfl) (wd hw 105 rfl) (by decide) (Mo.exa (i := 1) rfl) (mt38 Z a0 hw h0 zc r99 cl pv SS z0 z1 z2 z3 z4 z5 z6 z7 z8 z9 z10 z11 z12 z13 z14 z15 z16 z17 G hc a2 a1) (argsL := [(.int (7 : Int32))]) (rest := []) rfl (ps := [.int]) (by decide +kernel) rfl rfl 0 rfl (by decide) (by decide) (by decide) (by decide) ?_
  rintro _ _ ⟨rfl, rfl⟩
  show Go B13_2 Z a0 h0 _ 0 0 (mem20 a2 z0 z1 z2 z3 z4 z5 z6 z7 z8 z9 z10 z11 z12 z13 z14 z15 z16 z17 a1) 48 #[.val (.ref b9), .val (.ref a1), .val (.int (7 : Int32)), .val (.int z6)] [(.int z7)]
  refine go_istoreN #[.val (.ref b9), .val (.ref a1), .val (.int (7 : Int32)), .val (.int z7)] 49 rfl d13_48 rfl rfl ?_
  refine go_iloadN 50 rfl d13_49 rfl ?_
  refine go_bipush (48 : Int32) 52 rfl d13_50 rfl ?_
  refine go_icmp 61 55 rfl (by decide) rfl d13_52 rfl (fun (hc52 : z7.toInt < (48 : Int)) => absurd hc52 (by have := rg7 G; omega)) (fun (hc52 : ¬ (z7.toInt < (48 : Int))) => ?_)
  refine go_iloadN 56 rfl d13_55 rfl ?_
  refine go_bipush (57 : Int32) 58 rfl d13_56 rfl ?_
  refine go_icmp 85 61 rfl (by decide) rfl d13_58 rfl (fun (hc58 : z7.toInt ≤ (57 : Int)) => ?_) (fun (hc58 : ¬ (z7.toInt ≤ (57 : Int))) => absurd hc58 (by have := rg7 G; omega))
  refine go_iinc #[.val (.ref b9), .val (.ref a1), .val (.int (8 : Int32)), .val (.int z7)] 88 rfl d13_85 rfl rfl ?_
  refine go_goto 31 (by decide) rfl d13_88 ?_
  refine go_iloadN 32 rfl d13_31 rfl ?_
  refine go_aloadN 33 rfl d13_32 rfl rfl ?_
  refine go_callF 38 rfl d13_33 (wd hw 84 rfl) (wd hw 85 rfl) (wd hw 86 rfl) (by decide) (wd hw 87 rfl) (wd hw 88 rfl) (wd hw 89 rfl) (wd hw 90 rfl) (wd hw 91 rfl) (wd hw 35 rfl) (wd hw 92 rfl) (by decide) (Mo.exa (i := 1) rfl) (mt11 Z a0 hw h0 zc r99 cl pv SS z0 z1 z2 z3 z4 z5 z6 z7 z8 z9 z10 z11 z12 z13 z14 z15 z16 z17 G hc a2 a1) (argsL := []) (rest := [(.int (8 : Int32))]) rfl (ps := []) (by decide +kernel) rfl rfl 1 rfl (by decide) (by decide) (by decide) (by decide) ?_
  rintro _ _ ⟨rfl, rfl⟩
  show Go B13_2 Z a0 h0 _ 0 0 (mem20 a2 z0 z1 z2 z3 z4 z5 z6 z7 z8 z9 z10 z11 z12 z13 z14 z15 z16 z17 a1) 38 #[.val (.ref b9), .val (.ref a1), .val (.int (8 : Int32)), .val (.int z7)] [(.int (18 : Int32)), (.int (8 : Int32))]
  refine go_icmp 91 41 rfl (by decide) rfl d13_38 rfl (fun (hc38 : (18 : Int) ≤ (8 : Int)) => absurd hc38 (by decide)) (fun (hc38 : ¬ ((18 : Int) ≤ (8 : Int))) => ?_)
  refine go_aloadN 42 rfl d13_41 rfl rfl ?_
  refine go_iloadN 43 rfl d13_42 rfl ?_
  refine go_callF 48 rfl d13_43 (wd hw 98 rfl) (wd hw 99 rfl) (wd hw 100 rfl) (by decide) (wd hw 101 rfl) (wd hw 102 rfl) (wd hw 103 rfl) (wd hw 104 rfl) (wd hw 91 rfl) (wd hw 35 rfl) (wd hw 105 rfl) (by decide) (Mo.exa (i := 1) rfl) (mt42 Z a0 hw h0 zc r99 cl pv SS z0 z1 z2 z3 z4 z5 z6 z7 z8 z9 z10 z11 z12 z13 z14 z15 z16 z17 G hc a2 a1) (argsL := [(.int (8 : Int32))]) (rest := []) rfl (ps := [.int]) (by decide +kernel) rfl rfl 0 rfl (by decide) (by decide) (by decide) (by decide) ?_
  rintro _ _ ⟨rfl, rfl⟩
  show Go B13_2 Z a0 h0 _ 0 0 (mem20 a2 z0 z1 z2 z3 z4 z5 z6 z7 z8 z9 z10 z11 z12 z13 z14 z15 z16 z17 a1) 48 #[.val (.ref b9), .val (.ref a1), .val (.int (8 : Int32)), .val (.int z7)] [(.int z8)]
  refine go_istoreN #[.val (.ref b9), .val (.ref a1), .val (.int (8 : Int32)), .val (.int z8)] 49 rfl d13_48 rfl rfl ?_
  refine go_iloadN 50 rfl d13_49 rfl ?_
  refine go_bipush (48 : Int32) 52 rfl d13_50 rfl ?_
  refine go_icmp 61 55 rfl (by decide) rfl d13_52 rfl (fun (hc52 : z8.toInt < (48 : Int)) => absurd hc52 (by have := rg8 G; omega)) (fun (hc52 : ¬ (z8.toInt < (48 : Int))) => ?_)
  refine go_iloadN 56 rfl d13_55 rfl ?_
  refine go_bipush (57 : Int32) 58 rfl d13_56 rfl ?_
  refine go_icmp 85 61 rfl (by decide) rfl d13_58 rfl (fun (hc58 : z8.toInt ≤ (57 : Int)) => ?_) (fun (hc58 : ¬ (z8.toInt ≤ (57 : Int))) => absurd hc58 (by have := rg8 G; omega))
  refine go_iinc #[.val (.ref b9), .val (.ref a1), .val (.int (9 : Int32)), .val (.int z8)] 88 rfl d13_85 rfl rfl ?_
  refine go_goto 31 (by decide) rfl d13_88 ?_
  refine go_iloadN 32 rfl d13_31 rfl ?_
  refine go_aloadN 33 rfl d13_32 rfl rfl ?_
  refine go_callF 38 rfl d13_33 (wd hw 84 rfl) (wd hw 85 rfl) (wd hw 86 rfl) (by decide) (wd hw 87 rfl) (wd hw 88 rfl) (wd hw 89 rfl) (wd hw 90 rfl) (wd hw 91 rfl) (wd hw 35 rfl) (wd hw 92 rfl) (by decide) (Mo.exa (i := 1) rfl) (mt11 Z a0 hw h0 zc r99 cl pv SS z0 z1 z2 z3 z4 z5 z6 z7 z8 z9 z10 z11 z12 z13 z14 z15 z16 z17 G hc a2 a1) (argsL := []) (rest := [(.int (9 : Int32))]) rfl (ps := []) (by decide +kernel) rfl rfl 1 rfl (by decide) (by decide) (by decide) (by decide) ?_
  rintro _ _ ⟨rfl, rfl⟩
  show Go B13_2 Z a0 h0 _ 0 0 (mem20 a2 z0 z1 z2 z3 z4 z5 z6 z7 z8 z9 z10 z11 z12 z13 z14 z15 z16 z17 a1) 38 #[.val (.ref b9), .val (.ref a1), .val (.int (9 : Int32)), .val (.int z8)] [(.int (18 : Int32)), (.int (9 : Int32))]
  refine go_icmp 91 41 rfl (by decide) rfl d13_38 rfl (fun (hc38 : (18 : Int) ≤ (9 : Int)) => absurd hc38 (by decide)) (fun (hc38 : ¬ ((18 : Int) ≤ (9 : Int))) => ?_)
  refine go_aloadN 42 rfl d13_41 rfl rfl ?_
  refine go_iloadN 43 rfl d13_42 rfl ?_
  refine go_callF 48 rfl d13_43 (wd hw 98 rfl) (wd hw 99 rfl) (wd hw 100 rfl) (by decide) (wd hw 101 rfl) (wd hw 102 rfl) (wd hw 103 rfl) (wd hw 104 rfl) (wd hw 91 rfl) (wd hw 35 rfl) (wd hw 105 rfl) (by decide) (Mo.exa (i := 1) rfl) (mt46 Z a0 hw h0 zc r99 cl pv SS z0 z1 z2 z3 z4 z5 z6 z7 z8 z9 z10 z11 z12 z13 z14 z15 z16 z17 G hc a2 a1) (argsL := [(.int (9 : Int32))]) (rest := []) rfl (ps := [.int]) (by decide +kernel) rfl rfl 0 rfl (by decide) (by decide) (by decide) (by decide) ?_
  rintro _ _ ⟨rfl, rfl⟩
  show Go B13_2 Z a0 h0 _ 0 0 (mem20 a2 z0 z1 z2 z3 z4 z5 z6 z7 z8 z9 z10 z11 z12 z13 z14 z15 z16 z17 a1) 48 #[.val (.ref b9), .val (.ref a1), .val (.int (9 : Int32)), .val (.int z8)] [(.int z9)]
  refine go_istoreN #[.val (.ref b9), .val (.ref a1), .val (.int (9 : Int32)), .val (.int z9)] 49 rfl d13_48 rfl rfl ?_
  refine go_iloadN 50 rfl d13_49 rfl ?_
  refine go_bipush (48 : Int32) 52 rfl d13_50 rfl ?_
  refine go_icmp 61 55 rfl (by decide) rfl d13_52 rfl (fun (hc52 : z9.toInt < (48 : Int)) => absurd hc52 (by have := rg9 G; omega)) (fun (hc52 : ¬ (z9.toInt < (48 : Int))) => ?_)
  refine go_iloadN 56 rfl d13_55 rfl ?_
  refine go_bipush (57 : Int32) 58 rfl d13_56 rfl ?_
  refine go_icmp 85 61 rfl (by decide) rfl d13_58 rfl (fun (hc58 : z9.toInt ≤ (57 : Int)) => ?_) (fun (hc58 : ¬ (z9.toInt ≤ (57 : Int))) => absurd hc58 (by have := rg9 G; omega))
  refine go_iinc #[.val (.ref b9), .val (.ref a1), .val (.int (10 : Int32)), .val (.int z9)] 88 rfl d13_85 rfl rfl ?_
  refine go_goto 31 (by decide) rfl d13_88 ?_
  refine go_iloadN 32 rfl d13_31 rfl ?_
  refine go_aloadN 33 rfl d13_32 rfl rfl ?_
  refine go_callF 38 rfl d13_33 (wd hw 84 rfl) (wd hw 85 rfl) (wd hw 86 rfl) (by decide) (wd hw 87 rfl) (wd hw 88 rfl) (wd hw 89 rfl) (wd hw 90 rfl) (wd hw 91 rfl) (wd hw 35 rfl) (wd hw 92 rfl) (by decide) (Mo.exa (i := 1) rfl) (mt11 Z a0 hw h0 zc r99 cl pv SS z0 z1 z2 z3 z4 z5 z6 z7 z8 z9 z10 z11 z12 z13 z14 z15 z16 z17 G hc a2 a1) (argsL := []) (rest := [(.int (10 : Int32))]) rfl (ps := []) (by decide +kernel) rfl rfl 1 rfl (by decide) (by decide) (by decide) (by decide) ?_
  rintro _ _ ⟨rfl, rfl⟩
  show Go B13_2 Z a0 h0 _ 0 0 (mem20 a2 z0 z1 z2 z3 z4 z5 z6 z7 z8 z9 z10 z11 z12 z13 z14 z15 z16 z17 a1) 38 #[.val (.ref b9), .val (.ref a1), .val (.int (10 : Int32)), .val (.int z9)] [(.int (18 : Int32)), (.int (10 : Int32))]
  refine go_icmp 91 41 rfl (by decide) rfl d13_38 rfl (fun (hc38 : (18 : Int) ≤ (10 : Int)) => absurd hc38 (by decide)) (fun (hc38 : ¬ ((18 : Int) ≤ (10 : Int))) => ?_)
  refine go_aloadN 42 rfl d13_41 rfl rfl ?_
  refine go_iloadN 43 rfl d13_42 rfl ?_
  refine go_callF 48 rfl d13_43 (wd hw 98 rfl) (wd hw 99 rfl) (wd hw 100 rfl) (by decide) (wd hw 101 rfl) (wd hw 102 rfl) (wd hw 103 rfl) (wd hw 104 rfl) (wd hw 91 rfl) (wd hw 35 rfl) (wd hw 105 rfl) (by decide) (Mo.exa (i := 1) rfl) (mt50 Z a0 hw h0 zc r99 cl pv SS z0 z1 z2 z3 z4 z5 z6 z7 z8 z9 z10 z11 z12 z13 z14 z15 z16 z17 G hc a2 a1) (argsL := [(.int (10 : Int32))]) (rest := []) rfl (ps := [.int]) (by decide +kernel) rfl rfl 0 rfl (by decide) (by decide) (by decide) (by decide) ?_
  rintro _ _ ⟨rfl, rfl⟩
  show Go B13_2 Z a0 h0 _ 0 0 (mem20 a2 z0 z1 z2 z3 z4 z5 z6 z7 z8 z9 z10 z11 z12 z13 z14 z15 z16 z17 a1) 48 #[.val (.ref b9), .val (.ref a1), .val (.int (10 : Int32)), .val (.int z9)] [(.int z10)]
  refine go_istoreN #[.val (.ref b9), .val (.ref a1), .val (.int (10 : Int32)), .val (.int z10)] 49 rfl d13_48 rfl rfl ?_
  refine go_iloadN 50 rfl d13_49 rfl ?_
  refine go_bipush (48 : Int32) 52 rfl d13_50 rfl ?_
  refine go_icmp 61 55 rfl (by decide) rfl d13_52 rfl (fun (hc52 : z10.toInt < (48 : Int)) => absurd hc52 (by have := rg10 G; omega)) (fun (hc52 : ¬ (z10.toInt < (48 : Int))) => ?_)
  refine go_iloadN 56 rfl d13_55 rfl ?_
  refine go_bipush (57 : Int32) 58 rfl d13_56 rfl ?_
  refine go_icmp 85 61 rfl (by decide) rfl d13_58 rfl (fun (hc58 : z10.toInt ≤ (57 : Int)) => ?_) (fun (hc58 : ¬ (z10.toInt ≤ (57 : Int))) => absurd hc58 (by have := rg10 G; omega))
  refine go_iinc #[.val (.ref b9), .val (.ref a1), .val (.int (11 : Int32)), .val (.int z10)] 88 rfl d13_85 rfl rfl ?_
  refine go_goto 31 (by decide) rfl d13_88 ?_
  refine go_iloadN 32 rfl d13_31 rfl ?_
  refine go_aloadN 33 rfl d13_32 rfl rfl ?_
  refine go_callF 38 rfl d13_33 (wd hw 84 rfl) (wd hw 85 rfl) (wd hw 86 rfl) (by decide) (wd hw 87 rfl) (wd hw 88 rfl) (wd hw 89 rfl) (wd hw 90 rfl) (wd hw 91 rfl) (wd hw 35 rfl) (wd hw 92 rfl) (by decide) (Mo.exa (i := 1) rfl) (mt11 Z a0 hw h0 zc r99 cl pv SS z0 z1 z2 z3 z4 z5 z6 z7 z8 z9 z10 z11 z12 z13 z14 z15 z16 z17 G hc a2 a1) (argsL := []) (rest := [(.int (11 : Int32))]) rfl (ps := []) (by decide +kernel) rfl rfl 1 rfl (by decide) (by decide) (by decide) (by decide) ?_
  rintro _ _ ⟨rfl, rfl⟩
  show Go B13_2 Z a0 h0 _ 0 0 (mem20 a2 z0 z1 z2 z3 z4 z5 z6 z7 z8 z9 z10 z11 z12 z13 z14 z15 z16 z17 a1) 38 #[.val (.ref b9), .val (.ref a1), .val (.int (11 : Int32)), .val (.int z10)] [(.int (18 : Int32)), (.int (11 : Int32))]
  refine go_icmp 91 41 rfl (by decide) rfl d13_38 rfl (fun (hc38 : (18 : Int) ≤ (11 : Int)) => absurd hc38 (by decide)) (fun (hc38 : ¬ ((18 : Int) ≤ (11 : Int))) => ?_)
  refine go_aloadN 42 rfl d13_41 rfl rfl ?_
  refine go_iloadN 43 rfl d13_42 rfl ?_
  refine go_callF 48 rfl d13_43 (wd hw 98 rfl) (wd hw 99 rfl) (wd hw 100 rfl) (by decide) (wd hw 101 rfl) (wd hw 102 rfl) (wd hw 103 rfl) (wd hw 104 rfl) (wd hw 91 rfl) (wd hw 35 rfl) (wd hw 105 rfl) (by decide) (Mo.exa (i := 1) rfl) (mt54 Z a0 hw h0 zc r99 cl pv SS z0 z1 z2 z3 z4 z5 z6 z7 z8 z9 z10 z11 z12 z13 z14 z15 z16 z17 G hc a2 a1) (argsL := [(.int (11 : Int32))]) (rest := []) rfl (ps := [.int]) (by decide +kernel) rfl rfl 0 rfl (by decide) (by decide) (by decide) (by decide) ?_
  rintro _ _ ⟨rfl, rfl⟩
  show Go B13_2 Z a0 h0 _ 0 0 (mem20 a2 z0 z1 z2 z3 z4 z5 z6 z7 z8 z9 z10 z11 z12 z13 z14 z15 z16 z17 a1) 48 #[.val (.ref b9), .val (.ref a1), .val (.int (11 : Int32)), .val (.int z10)] [(.int z11)]
  refine go_istoreN #[.val (.ref b9), .val (.ref a1), .val (.int (11 : Int32)), .val (.int z11)] 49 rfl d13_48 rfl rfl ?_
  refine go_iloadN 50 rfl d13_49 rfl ?_
  refine go_bipush (48 : Int32) 52 rfl d13_50 rfl ?_
  refine go_icmp 61 55 rfl (by decide) rfl d13_52 rfl (fun (hc52 : z11.toInt < (48 : Int)) => absurd hc52 (by have := rg11 G; omega)) (fun (hc52 : ¬ (z11.toInt < (48 : Int))) => ?_)
  refine go_iloadN 56 rfl d13_55 rfl ?_
  refine go_bipush (57 : Int32) 58 rfl d13_56 rfl ?_
  refine go_icmp 85 61 rfl (by decide) rfl d13_58 rfl (fun (hc58 : z11.toInt ≤ (57 : Int)) => ?_) (fun (hc58 : ¬ (z11.toInt ≤ (57 : Int))) => absurd hc58 (by have := rg11 G; omega))
  refine go_iinc #[.val (.ref b9), .val (.ref a1), .val (.int (12 : Int32)), .val (.int z11)] 88 rfl d13_85 rfl rfl ?_
  refine go_goto 31 (by decide) rfl d13_88 ?_
  refine go_iloadN 32 rfl d13_31 rfl ?_
  refine go_aloadN 33 rfl d13_32 rfl rfl ?_
  refine go_callF 38 rfl d13_33 (wd hw 84 rfl) (wd hw 85 rfl) (wd hw 86 rfl) (by decide) (wd hw 87 rfl) (wd hw 88 rfl) (wd hw 89 rfl) (wd hw 90 rfl) (wd hw 91 rfl) (wd hw 35 rfl) (wd hw 92 rfl) (by decide) (Mo.exa (i := 1) rfl) (mt11 Z a0 hw h0 zc r99 cl pv SS z0 z1 z2 z3 z4 z5 z6 z7 z8 z9 z10 z11 z12 z13 z14 z15 z16 z17 G hc a2 a1) (argsL := []) (rest := [(.int (12 : Int32))]) rfl (ps := []) (by decide +kernel) rfl rfl 1 rfl (by decide) (by decide) (by decide) (by decide) ?_
  rintro _ _ ⟨rfl, rfl⟩
  show Go B13_2 Z a0 h0 _ 0 0 (mem20 a2 z0 z1 z2 z3 z4 z5 z6 z7 z8 z9 z10 z11 z12 z13 z14 z15 z16 z17 a1) 38 #[.val (.ref b9), .val (.ref a1), .val (.int (12 : Int32)), .val (.int z11)] [(.int (18 : Int32)), (.int (12 : Int32))]
  refine go_icmp 91 41 rfl (by decide) rfl d13_38 rfl (fun (hc38 : (18 : Int) ≤ (12 : Int)) => absurd hc38 (by decide)) (fun (hc38 : ¬ ((18 : Int) ≤ (12 : Int))) => ?_)
  refine go_aloadN 42 rfl d13_41 rfl rfl ?_
  refine go_iloadN 43 rfl d13_42 rfl ?_
  refine go_callF 48 rfl d13_43 (wd hw 98 rfl) (wd hw 99 rfl) (wd hw 100 rfl) (by decide) (wd hw 101 rfl) (wd hw 102 rfl) (wd hw 103 rfl) (wd hw 104 rfl) (wd hw 91 rfl) (wd hw 35 rfl) (wd hw 105 rfl) (by decide) (Mo.exa (i := 1) rfl) (mt58 Z a0 hw h0 zc r99 cl pv SS z0 z1 z2 z3 z4 z5 z6 z7 z8 z9 z10 z11 z12 z13 z14 z15 z16 z17 G hc a2 a1) (argsL := [(.int (12 : Int32))]) (rest := []) rfl (ps := [.int]) (by decide +kernel) rfl rfl 0 rfl (by decide) (by decide) (by decide) (by decide) ?_
  rintro _ _ ⟨rfl, rfl⟩
  show Go B13_2 Z a0 h0 _ 0 0 (mem20 a2 z0 z1 z2 z3 z4 z5 z6 z7 z8 z9 z10 z11 z12 z13 z14 z15 z16 z17 a1) 48 #[.val (.ref b9), .val (.ref a1), .val (.int (12 : Int32)), .val (.int z11)] [(.int z12)]
  refine go_istoreN #[.val (.ref b9), .val (.ref a1), .val (.int (12 : Int32)), .val (.int z12)] 49 rfl d13_48 rfl rfl ?_
  refine go_iloadN 50 rfl d13_49 rfl ?_
  refine go_bipush (48 : Int32) 52 rfl d13_50 rfl ?_
  refine go_icmp 61 55 rfl (by decide) rfl d13_52 rfl (fun (hc52 : z12.toInt < (48 : Int)) => absurd hc52 (by have := rg12 G; omega)) (fun (hc52 : ¬ (z12.toInt < (48 : Int))) => ?_)
  refine go_iloadN 56 rfl d13_55 rfl ?_
  refine go_bipush (57 : Int32) 58 rfl d13_56 rfl ?_
  refine go_icmp 85 61 rfl (by decide) rfl d13_58 rfl (fun (hc58 : z12.toInt ≤ (57 : Int)) => ?_) (fun (hc58 : ¬ (z12.toInt ≤ (57 : Int))) => absurd hc58 (by have := rg12 G; omega))
  refine go_iinc #[.val (.ref b9), .val (.ref a1), .val (.int (13 : Int32)), .val (.int z12)] 88 rfl d13_85 rfl rfl ?_
  refine go_goto 31 (by decide) rfl d13_88 ?_
  refine go_iloadN 32 rfl d13_31 rfl ?_
  refine go_aloadN 33 rfl d13_32 rfl rfl ?_
  refine go_callF 38 rfl d13_33 (wd hw 84 rfl) (wd hw 85 rfl) (wd hw 86 rfl) (by decide) (wd hw 87 rfl) (wd hw 88 rfl) (wd hw 89 rfl) (wd hw 90 rfl) (wd hw 91 rfl) (wd hw 35 rfl) (wd hw 92 rfl) (by decide) (Mo.exa (i := 1) rfl) (mt11 Z a0 hw h0 zc r99 cl pv SS z0 z1 z2 z3 z4 z5 z6 z7 z8 z9 z10 z11 z12 z13 z14 z15 z16 z17 G hc a2 a1) (argsL := []) (rest := [(.int (13 : Int32))]) rfl (ps := []) (by decide +kernel) rfl rfl 1 rfl (by decide) (by decide) (by decide) (by decide) ?_
  rintro _ _ ⟨rfl, rfl⟩
  show Go B13_2 Z a0 h0 _ 0 0 (mem20 a2 z0 z1 z2 z3 z4 z5 z6 z7 z8 z9 z10 z11 z12 z13 z14 z15 z16 z17 a1) 38 #[.val (.ref b9), .val (.ref a1), .val (.int (13 : Int32)), .val (.int z12)] [(.int (18 : Int32)), (.int (13 : Int32))]
  refine go_icmp 91 41 rfl (by decide) rfl d13_38 rfl (fun (hc38 : (18 : Int) ≤ (13 : Int)) => absurd hc38 (by decide)) (fun (hc38 : ¬ ((18 : Int) ≤ (13 : Int))) => ?_)
  refine go_aloadN 42 rfl d13_41 rfl rfl ?_
  refine go_iloadN 43 rfl d13_42 rfl ?_
  refine go_callF 48 rfl d13_43 (wd hw 98 rfl) (wd hw 99 rfl) (wd hw 100 rfl) (by decide) (wd hw 101 rfl) (wd hw 102 rfl) (wd hw 103 rfl) (wd hw 104 rfl) (wd hw 91 rfl) (wd hw 35 rfl) (wd hw 105 rfl) (by decide) (Mo.exa (i := 1) rfl) (mt62 Z a0 hw h0 zc r99 cl pv SS z0 z1 z2 z3 z4 z5 z6 z7 z8 z9 z10 z11 z12 z13 z14 z15 z16 z17 G hc a2 a1) (argsL := [(.int (13 : Int32))]) (rest := []) rfl (ps := [.int]) (by decide +kernel) rfl rfl 0 rfl (by decide) (by decide) (by decide) (by decide) ?_
  rintro _ _ ⟨rfl, rfl⟩
  show Go B13_2 Z a0 h0 _ 0 0 (mem20 a2 z0 z1 z2 z3 z4 z5 z6 z7 z8 z9 z10 z11 z12 z13 z14 z15 z16 z17 a1) 48 #[.val (.ref b9), .val (.ref a1), .val (.int (13 : Int32)), .val (.int z12)] [(.int z13)]
  refine go_istoreN #[.val (.ref b9), .val (.ref a1), .val (.int (13 : Int32)), .val (.int z13)] 49 rfl d13_48 rfl rfl ?_
  refine go_iloadN 50 rfl d13_49 rfl ?_
  refine go_bipush (48 : Int32) 52 rfl d13_50 rfl ?_
  refine go_icmp 61 55 rfl (by decide) rfl d13_52 rfl (fun (hc52 : z13.toInt < (48 : Int)) => absurd hc52 (by have := rg13 G; omega)) (fun (hc52 : ¬ (z13.toInt < (48 : Int))) => ?_)
  refine go_iloadN 56 rfl d13_55 rfl ?_
  refine go_bipush (57 : Int32) 58 rfl d13_56 rfl ?_
  refine go_icmp 85 61 rfl (by decide) rfl d13_58 rfl (fun (hc58 : z13.toInt ≤ (57 : Int)) => ?_) (fun (hc58 : ¬ (z13.toInt ≤ (57 : Int))) => absurd hc58 (by have := rg13 G; omega))
  refine go_iinc #[.val (.ref b9), .val (.ref a1), .val (.int (14 : Int32)), .val (.int z13)] 88 rfl d13_85 rfl rfl ?_
  refine go_goto 31 (by decide) rfl d13_88 ?_
  refine go_iloadN 32 rfl d13_31 rfl ?_
  refine go_aloadN 33 rfl d13_32 rfl rfl ?_
  refine go_callF 38 rfl d13_33 (wd hw 84 rfl) (wd hw 85 rfl) (wd hw 86 rfl) (by decide) (wd hw 87 rfl) (wd hw 88 rfl) (wd hw 89 rfl) (wd hw 90 rfl) (wd hw 91 rfl) (wd hw 35 rfl) (wd hw 92 rfl) (by decide) (Mo.exa (i := 1) rfl) (mt11 Z a0 hw h0 zc r99 cl pv SS z0 z1 z2 z3 z4 z5 z6 z7 z8 z9 z10 z11 z12 z13 z14 z15 z16 z17 G hc a2 a1) (argsL := []) (rest := [(.int (14 : Int32))]) rfl (ps := []) (by decide +kernel) rfl rfl 1 rfl (by decide) (by decide) (by decide) (by decide) ?_
  rintro _ _ ⟨rfl, rfl⟩
  show Go B13_2 Z a0 h0 _ 0 0 (mem20 a2 z0 z1 z2 z3 z4 z5 z6 z7 z8 z9 z10 z11 z12 z13 z14 z15 z16 z17 a1) 38 #[.val (.ref b9), .val (.ref a1), .val (.int (14 : Int32)), .val (.int z13)] [(.int (18 : Int32)), (.int (14 : Int32))]
  refine go_icmp 91 41 rfl (by decide) rfl d13_38 rfl (fun (hc38 : (18 : Int) ≤ (14 : Int)) => absurd hc38 (by decide)) (fun (hc38 : ¬ ((18 : Int) ≤ (14 : Int))) => ?_)
  refine go_aloadN 42 rfl d13_41 rfl rfl ?_
  refine go_iloadN 43 rfl d13_42 rfl ?_
  refine go_callF 48 rfl d13_43 (wd hw 98 rfl) (wd hw 99 rfl) (wd hw 100 rfl) (by decide) (wd hw 101 rfl) (wd hw 102 rfl) (wd hw 103 rfl) (wd hw 104 rfl) (wd hw 91 rfl) (wd hw 35 rfl) (wd hw 105 rfl) (by decide) (Mo.exa (i := 1) rfl) (mt66 Z a0 hw h0 zc r99 cl pv SS z0 z1 z2 z3 z4 z5 z6 z7 z8 z9 z10 z11 z12 z13 z14 z15 z16 z17 G hc a2 a1) (argsL := [(.int (14 : Int32))]) (rest := []) rfl (ps := [.int]) (by decide +kernel) rfl rfl 0 rfl (by decide) (by decide) (by decide) (by decide) ?_
  rintro _ _ ⟨rfl, rfl⟩
  show Go B13_2 Z a0 h0 _ 0 0 (mem20 a2 z0 z1 z2 z3 z4 z5 z6 z7 z8 z9 z10 z11 z12 z13 z14 z15 z16 z17 a1) 48 #[.val (.ref b9), .val (.ref a1), .val (.int (14 : Int32)), .val (.int z13)] [(.int z14)]
  refine go_istoreN #[.val (.ref b9), .val (.ref a1), .val (.int (14 : Int32)), .val (.int z14)] 49 rfl d13_48 rfl rfl ?_
  refine go_iloadN 50 rfl d13_49 rfl ?_
  refine go_bipush (48 : Int32) 52 rfl d13_50 rfl ?_
  refine go_icmp 61 55 rfl (by decide) rfl d13_52 rfl (fun (hc52 : z14.toInt < (48 : Int)) => absurd hc52 (by have := rg14 G; omega)) (fun (hc52 : ¬ (z14.toInt < (48 : Int))) => ?_)
  refine go_iloadN 56 rfl d13_55 rfl ?_
  refine go_bipush (57 : Int32) 58 rfl d13_56 rfl ?_
  refine go_icmp 85 61 rfl (by decide) rfl d13_58 rfl (fun (hc58 : z14.toInt ≤ (57 : Int)) => ?_) (fun (hc58 : ¬ (z14.toInt ≤ (57 : Int))) => absurd hc58 (by have := rg14 G; omega))
  refine go_iinc #[.val (.ref b9), .val (.ref a1), .val (.int (15 : Int32)), .val (.int z14)] 88 rfl d13_85 rfl rfl ?_
  refine go_goto 31 (by decide) rfl d13_88 ?_
  refine go_iloadN 32 rfl d13_31 rfl ?_
  refine go_aloadN 33 rfl d13_32 rfl rfl ?_
  refine go_callF 38 rfl d13_33 (wd hw 84 rfl) (wd hw 85 rfl) (wd hw 86 rfl) (by decide) (wd hw 87 rfl) (wd hw 88 rfl) (wd hw 89 rfl) (wd hw 90 rfl) (wd hw 91 rfl) (wd hw 35 rfl) (wd hw 92 rfl) (by decide) (Mo.exa (i := 1) rfl) (mt11 Z a0 hw h0 zc r99 cl pv SS z0 z1 z2 z3 z4 z5 z6 z7 z8 z9 z10 z11 z12 z13 z14 z15 z16 z17 G hc a2 a1) (argsL := []) (rest := [(.int (15 : Int32))]) rfl (ps := []) (by decide +kernel) rfl rfl 1 rfl (by decide) (by decide) (by decide) (by decide) ?_
  rintro _ _ ⟨rfl, rfl⟩
  show Go B13_2 Z a0 h0 _ 0 0 (mem20 a2 z0 z1 z2 z3 z4 z5 z6 z7 z8 z9 z10 z11 z12 z13 z14 z15 z16 z17 a1) 38 #[.val (.ref b9), .val (.ref a1), .val (.int (15 : Int32)), .val (.int z14)] [(.int (18 : Int32)), (.int (15 : Int32))]
  refine go_icmp 91 41 rfl (by decide) rfl d13_38 rfl (fun (hc38 : (18 : Int) ≤ (15 : Int)) => absurd hc38 (by decide)) (fun (hc38 : ¬ ((18 : Int) ≤ (15 : Int))) => ?_)
  refine go_aloadN 42 rfl d13_41 rfl rfl ?_
  refine go_iloadN 43 rfl d13_42 rfl ?_
  refine go_callF 48 rfl d13_43 (wd hw 98 rfl) (wd hw 99 rfl) (wd hw 100 rfl) (by decide) (wd hw 101 rfl) (wd hw 102 rfl) (wd hw 103 rfl) (wd hw 104 rfl) (wd hw 91 rfl) (wd hw 35 rfl) (wd hw 105 rfl) (by decide) (Mo.exa (i := 1) rfl) (mt70 Z a0 hw h0 zc r99 cl pv SS z0 z1 z2 z3 z4 z5 z6 z7 z8 z9 z10 z11 z12 z13 z14 z15 z16 z17 G hc a2 a1) (argsL := [(.int (15 : Int32))]) (rest := []) rfl (ps := [.int]) (by decide +kernel) rfl rfl 0 rfl (by decide) (by decide) (by decide) (by decide) ?_
  rintro _ _ ⟨rfl, rfl⟩
  show Go B13_2 Z a0 h0 _ 0 0 (mem20 a2 z0 z1 z2 z3 z4 z5 z6 z7 z8 z9 z10 z11 z12 z13 z14 z15 z16 z17 a1) 48 #[.val (.ref b9), .val (.ref a1), .val (.int (15 : Int32)), .val (.int z14)] [(.int z15)]
  refine go_istoreN #[.val (.ref b9), .val (.ref a1), .val (.int (15 : Int32)), .val (.int z15)] 49 rfl d13_48 rfl rfl ?_
  refine go_iloadN 50 rfl d13_49 rfl ?_
  refine go_bipush (48 : Int32) 52 rfl d13_50 rfl ?_
  refine go_icmp 61 55 rfl (by decide) rfl d13_52 rfl (fun (hc52 : z15.toInt < (48 : Int)) => absurd hc52 (by have := rg15 G; omega)) (fun (hc52 : ¬ (z15.toInt < (48 : Int))) => ?_)
  refine go_iloadN 56 rfl d13_55 rfl ?_
  refine go_bipush (57 : Int32) 58 rfl d13_56 rfl ?_
  refine go_icmp 85 61 rfl (by decide) rfl d13_58 rfl (fun (hc58 : z15.toInt ≤ (57 : Int)) => ?_) (fun (hc58 : ¬ (z15.toInt ≤ (57 : Int))) => absurd hc58 (by have := rg15 G; omega))
  refine go_iinc #[.val (.ref b9), .val (.ref a1), .val (.int (16 : Int32)), .val (.int z15)] 88 rfl d13_85 rfl rfl ?_
  refine go_goto 31 (by decide) rfl d13_88 ?_
  refine go_iloadN 32 rfl d13_31 rfl ?_
  refine go_aloadN 33 rfl d13_32 rfl rfl ?_
  refine go_callF 38 rfl d13_33 (wd hw 84 rfl) (wd hw 85 rfl) (wd hw 86 rfl) (by decide) (wd hw 87 rfl) (wd hw 88 rfl) (wd hw 89 rfl) (wd hw 90 rfl) (wd hw 91 rfl) (wd hw 35 rfl) (wd hw 92 rfl) (by decide) (Mo.exa (i := 1) rfl) (mt11 Z a0 hw h0 zc r99 cl pv SS z0 z1 z2 z3 z4 z5 z6 z7 z8 z9 z10 z11 z12 z13 z14 z15 z16 z17 G hc a2 a1) (argsL := []) (rest := [(.int (16 : Int32))]) rfl (ps := []) (by decide +kernel) rfl rfl 1 rfl (by decide) (by decide) (by decide) (by decide) ?_
  rintro _ _ ⟨rfl, rfl⟩
  show Go B13_2 Z a0 h0 _ 0 0 (mem20 a2 z0 z1 z2 z3 z4 z5 z6 z7 z8 z9 z10 z11 z12 z13 z14 z15 z16 z17 a1) 38 #[.val (.ref b9), .val (.ref a1), .val (.int (16 : Int32)), .val (.int z15)] [(.int (18 : Int32)), (.int (16 : Int32))]
  refine go_icmp 91 41 rfl (by decide) rfl d13_38 rfl (fun (hc38 : (18 : Int) ≤ (16 : Int)) => absurd hc38 (by decide)) (fun (hc38 : ¬ ((18 : Int) ≤ (16 : Int))) => ?_)
  refine go_aloadN 42 rfl d13_41 rfl rfl ?_
  refine go_iloadN 43 rfl d13_42 rfl ?_
  refine go_callF 48 rfl d13_43 (wd hw 98 rfl) (wd hw 99 rfl) (wd hw 100 rfl) (by decide) (wd hw 101 rfl) (wd hw 102 rfl) (wd hw 103 rfl) (wd hw 104 rfl) (wd hw 91 rfl) (wd hw 35 rfl) (wd hw 105 rfl) (by decide) (Mo.exa (i := 1) rfl) (mt74 Z a0 hw h0 zc r99 cl pv SS z0 z1 z2 z3 z4 z5 z6 z7 z8 z9 z10 z11 z12 z13 z14 z15 z16 z17 G hc a2 a1) (argsL := [(.int (16 : Int32))]) (rest := []) rfl (ps := [.int]) (by decide +kernel) rfl rfl 0 rfl (by decide) (by decide) (by decide) (by decide) ?_
  rintro _ _ ⟨rfl, rfl⟩
  show Go B13_2 Z a0 h0 _ 0 0 (mem20 a2 z0 z1 z2 z3 z4 z5 z6 z7 z8 z9 z10 z11 z12 z13 z14 z15 z16 z17 a1) 48 #[.val (.ref b9), .val (.ref a1), .val (.int (16 : Int32)), .val (.int z15)] [(.int z16)]
  refine go_istoreN #[.val (.ref b9), .val (.ref a1), .val (.int (16 : Int32)), .val (.int z16)] 49 rfl d13_48 rfl rfl ?_
  refine go_iloadN 50 rfl d13_49 rfl ?_
  refine go_bipush (48 : Int32) 52 rfl d13_50 rfl ?_
  refine go_icmp 61 55 rfl (by decide) rfl d13_52 rfl (fun (hc52 : z16.toInt < (48 : Int)) => absurd hc52 (by have := rg16 G; omega)) (fun (hc52 : ¬ (z16.toInt < (48 : Int))) => ?_)
  refine go_iloadN 56 rfl d13_55 rfl ?_
  refine go_bipush (57 : Int32) 58 rfl d13_56 rfl ?_
  refine go_icmp 85 61 rfl (by decide) rfl d13_58 rfl (fun (hc58 : z16.toInt ≤ (57 : Int)) => ?_) (fun (hc58 : ¬ (z16.toInt ≤ (57 : Int))) => absurd hc58 (by have := rg16 G; omega))
  refine go_iinc #[.val (.ref b9), .val (.ref a1), .val (.int (17 : Int32)), .val (.int z16)] 88 rfl d13_85 rfl rfl ?_
  refine go_goto 31 (by decide) rfl d13_88 ?_
  refine go_iloadN 32 rfl d13_31 rfl ?_
  refine go_aloadN 33 rfl d13_32 rfl rfl ?_
  refine go_callF 38 rfl d13_33 (wd hw 84 rfl) (wd hw 85 rfl) (wd hw 86 rfl) (by decide) (wd hw 87 rfl) (wd hw 88 rfl) (wd hw 89 rfl) (wd hw 90 rfl) (wd hw 91 rfl) (wd hw 35 rfl) (wd hw 92 rfl) (by decide) (Mo.exa (i := 1) rfl) (mt11 Z a0 hw h0 zc r99 cl pv SS z0 z1 z2 z3 z4 z5 z6 z7 z8 z9 z10 z11 z12 z13 z14 z15 z16 z17 G hc a2 a1) (argsL := []) (rest := [(.int (17 : Int32))]) rfl (ps := []) (by decide +kernel) rfl rfl 1 rfl (by decide) (by decide) (by decide) (by decide) ?_
  rintro _ _ ⟨rfl, rfl⟩
  show Go B13_2 Z a0 h0 _ 0 0 (mem20 a2 z0 z1 z2 z3 z4 z5 z6 z7 z8 z9 z10 z11 z12 z13 z14 z15 z16 z17 a1) 38 #[.val (.ref b9), .val (.ref a1), .val (.int (17 : Int32)), .val (.int z16)] [(.int (18 : Int32)), (.int (17 : Int32))]
  refine go_icmp 91 41 rfl (by decide) rfl d13_38 rfl (fun (hc38 : (18 : Int) ≤ (17 : Int)) => absurd hc38 (by decide)) (fun (hc38 : ¬ ((18 : Int) ≤ (17 : Int))) => ?_)
  refine go_aloadN 42 rfl d13_41 rfl rfl ?_
  refine go_iloadN 43 rfl d13_42 rfl ?_
  refine go_callF 48 rfl d13_43 (wd hw 98 rfl) (wd hw 99 rfl) (wd hw 100 rfl) (by decide) (wd hw 101 rfl) (wd hw 102 rfl) (wd hw 103 rfl) (wd hw 104 rfl) (wd hw 91 rfl) (wd hw 35 rfl) (wd hw 105 rfl) (by decide) (Mo.exa (i := 1) rfl) (mt78 Z a0 hw h0 zc r99 cl pv SS z0 z1 z2 z3 z4 z5 z6 z7 z8 z9 z10 z11 z12 z13 z14 z15 z16 z17 G hc a2 a1) (argsL := [(.int (17 : Int32))]) (rest := []) rfl (ps := [.int]) (by decide +kernel) rfl rfl 0 rfl (by decide) (by decide) (by decide) (by decide) ?_
  rintro _ _ ⟨rfl, rfl⟩
  show Go B13_2 Z a0 h0 _ 0 0 (mem20 a2 z0 z1 z2 z3 z4 z5 z6 z7 z8 z9 z10 z11 z12 z13 z14 z15 z16 z17 a1) 48 #[.val (.ref b9), .val (.ref a1), .val (.int (17 : Int32)), .val (.int z16)] [(.int z17)]
  refine go_istoreN #[.val (.ref b9), .val (.ref a1), .val (.int (17 : Int32)), .val (.int z17)] 49 rfl d13_48 rfl rfl ?_
  refine go_iloadN 50 rfl d13_49 rfl ?_
  refine go_bipush (48 : Int32) 52 rfl d13_50 rfl ?_
  refine go_icmp 61 55 rfl (by decide) rfl d13_52 rfl (fun (hc52 : z17.toInt < (48 : Int)) => absurd hc52 (by have := rg17 G; omega)) (fun (hc52 : ¬ (z17.toInt < (48 : Int))) => ?_)
  refine go_iloadN 56 rfl d13_55 rfl ?_
  refine go_bipush (57 : Int32) 58 rfl d13_56 rfl ?_
  refine go_icmp 85 61 rfl (by decide) rfl d13_58 rfl (fun (hc58 : z17.toInt ≤ (57 : Int)) => ?_) (fun (hc58 : ¬ (z17.toInt ≤ (57 : Int))) => absurd hc58 (by have := rg17 G; omega))
  refine go_iinc #[.val (.ref b9), .val (.ref a1), .val (.int (18 : Int32)), .val (.int z17)] 88 rfl d13_85 rfl rfl ?_
  refine go_goto 31 (by decide) rfl d13_88 ?_
  refine go_iloadN 32 rfl d13_31 rfl ?_
  refine go_aloadN 33 rfl d13_32 rfl rfl ?_
  refine go_callF 38 rfl d13_33 (wd hw 84 rfl) (wd hw 85 rfl) (wd hw 86 rfl) (by decide) (wd hw 87 rfl) (wd hw 88 rfl) (wd hw 89 rfl) (wd hw 90 rfl) (wd hw 91 rfl) (wd hw 35 rfl) (wd hw 92 rfl) (by decide) (Mo.exa (i := 1) rfl) (mt11 Z a0 hw h0 zc r99 cl pv SS z0 z1 z2 z3 z4 z5 z6 z7 z8 z9 z10 z11 z12 z13 z14 z15 z16 z17 G hc a2 a1) (argsL := []) (rest := [(.int (18 : Int32))]) rfl (ps := []) (by decide +kernel) rfl rfl 1 rfl (by decide) (by decide) (by decide) (by decide) ?_
  rintro _ _ ⟨rfl, rfl⟩
  show Go B13_2 Z a0 h0 _ 0 0 (mem20 a2 z0 z1 z2 z3 z4 z5 z6 z7 z8 z9 z10 z11 z12 z13 z14 z15 z16 z17 a1) 38 #[.val (.ref b9), .val (.ref a1), .val (.int (18 : Int32)), .val (.int z17)] [(.int (18 : Int32)), (.int (18 : Int32))]
  refine go_icmp 91 41 rfl (by decide) rfl d13_38 rfl (fun (hc38 : (18 : Int) ≤ (18 : Int)) => ?_) (fun (hc38 : ¬ ((18 : Int) ≤ (18 : Int))) => absurd hc38 (by decide))
  exact go_return d13_91 rfl rfl (by decide) (by decide) ⟨rfl, rfl⟩
theorem d22_0 : decode prog_10_method_11_code 0 = .ok (.aload_n 1, 1) := by decide +kernel
theorem d22_1 : decode prog_10_method_11_code 1 = .ok (.astore_n 2, 1) := by decide +kernel
theorem d22_2 : decode prog_10_method_11_code 2 = .ok (.aload_n 2, 1) := by decide +kernel
theorem d22_3 : decode prog_10_method_11_code 3 = .ok (.arraylength, 1) := by decide +kernel
theorem d22_4 : decode prog_10_method_11_code 4 = .ok (.istore_n 3, 1) := by decide +kernel
theorem d22_5 : decode prog_10_method_11_code 5 = .ok (.iconst 0, 1) := by decide +kernel
theorem d22_6 : decode prog_10_method_11_code 6 = .ok (.istore 4, 2) := by decide +kernel
theorem d22_8 : decode prog_10_method_11_code 8 = .ok (.iload 4, 2) := by decide +kernel
theorem d22_10 : decode prog_10_method_11_code 10 = .ok (.iload_n 3, 1) := by decide +kernel
theorem d22_11 : decode prog_10_method_11_code 11 = .ok (.if_icmp .ge 23, 3) := by decide +kernel
theorem d22_14 : decode prog_10_method_11_code 14 = .ok (.aload_n 2, 1) := by decide +kernel
theorem d22_15 : decode prog_10_method_11_code 15 = .ok (.iload 4, 2) := by decide +kernel
theorem d22_17 : decode prog_10_method_11_code 17 = .ok (.iaload, 1) := by decide +kernel
theorem d22_18 : decode prog_10_method_11_code 18 = .ok (.istore 5, 2) := by decide +kernel
theorem d22_20 : decode prog_10_method_11_code 20 = .ok (.iload_n 0, 1) := by decide +kernel
theorem d22_21 : decode prog_10_method_11_code 21 = .ok (.iload 5, 2) := by decide +kernel
theorem d22_23 : decode prog_10_method_11_code 23 = .ok (.if_icmp .ne 5, 3) := by decide +kernel
theorem d22_26 : decode prog_10_method_11_code 26 = .ok (.iconst 1, 1) := by decide +kernel
theorem d22_27 : decode prog_10_method_11_code 27 = .ok (.ireturn, 1) := by decide +kernel
theorem pn22 : plainFor (⟨"com/example/cartonmark/cartonmark/gs1/Gs1Digits", "isOneOf", "(I[I)Z"⟩ : MethodName) = true := by first | (apply plainFor_of_name; simp [plainName, overriddenIn]; done) | decide +kernel
def B22_82 : Bdy := (⟨"com/example/cartonmark/cartonmark/gs1/Gs1Digits", "isOneOf", "(I[I)Z"⟩, prog_10_method_11_code, 6, (some .boolean), ({ frames := 0, cells := 0, slots := 0, locals := 0 } : Room))
theorem mt82 (Z : State) (a0 : Array Value) (hw : ∀ d ∈ tables_1, d.before a0 Z = true) (h0 : Heap) (zc : Int32) (r99 : Value) (cl : Cell) (pv : Addr) (SS : Sts Z h0 zc r99 cl pv) (z0 z1 z2 z3 z4 z5 z6 z7 z8 z9 z10 z11 z12 z13 z14 z15 z16 z17 : Int32) (G : RG z0 z1 z2 z3 z4 z5 z6 z7 z8 z9 z10 z11 z12 z13 z14 z15 z16 z17) (hc : HC z0 z1 z2 z3 z4 z5 z6 z7 z8 z9 z10 z11 z12 z13 z14 z15 z16 z17) :
    Met B22_82 Z a0 h0 #[(.int (18 : Int32)), (.ref pv)] [] (Ret (some (.int (1 : Int32))) []) := by
  refine Met.of pn22 (ls := #[.val (.int (18 : Int32)), .val (.ref pv), .unset, .unset, .unset, .unset]) (fun m => by first | (simp [entryFrame, mkF, argsToLocals, Value.category, B22_82]; done) | rfl) ?_
  show Go B22_82 Z a0 h0 _ 0 0 [] 0 #[.val (.int (18 : Int32)), .val (.ref pv), .unset, .unset, .unset, .unset] []
  refine go_aloadN 1 rfl d22_0 rfl rfl ?_
  refine go_astoreN #[.val (.int (18 : Int32)), .val (.ref pv), .val (.ref pv), .unset, .unset, .unset] 2 rfl d22_1 rfl rfl rfl ?_
  refine go_aloadN 3 rfl d22_2 rfl rfl ?_
  refine go_alenG (z := (1 : Int32)) 4 rfl d22_3 rfl (fun h M => ⟨cl, SS.2.2.2.2.2.1.ext M.1, by rw [SS.2.2.2.2.2.2.1]; rfl⟩) ?_
  refine go_istoreN #[.val (.int (18 : Int32)), .val (.ref pv), .val (.ref pv), .val (.int (1 : Int32)), .unset, .unset] 5 rfl d22_4 rfl rfl ?_
  refine go_iconst (0 : Int32) 6 rfl d22_5 rfl ?_
  refine go_istore #[.val (.int (18 : Int32)), .val (.ref pv), .val (.ref pv), .val (.int (1 : Int32)), .val (.int (0 : Int32)), .unset] 8 rfl d22_6 rfl rfl ?_
  refine go_iload 10 rfl d22_8 rfl ?_
  refine go_iloadN 11 rfl d22_10 rfl ?_
  refine go_icmp 34 14 rfl (by decide) rfl d22_11 rfl (fun (hc11 : (1 : Int) ≤ (0 : Int)) => absurd hc11 (by decide)) (fun (hc11 : ¬ ((1 : Int) ≤ (0 : Int))) => ?_)
  refine go_aloadN 15 rfl d22_14 rfl rfl ?_
  refine go_iload 17 rfl d22_15 rfl ?_
  refine go_iaload (v := .int (18 : Int32)) 18 rfl d22_17 rfl (fun h M => ⟨cl, SS.2.2.2.2.2.1.ext M.1, (by rw [SS.2.2.2.2.2.2.1]; decide), SS.2.2.2.2.2.2.2⟩) ?_
  refine go_istore #[.val (.int (18 : Int32)), .val (.ref pv), .val (.ref pv), .val (.int (1 : Int32)), .val (.int (0 : Int32)), .val (.int (18 : Int32))] 20 rfl d22_18 rfl rfl ?_
  refine go_iloadN 21 rfl d22_20 rfl ?_
  refine go_iload 23 rfl d22_21 rfl ?_
  refine go_icmp 28 26 rfl (by decide) rfl d22_23 rfl (fun (hc23 : (18 : Int) ≠ (18 : Int)) => absurd hc23 (by decide)) (fun (hc23 : ¬ ((18 : Int) ≠ (18 : Int))) => ?_)
  refine go_iconst (1 : Int32) 27 rfl d22_26 rfl ?_
  exact go_ireturn d22_27 rfl (Or.inr (Or.inl rfl)) rfl rfl (by decide) (by decide) ⟨rfl, rfl⟩
theorem d24_0 : decode prog_10_method_8_code 0 = .ok (.iconst 4, 1) := by decide +kernel
theorem d24_1 : decode prog_10_method_8_code 1 = .ok (.iload_n 0, 1) := by decide +kernel
theorem d24_2 : decode prog_10_method_8_code 2 = .ok (.isub, 1) := by decide +kernel
theorem d24_3 : decode prog_10_method_8_code 3 = .ok (.ireturn, 1) := by decide +kernel
theorem pn24 : plainFor (⟨"com/example/cartonmark/cartonmark/gs1/Gs1Digits", "nextWeight", "(I)I"⟩ : MethodName) = true := by first | (apply plainFor_of_name; simp [plainName, overriddenIn]; done) | decide +kernel
def B24_84 : Bdy := (⟨"com/example/cartonmark/cartonmark/gs1/Gs1Digits", "nextWeight", "(I)I"⟩, prog_10_method_8_code, 1, (some .int), ({ frames := 0, cells := 0, slots := 0, locals := 0 } : Room))
theorem mt84 (Z : State) (a0 : Array Value) (hw : ∀ d ∈ tables_1, d.before a0 Z = true) (h0 : Heap) (zc : Int32) (r99 : Value) (cl : Cell) (pv : Addr) (SS : Sts Z h0 zc r99 cl pv) (z0 z1 z2 z3 z4 z5 z6 z7 z8 z9 z10 z11 z12 z13 z14 z15 z16 z17 : Int32) (G : RG z0 z1 z2 z3 z4 z5 z6 z7 z8 z9 z10 z11 z12 z13 z14 z15 z16 z17) (hc : HC z0 z1 z2 z3 z4 z5 z6 z7 z8 z9 z10 z11 z12 z13 z14 z15 z16 z17) :
    Met B24_84 Z a0 h0 #[(.int (3 : Int32))] [] (Ret (some (.int (1 : Int32))) []) := by
  refine Met.of pn24 (ls := #[.val (.int (3 : Int32))]) (fun m => by first | (simp [entryFrame, mkF, argsToLocals, Value.category, B24_84]; done) | rfl) ?_
  show Go B24_84 Z a0 h0 _ 0 0 [] 0 #[.val (.int (3 : Int32))] []
  refine go_iconst (4 : Int32) 1 rfl d24_0 rfl ?_
  refine go_iloadN 2 rfl d24_1 rfl ?_
  refine go_isub 3 rfl d24_2 rfl ?_
  show Go B24_84 Z a0 h0 _ 0 0 [] 3 #[.val (.int (3 : Int32))] [(.int (1 : Int32))]
  exact go_ireturn d24_3 rfl (Or.inl rfl) rfl rfl (by decide) (by decide) ⟨rfl, rfl⟩
def B24_85 : Bdy := (⟨"com/example/cartonmark/cartonmark/gs1/Gs1Digits", "nextWeight", "(I)I"⟩, prog_10_method_8_code, 1, (some .int), ({ frames := 0, cells := 0, slots := 0, locals := 0 } : Room))
theorem mt85 (Z : State) (a0 : Array Value) (hw : ∀ d ∈ tables_1, d.before a0 Z = true) (h0 : Heap) (zc : Int32) (r99 : Value) (cl : Cell) (pv : Addr) (SS : Sts Z h0 zc r99 cl pv) (z0 z1 z2 z3 z4 z5 z6 z7 z8 z9 z10 z11 z12 z13 z14 z15 z16 z17 : Int32) (G : RG z0 z1 z2 z3 z4 z5 z6 z7 z8 z9 z10 z11 z12 z13 z14 z15 z16 z17) (hc : HC z0 z1 z2 z3 z4 z5 z6 z7 z8 z9 z10 z11 z12 z13 z14 z15 z16 z17) :
    Met B24_85 Z a0 h0 #[(.int (1 : Int32))] [] (Ret (some (.int (3 : Int32))) []) := by
  refine Met.of pn24 (ls := #[.val (.int (1 : Int32))]) (fun m => by first | (simp [entryFrame, mkF, argsToLocals, Value.category, B24_85]; done) | rfl) ?_
  show Go B24_85 Z a0 h0 _ 0 0 [] 0 #[.val (.int (1 : Int32))] []
  refine go_iconst (4 : Int32) 1 rfl d24_0 rfl ?_
  refine go_iloadN 2 rfl d24_1 rfl ?_
  refine go_isub 3 rfl d24_2 rfl ?_
  show Go B24_85 Z a0 h0 _ 0 0 [] 3 #[.val (.int (1 : Int32))] [(.int (3 : Int32))]
  exact go_ireturn d24_3 rfl (Or.inl rfl) rfl rfl (by decide) (by decide) ⟨rfl, rfl⟩
def B17_86 : Bdy := (⟨"java/lang/String", "charAt", "(I)C"⟩, jdk_42_method_56_code, 2, (some .char), ({ frames := 3, cells := 0, slots := 0, locals := 40 } : Room))
theorem mt86 (Z : State) (a0 : Array Value) (hw : ∀ d ∈ tables_1, d.before a0 Z = true) (h0 : Heap) (zc : Int32) (r99 : Value) (cl : Cell) (pv : Addr) (SS : Sts Z h0 zc r99 cl pv) (z0 z1 z2 z3 z4 z5 z6 z7 z8 z9 z10 z11 z12 z13 z14 z15 z16 z17 : Int32) (G : RG z0 z1 z2 z3 z4 z5 z6 z7 z8 z9 z10 z11 z12 z13 z14 z15 z16 z17) (hc : HC z0 z1 z2 z3 z4 z5 z6 z7 z8 z9 z10 z11 z12 z13 z14 z15 z16 z17) (a2 : Addr) (a1 : Addr) :
    Met B17_86 Z a0 h0 #[(.ref a1), (.int (0 : Int32))] (mem20 a2 z0 z1 z2 z3 z4 z5 z6 z7 z8 z9 z10 z11 z12 z13 z14 z15 z16 z17 a1) (Ret (some (.int z0)) (mem20 a2 z0 z1 z2 z3 z4 z5 z6 z7 z8 z9 z10 z11 z12 z13 z14 z15 z16 z17 a1)) := by
  refine Met.of pn17 (ls := #[.val (.ref a1), .val (.int (0 : Int32))]) (fun m => by first | (simp [entryFrame, mkF, argsToLocals, Value.category, B17_86]; done) | rfl) ?_
  show Go B17_86 Z a0 h0 _ 0 0 (mem20 a2 z0 z1 z2 z3 z4 z5 z6 z7 z8 z9 z10 z11 z12 z13 z14 z15 z16 z17 a1) 0 #[.val (.ref a1), .val (.int (0 : Int32))] []
  refine go_aloadN 1 rfl d17_0 rfl rfl ?_
  refine go_callV 4 rfl d17_1 (wd hw 106 rfl) (wd hw 107 rfl) (wd hw 109 rfl) (wd hw 108 rfl) (wd hw 35 rfl) (wd hw 110 rfl) (by decide) (Mo.exa (i := 1) rfl) (mt14 Z a0 hw h0 zc r99 cl pv SS z0 z1 z2 z3 z4 z5 z6 z7 z8 z9 z10 z11 z12 z13 z14 z15 z16 z17 G hc a2 a1) (argsL := []) (rest := []) rfl (ps := []) (by decide +kernel) rfl rfl 0 rfl (by decide) (by decide) (by decide) (by decide) ?_
  rintro _ _ ⟨rfl, rfl⟩
  show Go B17_86 Z a0 h0 _ 0 0 (mem20 a2 z0 z1 z2 z3 z4 z5 z6 z7 z8 z9 z10 z11 z12 z13 z14 z15 z16 z17 a1) 4 #[.val (.ref a1), .val (.int (0 : Int32))] [(.int (1 : Int32))]
  refine go_if 16 7 rfl (by decide) rfl d17_4 rfl (fun (hc4 : (1 : Int) = 0) => absurd hc4 (by decide)) (fun (hc4 : ¬ ((1 : Int) = 0)) => ?_)
  refine go_aloadN 8 rfl d17_7 rfl rfl ?_
  refine go_get 1 0 11 rfl d17_8 rfl rfl rfl (wd hw 60 rfl) ?_
  refine go_iloadN 12 rfl d17_11 rfl ?_
  refine go_callS 15 rfl d17_12 (wd hw 111 rfl) (wd hw 112 rfl) (wd hw 113 rfl) (wd hw 114 rfl) (by decide) (Met.frame [ob a1 "java/lang/String" [("java/lang/String", "value", "[B", (.ref a2)), ("java/lang/String", "coder", "B", (.int (0 : Int32)))]] (mt8 Z a0 hw h0 zc r99 cl pv SS z0 z1 z2 z3 z4 z5 z6 z7 z8 z9 z10 z11 z12 z13 z14 z15 z16 z17 G hc a2)) (argsL := [(.ref a2), (.int (0 : Int32))]) (rest := []) rfl (ps := [(.array .byte), .int]) (by decide +kernel) rfl rfl 0 rfl (by decide) (by decide) (by decide) (by decide) ?_
  rintro _ _ ⟨_, ⟨rfl, rfl⟩, rfl⟩
  show Go B17_86 Z a0 h0 _ 0 0 (mem20 a2 z0 z1 z2 z3 z4 z5 z6 z7 z8 z9 z10 z11 z12 z13 z14 z15 z16 z17 a1) 15 #[.val (.ref a1), .val (.int (0 : Int32))] [(.int z0)]
  exact go_ireturn d17_15 rfl (Or.inr (Or.inr (Or.inr (Or.inl rfl)))) rfl (congrArg Value.int (nar_z z0 (rg0 G))) (by decide) (by decide) ⟨rfl, rfl⟩
theorem d25_0 : decode prog_10_method_9_code 0 = .ok (.bipush 10, 2) := by decide +kernel
theorem d25_2 : decode prog_10_method_9_code 2 = .ok (.iload_n 0, 1) := by decide +kernel
theorem d25_3 : decode prog_10_method_9_code 3 = .ok (.bipush 10, 2) := by decide +kernel
theorem d25_5 : decode prog_10_method_9_code 5 = .ok (.irem, 1) := by decide +kernel
theorem d25_6 : decode prog_10_method_9_code 6 = .ok (.isub, 1) := by decide +kernel
theorem d25_7 : decode prog_10_method_9_code 7 = .ok (.bipush 10, 2) := by decide +kernel
theorem d25_9 : decode prog_10_method_9_code 9 = .ok (.irem, 1) := by decide +kernel
theorem d25_10 : decode prog_10_method_9_code 10 = .ok (.ireturn, 1) := by decide +kernel
theorem pn25 : plainFor (⟨"com/example/cartonmark/cartonmark/gs1/Gs1Digits", "checkDigitOf", "(I)I"⟩ : MethodName) = true := by first | (apply plainFor_of_name; simp [plainName, overriddenIn]; done) | decide +kernel
def B25_87 : Bdy := (⟨"com/example/cartonmark/cartonmark/gs1/Gs1Digits", "checkDigitOf", "(I)I"⟩, prog_10_method_9_code, 1, (some .int), ({ frames := 0, cells := 0, slots := 0, locals := 0 } : Room))
theorem mt87 (Z : State) (a0 : Array Value) (hw : ∀ d ∈ tables_1, d.before a0 Z = true) (h0 : Heap) (zc : Int32) (r99 : Value) (cl : Cell) (pv : Addr) (SS : Sts Z h0 zc r99 cl pv) (z0 z1 z2 z3 z4 z5 z6 z7 z8 z9 z10 z11 z12 z13 z14 z15 z16 z17 : Int32) (G : RG z0 z1 z2 z3 z4 z5 z6 z7 z8 z9 z10 z11 z12 z13 z14 z15 z16 z17) (hc : HC z0 z1 z2 z3 z4 z5 z6 z7 z8 z9 z10 z11 z12 z13 z14 z15 z16 z17) :
    Met B25_87 Z a0 h0 #[(.int ((((((((((((((((((0 : Int32) + ((z16 - (48 : Int32)) * (3 : Int32))) + ((z15 - (48 : Int32)) * (1 : Int32))) + ((z14 - (48 : Int32)) * (3 : Int32))) + ((z13 - (48 : Int32)) * (1 : Int32))) + ((z12 - (48 : Int32)) * (3 : Int32))) + ((z11 - (48 : Int32)) * (1 : Int32))) + ((z10 - (48 : Int32)) * (3 : Int32))) + ((z9 - (48 : Int32)) * (1 : Int32))) + ((z8 - (48 : Int32)) * (3 : Int32))) + ((z7 - (48 : Int32)) * (1 : Int32))) + ((z6 - (48 : Int32)) * (3 : Int32))) + ((z5 - (48 : Int32)) * (1 : Int32))) + ((z4 - (48 : Int32)) * (3 : Int32))) + ((z3 - (48 : Int32)) * (1 : Int32))) + ((z2 - (48 : Int32)) * (3 : Int32))) + ((z1 - (48 : Int32)) * (1 : Int32))) + ((z0 - (48 : Int32)) * (3 : Int32))))] [] (Ret (some (.int (((10 : Int32) - (((((((((((((((((((0 : Int32) + ((z16 - (48 : Int32)) * (3 : Int32))) + ((z15 - (48 : Int32)) * (1 : Int32))) + ((z14 - (48 : Int32)) * (3 : Int32))) + ((z13 - (48 : Int32)) * (1 : Int32))) + ((z12 - (48 : Int32)) * (3 : Int32))) + ((z11 - (48 : Int32)) * (1 : Int32))) + ((z10 - (48 : Int32)) * (3 : Int32))) + ((z9 - (48 : Int32)) * (1 : Int32))) + ((z8 - (48 : Int32)) * (3 : Int32))) + ((z7 - (48 : Int32)) * (1 : Int32))) + ((z6 - (48 : Int32)) * (3 : Int32))) + ((z5 - (48 : Int32)) * (1 : Int32))) + ((z4 - (48 : Int32)) * (3 : Int32))) + ((z3 - (48 : Int32)) * (1 : Int32))) + ((z2 - (48 : Int32)) * (3 : Int32))) + ((z1 - (48 : Int32)) * (1 : Int32))) + ((z0 - (48 : Int32)) * (3 : Int32))) % (10 : Int32))) % (10 : Int32)))) []) := by
  refine Met.of pn25 (ls := #[.val (.int ((((((((((((((((((0 : Int32) + ((z16 - (48 : Int32)) * (3 : Int32))) + ((z15 - (48 : Int32)) * (1 : Int32))) + ((z14 - (48 : Int32)) * (3 : Int32))) + ((z13 - (48 : Int32)) * (1 : Int32))) + ((z12 - (48 : Int32)) * (3 : Int32))) + ((z11 - (48 : Int32)) * (1 : Int32))) + ((z10 - (48 : Int32)) * (3 : Int32))) + ((z9 - (48 : Int32)) * (1 : Int32))) + ((z8 - (48 : Int32)) * (3 : Int32))) + ((z7 - (48 : Int32)) * (1 : Int32))) + ((z6 - (48 : Int32)) * (3 : Int32))) + ((z5 - (48 : Int32)) * (1 : Int32))) + ((z4 - (48 : Int32)) * (3 : Int32))) + ((z3 - (48 : Int32)) * (1 : Int32))) + ((z2 - (48 : Int32)) * (3 : Int32))) + ((z1 - (48 : Int32)) * (1 : Int32))) + ((z0 - (48 : Int32)) * (3 : Int32))))]) (fun m => by first | (simp [entryFrame, mkF, argsToLocals, Value.category, B25_87]; done) | rfl) ?_
  show Go B25_87 Z a0 h0 _ 0 0 [] 0 #[.val (.int ((((((((((((((((((0 : Int32) + ((z16 - (48 : Int32)) * (3 : Int32))) + ((z15 - (48 : Int32)) * (1 : Int32))) + ((z14 - (48 : Int32)) * (3 : Int32))) + ((z13 - (48 : Int32)) * (1 : Int32))) + ((z12 - (48 : Int32)) * (3 : Int32))) + ((z11 - (48 : Int32)) * (1 : Int32))) + ((z10 - (48 : Int32)) * (3 : Int32))) + ((z9 - (48 : Int32)) * (1 : Int32))) + ((z8 - (48 : Int32)) * (3 : Int32))) + ((z7 - (48 : Int32)) * (1 : Int32))) + ((z6 - (48 : Int32)) * (3 : Int32))) + ((z5 - (48 : Int32)) * (1 : Int32))) + ((z4 - (48 : Int32)) * (3 : Int32))) + ((z3 - (48 : Int32)) * (1 : Int32))) + ((z2 - (48 : Int32)) * (3 : Int32))) + ((z1 - (48 : Int32)) * (1 : Int32))) + ((z0 - (48 : Int32)) * (3 : Int32))))] []
  refine go_bipush (10 : Int32) 2 rfl d25_0 rfl ?_
  refine go_iloadN 3 rfl d25_2 rfl ?_
  refine go_bipush (10 : Int32) 5 rfl d25_3 rfl ?_
  refine go_irem 6 rfl d25_5 rfl (by decide) ?_
  refine go_isub 7 rfl d25_6 rfl ?_
  refine go_bipush (10 : Int32) 9 rfl d25_7 rfl ?_
  refine go_irem 10 rfl d25_9 rfl (by decide) ?_
  exact go_ireturn d25_10 rfl (Or.inl rfl) rfl rfl (by decide) (by decide) ⟨rfl, rfl⟩
theorem d23_0 : decode prog_10_method_6_code 0 = .ok (.iconst 0, 1) := by decide +kernel
theorem d23_1 : decode prog_10_method_6_code 1 = .ok (.istore_n 2, 1) := by decide +kernel
theorem d23_2 : decode prog_10_method_6_code 2 = .ok (.iconst 3, 1) := by decide +kernel
theorem d23_3 : decode prog_10_method_6_code 3 = .ok (.istore_n 3, 1) := by decide +kernel
theorem d23_4 : decode prog_10_method_6_code 4 = .ok (.iload_n 1, 1) := by decide +kernel
theorem d23_5 : decode prog_10_method_6_code 5 = .ok (.iconst 1, 1) := by decide +kernel
theorem d23_6 : decode prog_10_method_6_code 6 = .ok (.isub, 1) := by decide +kernel
theorem d23_7 : decode prog_10_method_6_code 7 = .ok (.istore 4, 2) := by decide +kernel
theorem d23_9 : decode prog_10_method_6_code 9 = .ok (.iload 4, 2) := by decide +kernel
theorem d23_11 : decode prog_10_method_6_code 11 = .ok (.ifCond .lt 30, 3) := by decide +kernel
theorem d23_14 : decode prog_10_method_6_code 14 = .ok (.iload_n 2, 1) := by decide +kernel
theorem d23_15 : decode prog_10_method_6_code 15 = .ok (.aload_n 0, 1) := by decide +kernel
theorem d23_16 : decode prog_10_method_6_code 16 = .ok (.iload 4, 2) := by decide +kernel
theorem d23_18 : decode prog_10_method_6_code 18 = .ok (.invokeinterface 28 2, 5) := by decide +kernel
theorem d23_23 : decode prog_10_method_6_code 23 = .ok (.bipush 48, 2) := by decide +kernel
theorem d23_25 : decode prog_10_method_6_code 25 = .ok (.isub, 1) := by decide +kernel
theorem d23_26 : decode prog_10_method_6_code 26 = .ok (.iload_n 3, 1) := by decide +kernel
theorem d23_27 : decode prog_10_method_6_code 27 = .ok (.imul, 1) := by decide +kernel
theorem d23_28 : decode prog_10_method_6_code 28 = .ok (.iadd, 1) := by decide +kernel
theorem d23_29 : decode prog_10_method_6_code 29 = .ok (.istore_n 2, 1) := by decide +kernel
theorem d23_30 : decode prog_10_method_6_code 30 = .ok (.iload_n 3, 1) := by decide +kernel
theorem d23_31 : decode prog_10_method_6_code 31 = .ok (.invokestatic 77, 3) := by decide +kernel
theorem d23_34 : decode prog_10_method_6_code 34 = .ok (.istore_n 3, 1) := by decide +kernel
theorem d23_35 : decode prog_10_method_6_code 35 = .ok (.iinc 4 (-1), 3) := by decide +kernel
theorem d23_38 : decode prog_10_method_6_code 38 = .ok (.goto (-29), 3) := by decide +kernel
theorem d23_41 : decode prog_10_method_6_code 41 = .ok (.iload_n 2, 1) := by decide +kernel
theorem d23_42 : decode prog_10_method_6_code 42 = .ok (.invokestatic 81, 3) := by decide +kernel
theorem d23_45 : decode prog_10_method_6_code 45 = .ok (.ireturn, 1) := by decide +kernel
theorem pn23 : plainFor (⟨"com/example/cartonmark/cartonmark/gs1/Gs1Digits", "checkDigit", "(Ljava/lang/CharSequence;I)I"⟩ : MethodName) = true := by first | (apply plainFor_of_name; simp [plainName, overriddenIn]; done) | decide +kernel
def B23_83 : Bdy := (⟨"com/example/cartonmark/cartonmark/gs1/Gs1Digits", "checkDigit", "(Ljava/lang/CharSequence;I)I"⟩, prog_10_method_6_code, 5, (some .int), ({ frames := 4, cells := 0, slots := 0, locals := 54 } : Room))
theorem mt83 (Z : State) (a0 : Array Value) (hw : ∀ d ∈ tables_1, d.before a0 Z = true) (h0 : Heap) (zc : Int32) (r99 : Value) (cl : Cell) (pv : Addr) (SS : Sts Z h0 zc r99 cl pv) (z0 z1 z2 z3 z4 z5 z6 z7 z8 z9 z10 z11 z12 z13 z14 z15 z16 z17 : Int32) (G : RG z0 z1 z2 z3 z4 z5 z6 z7 z8 z9 z10 z11 z12 z13 z14 z15 z16 z17) (hc : HC z0 z1 z2 z3 z4 z5 z6 z7 z8 z9 z10 z11 z12 z13 z14 z15 z16 z17) (a2 : Addr) (a1 : Addr) :
    Met B23_83 Z a0 h0 #[(.ref a1), (.int (17 : Int32))] (mem20 a2 z0 z1 z2 z3 z4 z5 z6 z7 z8 z9 z10 z11 z12 z13 z14 z15 z16 z17 a1) (Ret (some (.int (((10 : Int32) - (((((((((((((((((((0 : Int32) + ((z16 - (48 : Int32)) * (3 : Int32))) + ((z15 - (48 : Int32)) * (1 : Int32))) + ((z14 - (48 : Int32)) * (3 : Int32))) + ((z13 - (48 : Int32)) * (1 : Int32))) + ((z12 - (48 : Int32)) * (3 : Int32))) + ((z11 - (48 : Int32)) * (1 : Int32))) + ((z10 - (48 : Int32)) * (3 : Int32))) + ((z9 - (48 : Int32)) * (1 : Int32))) + ((z8 - (48 : Int32)) * (3 : Int32))) + ((z7 - (48 : Int32)) * (1 : Int32))) + ((z6 - (48 : Int32)) * (3 : Int32))) + ((z5 - (48 : Int32)) * (1 : Int32))) + ((z4 - (48 : Int32)) * (3 : Int32))) + ((z3 - (48 : Int32)) * (1 : Int32))) + ((z2 - (48 : Int32)) * (3 : Int32))) + ((z1 - (48 : Int32)) * (1 : Int32))) + ((z0 - (48 : Int32)) * (3 : Int32))) % (10 : Int32))) % (10 : Int32)))) (mem20 a2 z0 z1 z2 z3 z4 z5 z6 z7 z8 z9 z10 z11 z12 z13 z14 z15 z16 z17 a1)) := by
  refine Met.of pn23 (ls := #[.val (.ref a1), .val (.int (17 : Int32)), .unset, .unset, .unset]) (fun m => by first | (simp [entryFrame, mkF, argsToLocals, Value.category, B23_83]; done) | rfl) ?_
  show Go B23_83 Z a0 h0 _ 0 0 (mem20 a2 z0 z1 z2 z3 z4 z5 z6 z7 z8 z9 z10 z11 z12 z13 z14 z15 z16 z17 a1) 0 #[.val (.ref a1), .val (.int (17 : Int32)), .unset, .unset, .unset] []
  refine go_iconst (0 : Int32) 1 rfl d23_0 rfl ?_
  refine go_istoreN #[.val (.ref a1), .val (.int (17 : Int32)), .val (.int (0 : Int32)), .unset, .unset] 2 rfl d23_1 rfl rfl ?_
  refine go_iconst (3 : Int32) 3 rfl d23_2 rfl ?_
  refine go_istoreN #[.val (.ref a1), .val (.int (17 : Int32)), .val (.int (0 : Int32)), .val (.int (3 : Int32)), .unset] 4 rfl d23_3 rfl rfl ?_
  refine go_iloadN 5 rfl d23_4 rfl ?_
  refine go_iconst (1 : Int32) 6 rfl d23_5 rfl ?_
  refine go_isub 7 rfl d23_6 rfl ?_
  show Go B23_83 Z a0 h0 _ 0 0 (mem20 a2 z0 z1 z2 z3 z4 z5 z6 z7 z8 z9 z10 z11 z12 z13 z14 z15 z16 z17 a1) 7 #[.val (.ref a1), .val (.int (17 : Int32)), .val (.int (0 : Int32)), .val (.int (3 : Int32)), .unset] [(.int (16 : Int32))]
  refine go_istore #[.val (.ref a1), .val (.int (17 : Int32)), .val (.int (0 : Int32)), .val (.int (3 : Int32)), .val (.int (16 : Int32))] 9 rfl d23_7 rfl rfl ?_
  refine go_iload 11 rfl d23_9 rfl ?_
  refine go_if 41 14 rfl (by decide) rfl d23_11 rfl (fun (hc11 : (16 : Int) < 0) => absurd hc11 (by decide)) (fun (hc11 : ¬ ((16 : Int) < 0)) => ?_)
  refine go_iloadN 15 rfl d23_14 rfl ?_
  refine go_aloadN 16 rfl d23_15 rfl rfl ?_
  refine go_iload 18 rfl d23_16 rfl ?_
  refine go_callF 23 rfl d23_18 (wd hw 98 rfl) (wd hw 99 rfl) (wd hw 100 rfl) (by decide) (wd hw 101 rfl) (wd hw 102 rfl) (wd hw 103 rfl) (wd hw 104 rfl) (wd hw 91 rfl) (wd hw 35 rfl) (wd hw 105 rfl) (by decide) (Mo.exa (i := 1) rfl) (mt74 Z a0 hw h0 zc r99 cl pv SS z0 z1 z2 z3 z4 z5 z6 z7 z8 z9 z10 z11 z12 z13 z14 z15 z16 z17 G hc a2 a1) (argsL := [(.int (16 : Int32))]) (rest := [(.int (0 : Int32))]) rfl (ps := [.int]) (by decide +kernel) rfl rfl 1 rfl (by decide) (by decide) (by decide) (by decide) ?_
  rintro _ _ ⟨rfl, rfl⟩
  show Go B23_83 Z a0 h0 _ 0 0 (mem20 a2 z0 z1 z2 z3 z4 z5 z6 z7 z8 z9 z10 z11 z12 z13 z14 z15 z16 z17 a1) 23 #[.val (.ref a1), .val (.int (17 : Int32)), .val (.int (0 : Int32)), .val (.int (3 : Int32)), .val (.int (16 : Int32))] [(.int z16), (.int (0 : Int32))]
  refine go_bipush (48 : Int32) 25 rfl d23_23 rfl ?_
  refine go_isub 26 rfl d23_25 rfl ?_
  refine go_iloadN 27 rfl d23_26 rfl ?_
  refine go_imul 28 rfl d23_27 rfl ?_
  refine go_iadd 29 rfl d23_28 rfl ?_
  refine go_istoreN #[.val (.ref a1), .val (.int (17 : Int32)), .val (.int ((0 : Int32) + ((z16 - (48 : Int32)) * (3 : Int32)))), .val (.int (3 : Int32)), .val (.int (16 : Int32))] 30 rfl d23_29 rfl rfl ?_
  generalize es0 : ((0 : Int32) + ((z16 - (48 : Int32)) * (3 : Int32))) = p60
  refine go_iloadN 31 rfl d23_30 rfl ?_
  refine go_callS 34 rfl d23_31 (wd hw 129 rfl) (wd hw 130 rfl) (wd hw 75 rfl) (wd hw 131 rfl) (by decide) (Met.frame (mem20 a2 z0 z1 z2 z3 z4 z5 z6 z7 z8 z9 z10 z11 z12 z13 z14 z15 z16 z17 a1) (mt84 Z a0 hw h0 zc r99 cl pv SS z0 z1 z2 z3 z4 z5 z6 z7 z8 z9 z10 z11 z12 z13 z14 z15 z16 z17 G hc)) (argsL := [(.int (3 : Int32))]) (rest := []) rfl (ps := [.int]) (by decide +kernel) rfl rfl 0 rfl (by decide) (by decide) (by decide) (by decide) ?_
  rintro _ _ ⟨_, ⟨rfl, rfl⟩, rfl⟩
  show Go B23_83 Z a0 h0 _ 0 0 (mem20 a2 z0 z1 z2 z3 z4 z5 z6 z7 z8 z9 z10 z11 z12 z13 z14 z15 z16 z17 a1) 34 #[.val (.ref a1), .val (.int (17 : Int32)), .val (.int p60), .val (.int (3 : Int32)), .val (.int (16 : Int32))] [(.int (1 : Int32))]
  refine go_istoreN #[.val (.ref a1), .val (.int (17 : Int32)), .val (.int p60), .val (.int (1 : Int32)), .val (.int (16 : Int32))] 35 rfl d23_34 rfl rfl ?_
  refine go_iinc #[.val (.ref a1), .val (.int (17 : Int32)), .val (.int p60), .val (.int (1 : Int32)), .val (.int (15 : Int32))] 38 rfl d23_35 rfl rfl ?_
  refine go_goto 9 (by decide) rfl d23_38 ?_
  refine go_iload 11 rfl d23_9 rfl ?_
  refine go_if 41 14 rfl (by decide) rfl d23_11 rfl (fun (hc11 : (15 : Int) < 0) => absurd hc11 (by decide)) (fun (hc11 : ¬ ((15 : Int) < 0)) => ?_)
  refine go_iloadN 15 rfl d23_14 rfl ?_
  refine go_aloadN 16 rfl d23_15 rfl rfl ?_
  refine go_iload 18 rfl d23_16 rfl ?_
  refine go_callF 23 rfl d23_18 (wd hw 98 rfl) (wd hw 99 rfl) (wd hw 100 rfl) (by decide) (wd hw 101 rfl) (wd hw 102 rfl) (wd hw 103 rfl) (wd hw 104 rfl) (wd hw 91 rfl) (wd hw 35 rfl) (wd hw 105 rfl) (by decide) (Mo.exa (i := 1) rfl) (mt70 Z a0 hw h0 zc r99 cl pv SS z0 z1 z2 z3 z4 z5 z6 z7 z8 z9 z10 z11 z12 z13 z14 z15 z16 z17 G hc a2 a1) (argsL := [(.int (15 : Int32))]) (rest := [(.int p60)]) rfl (ps := [.int]) (by decide +kernel) rfl rfl 1 rfl (by decide) (by decide) (by decide) (by decide) ?_
  rintro _ _ ⟨rfl, rfl⟩
  show Go B23_83 Z a0 h0 _ 0 0 (mem20 a2 z0 z1 z2 z3 z4 z5 z6 z7 z8 z9 z10 z11 z12 z13 z14 z15 z16 z17 a1) 23 #[.val (.ref a1), .val (.int (17 : Int32)), .val (.int p60), .val (.int (1 : Int32)), .val (.int (15 : Int32))] [(.int z15), (.int p60)]
  refine go_bipush (48 : Int32) 25 rfl d23_23 rfl ?_
  refine go_isub 26 rfl d23_25 rfl ?_
  refine go_iloadN 27 rfl d23_26 rfl ?_
  refine go_imul 28 rfl d23_27 rfl ?_
  refine go_iadd 29 rfl d23_28 rfl ?_
  refine go_istoreN #[.val (.ref a1), .val (.int (17 : Int32)), .val (.int (p60 + ((z15 - (48 : Int32)) * (1 : Int32)))), .val (.int (1 : Int32)), .val (.int (15 : Int32))] 30 rfl d23_29 rfl rfl ?_
  generalize es1 : (p60 + ((z15 - (48 : Int32)) * (1 : Int32))) = p61
  refine go_iloadN 31 rfl d23_30 rfl ?_
  refine go_callS 34 rfl d23_31 (wd hw 129 rfl) (wd hw 130 rfl) (wd hw 75 rfl) (wd hw 131 rfl) (by decide) (Met.frame (mem20 a2 z0 z1 z2 z3 z4 z5 z6 z7 z8 z9 z10 z11 z12 z13 z14 z15 z16 z17 a1) (mt85 Z a0 hw h0 zc r99 cl pv SS z0 z1 z2 z3 z4 z5 z6 z7 z8 z9 z10 z11 z12 z13 z14 z15 z16 z17 G hc)) (argsL := [(.int (1 : Int32))]) (rest := []) rfl (ps := [.int]) (by decide +kernel) rfl rfl 0 rfl (by decide) (by decide) (by decide) (by decide) ?_
  rintro _ _ ⟨_, ⟨rfl, rfl⟩, rfl⟩
  show Go B23_83 Z a0 h0 _ 0 0 (mem20 a2 z0 z1 z2 z3 z4 z5 z6 z7 z8 z9 z10 z11 z12 z13 z14 z15 z16 z17 a1) 34 #[.val (.ref a1), .val (.int (17 : Int32)), .val (.int p61), .val (.int (1 : Int32)), .val (.int (15 : Int32))] [(.int (3 : Int32))]
  refine go_istoreN #[.val (.ref a1), .val (.int (17 : Int32)), .val (.int p61), .val (.int (3 : Int32)), .val (.int (15 : Int32))] 35 rfl d23_34 rfl rfl ?_
  refine go_iinc #[.val (.ref a1), .val (.int (17 : Int32)), .val (.int p61), .val (.int (3 : Int32)), .val (.int (14 : Int32))] 38 rfl d23_35 rfl rfl ?_
  refine go_goto 9 (by decide) rfl d23_38 ?_
  refine go_iload 11 rfl d23_9 rfl ?_
  refine go_if 41 14 rfl (by decide) rfl d23_11 rfl (fun (hc11 : (14 : Int) < 0) => absurd hc11 (by decide)) (fun (hc11 : ¬ ((14 : Int) < 0)) => ?_)
  refine go_iloadN 15 rfl d23_14 rfl ?_
  refine go_aloadN 16 rfl d23_15 rfl rfl ?_
  refine go_iload 18 rfl d23_16 rfl ?_
  refine go_callF 23 rfl d23_18 (wd hw 98 rfl) (wd hw 99 rfl) (wd hw 100 rfl) (by decide) (wd hw 101 rfl) (wd hw 102 rfl) (wd hw 103 rfl) (wd hw 104 rfl) (wd hw 91 rfl) (wd hw 35 rfl) (wd hw 105 rfl) (by decide) (Mo.exa (i := 1) rfl) (mt66 Z a0 hw h0 zc r99 cl pv SS z0 z1 z2 z3 z4 z5 z6 z7 z8 z9 z10 z11 z12 z13 z14 z15 z16 z17 G hc a2 a1) (argsL := [(.int (14 : Int32))]) (rest := [(.int p61)]) rfl (ps := [.int]) (by decide +kernel) rfl rfl 1 rfl (by decide) (by decide) (by decide) (by decide) ?_
  rintro _ _ ⟨rfl, rfl⟩
  show Go B23_83 Z a0 h0 _ 0 0 (mem20 a2 z0 z1 z2 z3 z4 z5 z6 z7 z8 z9 z10 z11 z12 z13 z14 z15 z16 z17 a1) 23 #[.val (.ref a1), .val (.int (17 : Int32)), .val (.int p61), .val (.int (3 : Int32)), .val (.int (14 : Int32))] [(.int z14), (.int p61)]
  refine go_bipush (48 : Int32) 25 rfl d23_23 rfl ?_
  refine go_isub 26 rfl d23_25 rfl ?_
  refine go_iloadN 27 rfl d23_26 rfl ?_
  refine go_imul 28 rfl d23_27 rfl ?_
  refine go_iadd 29 rfl d23_28 rfl ?_
  refine go_istoreN #[.val (.ref a1), .val (.int (17 : Int32)), .val (.int (p61 + ((z14 - (48 : Int32)) * (3 : Int32)))), .val (.int (3 : Int32)), .val (.int (14 : Int32))] 30 rfl d23_29 rfl rfl ?_
  generalize es2 : (p61 + ((z14 - (48 : Int32)) * (3 : Int32))) = p62
  refine go_iloadN 31 rfl d23_30 rfl ?_
  refine go_callS 34 rfl d23_31 (wd hw 129 rfl) (wd hw 130 rfl) (wd hw 75 rfl) (wd hw 131 rfl) (by decide) (Met.frame (mem20 a2 z0 z1 z2 z3 z4 z5 z6 z7 z8 z9 z10 z11 z12 z13 z14 z15 z16 z17 a1) (mt84 Z a0 hw h0 zc r99 cl pv SS z0 z1 z2 z3 z4 z5 z6 z7 z8 z9 z10 z11 z12 z13 z14 z15 z16 z17 G hc)) (argsL := [(.int (3 : Int32))]) (rest := []) rfl (ps := [.int]) (by decide +kernel) rfl rfl 0 rfl (by decide) (by decide) (by decide) (by decide) ?_
  rintro _ _ ⟨_, ⟨rfl, rfl⟩, rfl⟩
  show Go B23_83 Z a0 h0 _ 0 0 (mem20 a2 z0 z1 z2 z3 z4 z5 z6 z7 z8 z9 z10 z11 z12 z13 z14 z15 z16 z17 a1) 34 #[.val (.ref a1), .val (.int (17 : Int32)), .val (.int p62), .val (.int (3 : Int32)), .val (.int (14 : Int32))] [(.int (1 : Int32))]
  refine go_istoreN #[.val (.ref a1), .val (.int (17 : Int32)), .val (.int p62), .val (.int (1 : Int32)), .val (.int (14 : Int32))] 35 rfl d23_34 rfl rfl ?_
  refine go_iinc #[.val (.ref a1), .val (.int (17 : Int32)), .val (.int p62), .val (.int (1 : Int32)), .val (.int (13 : Int32))] 38 rfl d23_35 rfl rfl ?_
  refine go_goto 9 (by decide) rfl d23_38 ?_
  refine go_iload 11 rfl d23_9 rfl ?_
  refine go_if 41 14 rfl (by decide) rfl d23_11 rfl (fun (hc11 : (13 : Int) < 0) => absurd hc11 (by decide)) (fun (hc11 : ¬ ((13 : Int) < 0)) => ?_)
  refine go_iloadN 15 rfl d23_14 rfl ?_
  refine go_aloadN 16 rfl d23_15 rfl rfl ?_
  refine go_iload 18 rfl d23_16 rfl ?_
  refine go_callF 23 rfl d23_18 (wd hw 98 rfl) (wd hw 99 rfl) (wd hw 100 rfl) (by decide) (wd hw 101 rfl) (wd hw 102 rfl) (wd hw 103 rfl) (wd hw 104 rfl) (wd hw 91 rfl) (wd hw 35 rfl) (wd hw 105 rfl) (by decide) (Mo.exa (i := 1) rfl) (mt62 Z a0 hw h0 zc r99 cl pv SS z0 z1 z2 z3 z4 z5 z6 z7 z8 z9 z10 z11 z12 z13 z14 z15 z16 z17 G hc a2 a1) (argsL := [(.int (13 : Int32))]) (rest := [(.int p62)]) rfl (ps := [.int]) (by decide +kernel) rfl rfl 1 rfl (by decide) (by decide) (by decide) (by decide) ?_
  rintro _ _ ⟨rfl, rfl⟩
  show Go B23_83 Z a0 h0 _ 0 0 (mem20 a2 z0 z1 z2 z3 z4 z5 z6 z7 z8 z9 z10 z11 z12 z13 z14 z15 z16 z17 a1) 23 #[.val (.ref a1), .val (.int (17 : Int32)), .val (.int p62), .val (.int (1 : Int32)), .val (.int (13 : Int32))] [(.int z13), (.int p62)]
  refine go_bipush (48 : Int32) 25 rfl d23_23 rfl ?_
  refine go_isub 26 rfl d23_25 rfl ?_
  refine go_iloadN 27 rfl d23_26 rfl ?_
  refine go_imul 28 rfl d23_27 rfl ?_
  refine go_iadd 29 rfl d23_28 rfl ?_
  refine go_istoreN #[.val (.ref a1), .val (.int (17 : Int32)), .val (.int (p62 + ((z13 - (48 : Int32)) * (1 : Int32)))), .val (.int (1 : Int32)), .val (.int (13 : Int32))] 30 rfl d23_29 rfl rfl ?_
  generalize es3 : (p62 + ((z13 - (48 : Int32)) * (1 : Int32))) = p63
  refine go_iloadN 31 rfl d23_30 rfl ?_
  refine go_callS 34 rfl d23_31 (wd hw 129 rfl) (wd hw 130 rfl) (wd hw 75 rfl) (wd hw 131 rfl) (by decide) (Met.frame (mem20 a2 z0 z1 z2 z3 z4 z5 z6 z7 z8 z9 z10 z11 z12 z13 z14 z15 z16 z17 a1) (mt85 Z a0 hw h0 zc r99 cl pv SS z0 z1 z2 z3 z4 z5 z6 z7 z8 z9 z10 z11 z12 z13 z14 z15 z16 z17 G hc)) (argsL := [(.int (1 : Int32))]) (rest := []) rfl (ps := [.int]) (by decide +kernel) rfl rfl 0 rfl (by decide) (by decide) (by decide) (by decide) ?_
  rintro _ _ ⟨_, ⟨rfl, rfl⟩, rfl⟩
  show Go B23_83 Z a0 h0 _ 0 0 (mem20 a2 z0 z1 z2 z3 z4 z5 z6 z7 z8 z9 z10 z11 z12 z13 z14 z15 z16 z17 a1) 34 #[.val (.ref a1), .val (.int (17 : Int32)), .val (.int p63), .val (.int (1 : Int32)), .val (.int (13 : Int32))] [(.int (3 : Int32))]
  refine go_istoreN #[.val (.ref a1), .val (.int (17 : Int32)), .val (.int p63), .val (.int (3 : Int32)), .val (.int (13 : Int32))] 35 rfl d23_34 rfl rfl ?_
  refine go_iinc #[.val (.ref a1), .val (.int (17 : Int32)), .val (.int p63), .val (.int (3 : Int32)), .val (.int (12 : Int32))] 38 rfl d23_35 rfl rfl ?_
  refine go_goto 9 (by decide) rfl d23_38 ?_
  refine go_iload 11 rfl d23_9 rfl ?_
  refine go_if 41 14 rfl (by decide) rfl d23_11 rfl (fun (hc11 : (12 : Int) < 0) => absurd hc11 (by decide)) (fun (hc11 : ¬ ((12 : Int) < 0)) => ?_)
  refine go_iloadN 15 rfl d23_14 rfl ?_
  refine go_aloadN 16 rfl d23_15 rfl rfl ?_
  refine go_iload 18 rfl d23_16 rfl ?_
  refine go_callF 23 rfl d23_18 (wd hw 98 rfl) (wd hw 99 rfl) (wd hw 100 rfl) (by decide) (wd hw 101 rfl) (wd hw 102 rfl) (wd hw 103 rfl) (wd hw 104 rfl) (wd hw 91 rfl) (wd hw 35 rfl) (wd hw 105 rfl) (by decide) (Mo.exa (i := 1) rfl) (mt58 Z a0 hw h0 zc r99 cl pv SS z0 z1 z2 z3 z4 z5 z6 z7 z8 z9 z10 z11 z12 z13 z14 z15 z16 z17 G hc a2 a1) (argsL := [(.int (12 : Int32))]) (rest := [(.int p63)]) rfl (ps := [.int]) (by decide +kernel) rfl rfl 1 rfl (by decide) (by decide) (by decide) (by decide) ?_
  rintro _ _ ⟨rfl, rfl⟩
  show Go B23_83 Z a0 h0 _ 0 0 (mem20 a2 z0 z1 z2 z3 z4 z5 z6 z7 z8 z9 z10 z11 z12 z13 z14 z15 z16 z17 a1) 23 #[.val (.ref a1), .val (.int (17 : Int32)), .val (.int p63), .val (.int (3 : Int32)), .val (.int (12 : Int32))] [(.int z12), (.int p63)]
  refine go_bipush (48 : Int32) 25 rfl d23_23 rfl ?_
  refine go_isub 26 rfl d23_25 rfl ?_
  refine go_iloadN 27 rfl d23_26 rfl ?_
  refine go_imul 28 rfl d23_27 rfl ?_
  refine go_iadd 29 rfl d23_28 rfl ?_
  refine go_istoreN #[.val (.ref a1), .val (.int (17 : Int32)), .val (.int (p63 + ((z12 - (48 : Int32)) * (3 : Int32)))), .val (.int (3 : Int32)), .val (.int (12 : Int32))] 30 rfl d23_29 rfl rfl ?_
  generalize es4 : (p63 + ((z12 - (48 : Int32)) * (3 : Int32))) = p64
  refine go_iloadN 31 rfl d23_30 rfl ?_
  refine go_callS 34 rfl d23_31 (wd hw 129 rfl) (wd hw 130 rfl) (wd hw 75 rfl) (wd hw 131 rfl) (by decide) (Met.frame (mem20 a2 z0 z1 z2 z3 z4 z5 z6 z7 z8 z9 z10 z11 z12 z13 z14 z15 z16 z17 a1) (mt84 Z a0 hw h0 zc r99 cl pv SS z0 z1 z2 z3 z4 z5 z6 z7 z8 z9 z10 z11 z12 z13 z14 z15 z16 z17 G hc)) (argsL := [(.int (3 : Int32))]) (rest := []) rfl (ps := [.int]) (by decide +kernel) rfl rfl 0 rfl (by decide) (by decide) (by decide) (by decide) ?_
  rintro _ _ ⟨_, ⟨rfl, rfl⟩, rfl⟩
  show Go B23_83 Z a0 h0 _ 0 0 (mem20 a2 z0 z1 z2 z3 z4 z5 z6 z7 z8 z9 z10 z11 z12 z13 z14 z15 z16 z17 a1) 34 #[.val (.ref a1), .val (.int (17 : Int32)), .val (.int p64), .val (.int (3 : Int32)), .val (.int (12 : Int32))] [(.int (1 : Int32))]
  refine go_istoreN #[.val (.ref a1), .val (.int (17 : Int32)), .val (.int p64), .val (.int (1 : Int32)), .val (.int (12 : Int32))] 35 rfl d23_34 rfl rfl ?_
  refine go_iinc #[.val (.ref a1), .val (.int (17 : Int32)), .val (.int p64), .val (.int (1 : Int32)), .val (.int (11 : Int32))] 38 rfl d23_35 rfl rfl ?_
  refine go_goto 9 (by decide) rfl d23_38 ?_
  refine go_iload 11 rfl d23_9 rfl ?_
  refine go_if 41 14 rfl (by decide) rfl d23_11 rfl (fun (hc11 : (11 : Int) < 0) => absurd hc11 (by decide)) (fun (hc11 : ¬ ((11 : Int) < 0)) => ?_)
  refine go_iloadN 15 rfl d23_14 rfl ?_
  refine go_aloadN 16 rfl d23_15 rfl rfl ?_
  refine go_iload 18 rfl d23_16 rfl ?_
  refine go_callF 23 rfl d23_18 (wd hw 98 rfl) (wd hw 99 rfl) (wd hw 100 rfl) (by decide) (wd hw 101 rfl) (wd hw 102 rfl) (wd hw 103 rfl) (wd hw 104 rfl) (wd hw 91 rfl) (wd hw 35 rfl) (wd hw 105 rfl) (by decide) (Mo.exa (i := 1) rfl) (mt54 Z a0 hw h0 zc r99 cl pv SS z0 z1 z2 z3 z4 z5 z6 z7 z8 z9 z10 z11 z12 z13 z14 z15 z16 z17 G hc a2 a1) (argsL := [(.int (11 : Int32))]) (rest := [(.int p64)]) rfl (ps := [.int]) (by decide +kernel) rfl rfl 1 rfl (by decide) (by decide) (by decide) (by decide) ?_
  rintro _ _ ⟨rfl, rfl⟩
  show Go B23_83 Z a0 h0 _ 0 0 (mem20 a2 z0 z1 z2 z3 z4 z5 z6 z7 z8 z9 z10 z11 z12 z13 z14 z15 z16 z17 a1) 23 #[.val (.ref a1), .val (.int (17 : Int32)), .val (.int p64), .val (.int (1 : Int32)), .val (.int (11 : Int32))] [(.int z11), (.int p64)]
  refine go_bipush (48 : Int32) 25 rfl d23_23 rfl ?_
  refine go_isub 26 rfl d23_25 rfl ?_
  refine go_iloadN 27 rfl d23_26 rfl ?_
  refine go_imul 28 rfl d23_27 rfl ?_
  refine go_iadd 29 rfl d23_28 rfl ?_
  refine go_istoreN #[.val (.ref a1), .val (.int (17 : Int32)), .val (.int (p64 + ((z11 - (48 : Int32)) * (1 : Int32)))), .val (.int (1 : Int32)), .val (.int (11 : Int32))] 30 rfl d23_29 rfl rfl ?_
  generalize es5 : (p64 + ((z11 - (48 : Int32)) * (1 : Int32))) = p65
  refine go_iloadN 31 rfl d23_30 rfl ?_
  refine go_callS 34 rfl d23_31 (wd hw 129 rfl) (wd hw 130 rfl) (wd hw 75 rfl) (wd hw 131 rfl) (by decide) (Met.frame (mem20 a2 z0 z1 z2 z3 z4 z5 z6 z7 z8 z9 z10 z11 z12 z13 z14 z15 z16 z17 a1) (mt85 Z a0 hw h0 zc r99 cl pv SS z0 z1 z2 z3 z4 z5 z6 z7 z8 z9 z10 z11 z12 z13 z14 z15 z16 z17 G hc)) (argsL := [(.int (1 : Int32))]) (rest := []) rfl (ps := [.int]) (by decide +kernel) rfl rfl 0 rfl (by decide) (by decide) (by decide) (by decide) ?_
  rintro _ _ ⟨_, ⟨rfl, rfl⟩, rfl⟩
  show Go B23_83 Z a0 h0 _ 0 0 (mem20 a2 z0 z1 z2 z3 z4 z5 z6 z7 z8 z9 z10 z11 z12 z13 z14 z15 z16 z17 a1) 34 #[.val (.ref a1), .val (.int (17 : Int32)), .val (.int p65), .val (.int (1 : Int32)), .val (.int (11 : Int32))] [(.int (3 : Int32))]
  refine go_istoreN #[.val (.ref a1), .val (.int (17 : Int32)), .val (.int p65), .val (.int (3 : Int32)), .val (.int (11 : Int32))] 35 rfl d23_34 rfl rfl ?_
  refine go_iinc #[.val (.ref a1), .val (.int (17 : Int32)), .val (.int p65), .val (.int (3 : Int32)), .val (.int (10 : Int32))] 38 rfl d23_35 rfl rfl ?_
  refine go_goto 9 (by decide) rfl d23_38 ?_
  refine go_iload 11 rfl d23_9 rfl ?_
  refine go_if 41 14 rfl (by decide) rfl d23_11 rfl (fun (hc11 : (10 : Int) < 0) => absurd hc11 (by decide)) (fun (hc11 : ¬ ((10 : Int) < 0)) => ?_)
  refine go_iloadN 15 rfl d23_14 rfl ?_
  refine go_aloadN 16 rfl d23_15 rfl rfl ?_
  refine go_iload 18 rfl d23_16 rfl ?_
  refine go_callF 23 rfl d23_18 (wd hw 98 rfl) (wd hw 99 rfl) (wd hw 100 rfl) (by decide) (wd hw 101 rfl) (wd hw 102 rfl) (wd hw 103 rfl) (wd hw 104 rfl) (wd hw 91 rfl) (wd hw 35 rfl) (wd hw 105 rfl) (by decide) (Mo.exa (i := 1) rfl) (mt50 Z a0 hw h0 zc r99 cl pv SS z0 z1 z2 z3 z4 z5 z6 z7 z8 z9 z10 z11 z12 z13 z14 z15 z16 z17 G hc a2 a1) (argsL := [(.int (10 : Int32))]) (rest := [(.int p65)]) rfl (ps := [.int]) (by decide +kernel) rfl rfl 1 rfl (by decide) (by decide) (by decide) (by decide) ?_
  rintro _ _ ⟨rfl, rfl⟩
  show Go B23_83 Z a0 h0 _ 0 0 (mem20 a2 z0 z1 z2 z3 z4 z5 z6 z7 z8 z9 z10 z11 z12 z13 z14 z15 z16 z17 a1) 23 #[.val (.ref a1), .val (.int (17 : Int32)), .val (.int p65), .val (.int (3 : Int32)), .val (.int (10 : Int32))] [(.int z10), (.int p65)]
  refine go_bipush (48 : Int32) 25 rfl d23_23 rfl ?_
  refine go_isub 26 rfl d23_25 rfl ?_
  refine go_iloadN 27 rfl d23_26 rfl ?_
  refine go_imul 28 rfl d23_27 rfl ?_
  refine go_iadd 29 rfl d23_28 rfl ?_
  refine go_istoreN #[.val (.ref a1), .val (.int (17 : Int32)), .val (.int (p65 + ((z10 - (48 : Int32)) * (3 : Int32)))), .val (.int (3 : Int32)), .val (.int (10 : Int32))] 30 rfl d23_29 rfl rfl ?_
  generalize es6 : (p65 + ((z10 - (48 : Int32)) * (3 : Int32))) = p66
  refine go_iloadN 31 rfl d23_30 rfl ?_
  refine go_callS 34 rfl d23_31 (wd hw 129 rfl) (wd hw 130 rfl) (wd hw 75 rfl) (wd hw 131 rfl) (by decide) (Met.frame (mem20 a2 z0 z1 z2 z3 z4 z5 z6 z7 z8 z9 z10 z11 z12 z13 z14 z15 z16 z17 a1) (mt84 Z a0 hw h0 zc r99 cl pv SS z0 z1 z2 z3 z4 z5 z6 z7 z8 z9 z10 z11 z12 z13 z14 z15 z16 z17 G hc)) (argsL := [(.int (3 : Int32))]) (rest := []) rfl (ps := [.int]) (by decide +kernel) rfl rfl 0 rfl (by decide) (by decide) (by decide) (by decide) ?_
  rintro _ _ ⟨_, ⟨rfl, rfl⟩, rfl⟩
  show Go B23_83 Z a0 h0 _ 0 0 (mem20 a2 z0 z1 z2 z3 z4 z5 z6 z7 z8 z9 z10 z11 z12 z13 z14 z15 z16 z17 a1) 34 #[.val (.ref a1), .val (.int (17 : Int32)), .val (.int p66), .val (.int (3 : Int32)), .val (.int (10 : Int32))] [(.int (1 : Int32))]
  refine go_istoreN #[.val (.ref a1), .val (.int (17 : Int32)), .val (.int p66), .val (.int (1 : Int32)), .val (.int (10 : Int32))] 35 rfl d23_34 rfl rfl ?_
  refine go_iinc #[.val (.ref a1), .val (.int (17 : Int32)), .val (.int p66), .val (.int (1 : Int32)), .val (.int (9 : Int32))] 38 rfl d23_35 rfl rfl ?_
  refine go_goto 9 (by decide) rfl d23_38 ?_
  refine go_iload 11 rfl d23_9 rfl ?_
  refine go_if 41 14 rfl (by decide) rfl d23_11 rfl (fun (hc11 : (9 : Int) < 0) => absurd hc11 (by decide)) (fun (hc11 : ¬ ((9 : Int) < 0)) => ?_)
  refine go_iloadN 15 rfl d23_14 rfl ?_
  refine go_aloadN 16 rfl d23_15 rfl rfl ?_
  refine go_iload 18 rfl d23_16 rfl ?_
  refine go_callF 23 rfl d23_18 (wd hw 98 rfl) (wd hw 99 rfl) (wd hw 100 rfl) (by decide) (wd hw 101 rfl) (wd hw 102 rfl) (wd hw 103 rfl) (wd hw 104 rfl) (wd hw 91 rfl) (wd hw 35 rfl) (wd hw 105 rfl) (by decide) (Mo.exa (i := 1) rfl) (mt46 Z a0 hw h0 zc r99 cl pv SS z0 z1 z2 z3 z4 z5 z6 z7 z8 z9 z10 z11 z12 z13 z14 z15 z16 z17 G hc a2 a1) (argsL := [(.int (9 : Int32))]) (rest := [(.int p66)]) rfl (ps := [.int]) (by decide +kernel) rfl rfl 1 rfl (by decide) (by decide) (by decide) (by decide) ?_
  rintro _ _ ⟨rfl, rfl⟩
  show Go B23_83 Z a0 h0 _ 0 0 (mem20 a2 z0 z1 z2 z3 z4 z5 z6 z7 z8 z9 z10 z11 z12 z13 z14 z15 z16 z17 a1) 23 #[.val (.ref a1), .val (.int (17 : Int32)), .val (.int p66), .val (.int (1 : Int32)), .val (.int (9 : Int32))] [(.int z9), (.int p66)]
  refine go_bipush (48 : Int32) 25 rfl d23_23 rfl ?_
  refine go_isub 26 rfl d23_25 rfl ?_
  refine go_iloadN 27 rfl d23_26 rfl ?_
  refine go_imul 28 rfl d23_27 rfl ?_
  refine go_iadd 29 rfl d23_28 rfl ?_
  refine go_istoreN #[.val (.ref a1), .val (.int (17 : Int32)), .val (.int (p66 + ((z9 - (48 : Int32)) * (1 : Int32)))), .val (.int (1 : Int32)), .val (.int (9 : Int32))] 30 rfl d23_29 rfl rfl ?_
  generalize es7 : (p66 + ((z9 - (48 : Int32)) * (1 : Int32))) = p67
  refine go_iloadN 31 rfl d23_30 rfl ?_
  refine go_callS 34 rfl d23_31 (wd hw 129 rfl) (wd hw 130 rfl) (wd hw 75 rfl) (wd hw 131 rfl) (by decide) (Met.frame (mem20 a2 z0 z1 z2 z3 z4 z5 z6 z7 z8 z9 z10 z11 z12 z13 z14 z15 z16 z17 a1) (mt85 Z a0 hw h0 zc r99 cl pv SS z0 z1 z2 z3 z4 z5 z6 z7 z8 z9 z10 z11 z12 z13 z14 z15 z16 z17 G hc)) (argsL := [(.int (1 : Int32))]) (rest := []) rfl (ps := [.int]) (by decide +kernel) rfl rfl 0 rfl (by decide) (by decide) (by decide) (by decide) ?_
  rintro _ _ ⟨_, ⟨rfl, rfl⟩, rfl⟩
  show Go B23_83 Z a0 h0 _ 0 0 (mem20 a2 z0 z1 z2 z3 z4 z5 z6 z7 z8 z9 z10 z11 z12 z13 z14 z15 z16 z17 a1) 34 #[.val (.ref a1), .val (.int (17 : Int32)), .val (.int p67), .val (.int (1 : Int32)), .val (.int (9 : Int32))] [(.int (3 : Int32))]
  refine go_istoreN #[.val (.ref a1), .val (.int (17 : Int32)), .val (.int p67), .val (.int (3 : Int32)), .val (.int (9 : Int32))] 35 rfl d23_34 rfl rfl ?_
  refine go_iinc #[.val (.ref a1), .val (.int (17 : Int32)), .val (.int p67), .val (.int (3 : Int32)), .val (.int (8 : Int32))] 38 rfl d23_35 rfl rfl ?_
  refine go_goto 9 (by decide) rfl d23_38 ?_
  refine go_iload 11 rfl d23_9 rfl ?_
  refine go_if 41 14 rfl (by decide) rfl d23_11 rfl (fun (hc11 : (8 : Int) < 0) => absurd hc11 (by decide)) (fun (hc11 : ¬ ((8 : Int) < 0)) => ?_)
  refine go_iloadN 15 rfl d23_14 rfl ?_
  refine go_aloadN 16 rfl d23_15 rfl rfl ?_
  refine go_iload 18 rfl d23_16 rfl ?_
  refine go_callF 23 rfl d23_18 (wd hw 98 rfl) (wd hw 99 rfl) (wd hw 100 rfl) (by decide) (wd hw 101 rfl) (wd hw 102 rfl) (wd hw 103 rfl) (wd hw 104 rfl) (wd hw 91 rfl) (wd hw 35 rfl) (wd hw 105 rfl) (by decide) (Mo.exa (i := 1) rfl) (mt42 Z a0 hw h0 zc r99 cl pv SS z0 z1 z2 z3 z4 z5 z6 z7 z8 z9 z10 z11 z12 z13 z14 z15 z16 z17 G hc a2 a1) (argsL := [(.int (8 : Int32))]) (rest := [(.int p67)]) rfl (ps := [.int]) (by decide +kernel) rfl rfl 1 rfl (by decide) (by decide) (by decide) (by decide) ?_
  rintro _ _ ⟨rfl, rfl⟩
  show Go B23_83 Z a0 h0 _ 0 0 (mem20 a2 z0 z1 z2 z3 z4 z5 z6 z7 z8 z9 z10 z11 z12 z13 z14 z15 z16 z17 a1) 23 #[.val (.ref a1), .val (.int (17 : Int32)), .val (.int p67), .val (.int (3 : Int32)), .val (.int (8 : Int32))] [(.int z8), (.int p67)]
  refine go_bipush (48 : Int32) 25 rfl d23_23 rfl ?_
  refine go_isub 26 rfl d23_25 rfl ?_
  refine go_iloadN 27 rfl d23_26 rfl ?_
  refine go_imul 28 rfl d23_27 rfl ?_
  refine go_iadd 29 rfl d23_28 rfl ?_
  refine go_istoreN #[.val (.ref a1), .val (.int (17 : Int32)), .val (.int (p67 + ((z8 - (48 : Int32)) * (3 : Int32)))), .val (.int (3 : Int32)), .val (.int (8 : Int32))] 30 rfl d23_29 rfl rfl ?_
  generalize es8 : (p67 + ((z8 - (48 : Int32)) * (3 : Int32))) = p68
  refine go_iloadN 31 rfl d23_30 rfl ?_
  refine go_callS 34 rfl d23_31 (wd hw 129 rfl) (wd hw 130 rfl) (wd hw 75 rfl) (wd hw 131 rfl) (by decide) (Met.frame (mem20 a2 z0 z1 z2 z3 z4 z5 z6 z7 z8 z9 z10 z11 z12 z13 z14 z15 z16 z17 a1) (mt84 Z a0 hw h0 zc r99 cl pv SS z0 z1 z2 z3 z4 z5 z6 z7 z8 z9 z10 z11 z12 z13 z14 z15 z16 z17 G hc)) (argsL := [(.int (3 : Int32))]) (rest := []) rfl (ps := [.int]) (by decide +kernel) rfl rfl 0 rfl (by decide) (by decide) (by decide) (by decide) ?_
  rintro _ _ ⟨_, ⟨rfl, rfl⟩, rfl⟩
  show Go B23_83 Z a0 h0 _ 0 0 (mem20 a2 z0 z1 z2 z3 z4 z5 z6 z7 z8 z9 z10 z11 z12 z13 z14 z15 z16 z17 a1) 34 #[.val (.ref a1), .val (.int (17 : Int32)), .val (.int p68), .val (.int (3 : Int32)), .val (.int (8 : Int32))] [(.int (1 : Int32))]
  refine go_istoreN #[.val (.ref a1), .val (.int (17 : Int32)), .val (.int p68), .val (.int (1 : Int32)), .val (.int (8 : Int32))] 35 rfl d23_34 rfl rfl ?_
  refine go_iinc #[.val (.ref a1), .val (.int (17 : Int32)), .val (.int p68), .val (.int (1 : Int32)), .val (.int (7 : Int32))] 38 rfl d23_35 rfl rfl ?_
  refine go_goto 9 (by decide) rfl d23_38 ?_
  refine go_iload 11 rfl d23_9 rfl ?_
  refine go_if 41 14 rfl (by decide) rfl d23_11 rfl (fun (hc11 : (7 : Int) < 0) => absurd hc11 (by decide)) (fun (hc11 : ¬ ((7 : Int) < 0)) => ?_)
  refine go_iloadN 15 rfl d23_14 rfl ?_
  refine go_aloadN 16 rfl d23_15 rfl rfl ?_
  refine go_iload 18 rfl d23_16 rfl ?_
  refine go_callF 23 rfl d23_18 (wd hw 98 rfl) (wd hw 99 rfl) (wd hw 100 rfl) (by decide) (wd hw 101 rfl) (wd hw 102 rfl) (wd hw 103 rfl) (wd hw 104 rfl) (wd hw 91 rfl) (wd hw 35 rfl) (wd hw 105 rfl) (by decide) (Mo.exa (i := 1) rfl) (mt38 Z a0 hw h0 zc r99 cl pv SS z0 z1 z2 z3 z4 z5 z6 z7 z8 z9 z10 z11 z12 z13 z14 z15 z16 z17 G hc a2 a1) (argsL := [(.int (7 : Int32))]) (rest := [(.int p68)]) rfl (ps := [.int]) (by decide +kernel) rfl rfl 1 rfl (by decide) (by decide) (by decide) (by decide) ?_
  rintro _ _ ⟨rfl, rfl⟩
  show Go B23_83 Z a0 h0 _ 0 0 (mem20 a2 z0 z1 z2 z3 z4 z5 z6 z7 z8 z9 z10 z11 z12 z13 z14 z15 z16 z17 a1) 23 #[.val (.ref a1), .val (.int (17 : Int32)), .val (.int p68), .val (.int (1 : Int32)), .val (.int (7 : Int32))] [(.int z7), (.int p68)]
  refine go_bipush (48 : Int32) 25 rfl d23_23 rfl ?_
  refine go_isub 26 rfl d23_25 rfl ?_
  refine go_iloadN 27 rfl d23_26 rfl ?_
  refine go_imul 28 rfl d23_27 rfl ?_
  refine go_iadd 29 rfl d23_28 rfl ?_
  refine go_istoreN #[.val (.ref a1), .val (.int (17 : Int32)), .val (.int (p68 + ((z7 - (48 : Int32)) * (1 : Int32)))), .val (.int (1 : Int32)), .val (.int (7 : Int32))] 30 rfl d23_29 rfl rfl ?_
  generalize es9 : (p68 + ((z7 - (48 : Int32)) * (1 : Int32))) = p69
  refine go_iloadN 31 rfl d23_30 rfl ?_
  refine go_callS 34 rfl d23_31 (wd hw 129 rfl) (wd hw 130 rfl) (wd hw 75 rfl) (wd hw 131 rfl) (by decide) (Met.frame (mem20 a2 z0 z1 z2 z3 z4 z5 z6 z7 z8 z9 z10 z11 z12 z13 z14 z15 z16 z17 a1) (mt85 Z a0 hw h0 zc r99 cl pv SS z0 z1 z2 z3 z4 z5 z6 z7 z8 z9 z10 z11 z12 z13 z14 z15 z16 z17 G hc)) (argsL := [(.int (1 : Int32))]) (rest := []) rfl (ps := [.int]) (by decide +kernel) rfl rfl 0 rfl (by decide) (by decide) (by decide) (by decide) ?_
  rintro _ _ ⟨_, ⟨rfl, rfl⟩, rfl⟩
  show Go B23_83 Z a0 h0 _ 0 0 (mem20 a2 z0 z1 z2 z3 z4 z5 z6 z7 z8 z9 z10 z11 z12 z13 z14 z15 z16 z17 a1) 34 #[.val (.ref a1), .val (.int (17 : Int32)), .val (.int p69), .val (.int (1 : Int32)), .val (.int (7 : Int32))] [(.int (3 : Int32))]
  refine go_istoreN #[.val (.ref a1), .val (.int (17 : Int32)), .val (.int p69), .val (.int (3 : Int32)), .val (.int (7 : Int32))] 35 rfl d23_34 rfl rfl ?_
  refine go_iinc #[.val (.ref a1), .val (.int (17 : Int32)), .val (.int p69), .val (.int (3 : Int32)), .val (.int (6 : Int32))] 38 rfl d23_35 rfl rfl ?_
  refine go_goto 9 (by decide) rfl d23_38 ?_
  refine go_iload 11 rfl d23_9 rfl ?_
  refine go_if 41 14 rfl (by decide) rfl d23_11 rfl (fun (hc11 : (6 : Int) < 0) => absurd hc11 (by decide)) (fun (hc11 : ¬ ((6 : Int) < 0)) => ?_)
  refine go_iloadN 15 rfl d23_14 rfl ?_
  refine go_aloadN 16 rfl d23_15 rfl rfl ?_
  refine go_iload 18 rfl d23_16 rfl ?_
  refine go_callF 23 rfl d23_18 (wd hw 98 rfl) (wd hw 99 rfl) (wd hw 100 rfl) (by decide) (wd hw 101 rfl) (wd hw 102 rfl) (wd hw 103 rfl) (wd hw 104 rfl) (wd hw 91 rfl) (wd hw 35 rfl) (wd hw 105 rfl) (by decide) (Mo.exa (i := 1) rfl) (mt34 Z a0 hw h0 zc r99 cl pv SS z0 z1 z2 z3 z4 z5 z6 z7 z8 z9 z10 z11 z12 z13 z14 z15 z16 z17 G hc a2 a1) (argsL := [(.int (6 : Int32))]) (rest := [(.int p69)]) rfl (ps := [.int]) (by decide +kernel) rfl rfl 1 rfl (by decide) (by decide) (by decide) (by decide) ?_
  rintro _ _ ⟨rfl, rfl⟩
  show Go B23_83 Z a0 h0 _ 0 0 (mem20 a2 z0 z1 z2 z3 z4 z5 z6 z7 z8 z9 z10 z11 z12 z13 z14 z15 z16 z17 a1) 23 #[.val (.ref a1), .val (.int (17 : Int32)), .val (.int p69), .val (.int (3 : Int32)), .val (.int (6 : Int32))] [(.int z6), (.int p69)]
  refine go_bipush (48 : Int32) 25 rfl d23_23 rfl ?_
  refine go_isub 26 rfl d23_25 rfl ?_
  refine go_iloadN 27 rfl d23_26 rfl ?_
  refine go_imul 28 rfl d23_27 rfl ?_
  refine go_iadd 29 rfl d23_28 rfl ?_
  refine go_istoreN #[.val (.ref a1), .val (.int (17 : Int32)), .val (.int (p69 + ((z6 - (48 : Int32)) * (3 : Int32)))), .val (.int (3 : Int32)), .val (.int (6 : Int32))] 30 rfl d23_29 rfl rfl ?_
  generalize es10 : (p69 + ((z6 - (48 : Int32)) * (3 : Int32))) = p70
  refine go_iloadN 31 rfl d23_30 rfl ?_
  refine go_callS 34 rfl d23_31 (wd hw 129 rfl) (wd hw 130 rfl) (wd hw 75 rfl) (wd hw 131 rfl) (by decide) (Met.frame (mem20 a2 z0 z1 z2 z3 z4 z5 z6 z7 z8 z9 z10 z11 z12 z13 z14 z15 z16 z17 a1) (mt84 Z a0 hw h0 zc r99 cl pv SS z0 z1 z2 z3 z4 z5 z6 z7 z8 z9 z10 z11 z12 z13 z14 z15 z16 z17 G hc)) (argsL := [(.int (3 : Int32))]) (rest := []) rfl (ps := [.int]) (by decide +kernel) rfl rfl 0 rfl (by decide) (by decide) (by decide) (by decide) ?_
  rintro _ _ ⟨_, ⟨rfl, rfl⟩, rfl⟩
  show Go B23_83 Z a0 h0 _ 0 0 (mem20 a2 z0 z1 z2 z3 z4 z5 z6 z7 z8 z9 z10 z11 z12 z13 z14 z15 z16 z17 a1) 34 #[.val (.ref a1), .val (.int (17 : Int32)), .val (.int p70), .val (.int (3 : Int32)), .val (.int (6 : Int32))] [(.int (1 : Int32))]
  refine go_istoreN #[.val (.ref a1), .val (.int (17 : Int32)), .val (.int p70), .val (.int (1 : Int32)), .val (.int (6 : Int32))] 35 rfl d23_34 rfl rfl ?_
  refine go_iinc #[.val (.ref a1), .val (.int (17 : Int32)), .val (.int p70), .val (.int (1 : Int32)), .val (.int (5 : Int32))] 38 rfl d23_35 rfl rfl ?_
  refine go_goto 9 (by decide) rfl d23_38 ?_
  refine go_iload 11 rfl d23_9 rfl ?_
  refine go_if 41 14 rfl (by decide) rfl d23_11 rfl (fun (hc11 : (5 : Int) < 0) => absurd hc11 (by decide)) (fun (hc11 : ¬ ((5 : Int) < 0)) => ?_)
  refine go_iloadN 15 rfl d23_14 rfl ?_
  refine go_aloadN 16 rfl d23_15 rfl rfl ?_
  refine go_iload 18 rfl d23_16 rfl ?_
  refine go_callF 23 rfl d23_18 (wd hw 98 rfl) (wd hw 99 rfl) (wd hw 100 rfl) (by decide) (wd hw 101 rfl) (wd hw 102 rfl) (wd hw 103 rfl) (wd hw 104 rfl) (wd hw 91 rfl) (wd hw 35 rfl) (wd hw 105 rfl) (by decide) (Mo.exa (i := 1) rfl) (mt30 Z a0 hw h0 zc r99 cl pv SS z0 z1 z2 z3 z4 z5 z6 z7 z8 z9 z10 z11 z12 z13 z14 z15 z16 z17 G hc a2 a1) (argsL := [(.int (5 : Int32))]) (rest := [(.int p70)]) rfl (ps := [.int]) (by decide +kernel) rfl rfl 1 rfl (by decide) (by decide) (by decide) (by decide) ?_
  rintro _ _ ⟨rfl, rfl⟩
  show Go B23_83 Z a0 h0 _ 0 0 (mem20 a2 z0 z1 z2 z3 z4 z5 z6 z7 z8 z9 z10 z11 z12 z13 z14 z15 z16 z17 a1) 23 #[.val (.ref a1), .val (.int (17 : Int32)), .val (.int p70), .val (.int (1 : Int32)), .val (.int (5 : Int32))] [(.int z5), (.int p70)]
  refine go_bipush (48 : Int32) 25 rfl d23_23 rfl ?_
  refine go_isub 26 rfl d23_25 rfl ?_
  refine go_iloadN 27 rfl d23_26 rfl ?_
  refine go_imul 28 rfl d23_27 rfl ?_
  refine go_iadd 29 rfl d23_28 rfl ?_
  refine go_istoreN #[.val (.ref a1), .val (.int (17 : Int32)), .val (.int (p70 + ((z5 - (48 : Int32)) * (1 : Int32)))), .val (.int (1 : Int32)), .val (.int (5 : Int32))] 30 rfl d23_29 rfl rfl ?_
  generalize es11 : (p70 + ((z5 - (48 : Int32)) * (1 : Int32))) = p71
  refine go_iloadN 31 rfl d23_30 rfl ?_
  refine go_callS 34 rfl d23_31 (wd hw 129 rfl) (wd hw 130 rfl) (wd hw 75 rfl) (wd hw 131 rfl) (by decide) (Met.frame (mem20 a2 z0 z1 z2 z3 z4 z5 z6 z7 z8 z9 z10 z11 z12 z13 z14 z15 z16 z17 a1) (mt85 Z a0 hw h0 zc r99 cl pv SS z0 z1 z2 z3 z4 z5 z6 z7 z8 z9 z10 z11 z12 z13 z14 z15 z16 z17 G hc)) (argsL := [(.int (1 : Int32))]) (rest := []) rfl (ps := [.int]) (by decide +kernel) rfl rfl 0 rfl (by decide) (by decide) (by decide) (by decide) ?_
  rintro _ _ ⟨_, ⟨rfl, rfl⟩, rfl⟩
  show Go B23_83 Z a0 h0 _ 0 0 (mem20 a2 z0 z1 z2 z3 z4 z5 z6 z7 z8 z9 z10 z11 z12 z13 z14 z15 z16 z17 a1) 34 #[.val (.ref a1), .val (.int (17 : Int32)), .val (.int p71), .val (.int (1 : Int32)), .val (.int (5 : Int32))] [(.int (3 : Int32))]
  refine go_istoreN #[.val (.ref a1), .val (.int (17 : Int32)), .val (.int p71), .val (.int (3 : Int32)), .val (.int (5 : Int32))] 35 rfl d23_34 rfl rfl ?_
  refine go_iinc #[.val (.ref a1), .val (.int (17 : Int32)), .val (.int p71), .val (.int (3 : Int32)), .val (.int (4 : Int32))] 38 rfl d23_35 rfl rfl ?_
  refine go_goto 9 (by decide) rfl d23_38 ?_
  refine go_iload 11 rfl d23_9 rfl ?_
  refine go_if 41 14 rfl (by decide) rfl d23_11 rfl (fun (hc11 : (4 : Int) < 0) => absurd hc11 (by decide)) (fun (hc11 : ¬ ((4 : Int) < 0)) => ?_)
  refine go_iloadN 15 rfl d23_14 rfl ?_
  refine go_aloadN 16 rfl d23_15 rfl rfl ?_
  refine go_iload 18 rfl d23_16 rfl ?_
  refine go_callF 23 rfl d23_18 (wd hw 98 rfl) (wd hw 99 rfl) (wd hw 100 rfl) (by decide) (wd hw 101 rfl) (wd hw 102 rfl) (wd hw 103 rfl) (wd hw 104 rfl) (wd hw 91 rfl) (wd hw 35 rfl) (wd hw 105 rfl) (by decide) (Mo.exa (i := 1) rfl) (mt26 Z a0 hw h0 zc r99 cl pv SS z0 z1 z2 z3 z4 z5 z6 z7 z8 z9 z10 z11 z12 z13 z14 z15 z16 z17 G hc a2 a1) (argsL := [(.int (4 : Int32))]) (rest := [(.int p71)]) rfl (ps := [.int]) (by decide +kernel) rfl rfl 1 rfl (by decide) (by decide) (by decide) (by decide) ?_
  rintro _ _ ⟨rfl, rfl⟩
  show Go B23_83 Z a0 h0 _ 0 0 (mem20 a2 z0 z1 z2 z3 z4 z5 z6 z7 z8 z9 z10 z11 z12 z13 z14 z15 z16 z17 a1) 23 #[.val (.ref a1), .val (.int (17 : Int32)), .val (.int p71), .val (.int (3 : Int32)), .val (.int (4 : Int32))] [(.int z4), (.int p71)]
  refine go_bipush (48 : Int32) 25 rfl d23_23 rfl ?_
  refine go_isub 26 rfl d23_25 rfl ?_
  refine go_iloadN 27 rfl d23_26 rfl ?_
  refine go_imul 28 rfl d23_27 rfl ?_
  refine go_iadd 29 rfl d23_28 rfl ?_
  refine go_istoreN #[.val (.ref a1), .val (.int (17 : Int32)), .val (.int (p71 + ((z4 - (48 : Int32)) * (3 : Int32)))), .val (.int (3 : Int32)), .val (.int (4 : Int32))] 30 rfl d23_29 rfl rfl ?_
  generalize es12 : (p71 + ((z4 - (48 : Int32)) * (3 : Int32))) = p72
  refine go_iloadN 31 rfl d23_30 rfl ?_
  refine go_callS 34 rfl d23_31 (wd hw 129 rfl) (wd hw 130 rfl) (wd hw 75 rfl) (wd hw 131 rfl) (by decide) (Met.frame (mem20 a2 z0 z1 z2 z3 z4 z5 z6 z7 z8 z9 z10 z11 z12 z13 z14 z15 z16 z17 a1) (mt84 Z a0 hw h0 zc r99 cl pv SS z0 z1 z2 z3 z4 z5 z6 z7 z8 z9 z10 z11 z12 z13 z14 z15 z16 z17 G hc)) (argsL := [(.int (3 : Int32))]) (rest := []) rfl (ps := [.int]) (by decide +kernel) rfl rfl 0 rfl (by decide) (by decide) (by decide) (by decide) ?_
  rintro _ _ ⟨_, ⟨rfl, rfl⟩, rfl⟩
  show Go B23_83 Z a0 h0 _ 0 0 (mem20 a2 z0 z1 z2 z3 z4 z5 z6 z7 z8 z9 z10 z11 z12 z13 z14 z15 z16 z17 a1) 34 #[.val (.ref a1), .val (.int (17 : Int32)), .val (.int p72), .val (.int (3 : Int32)), .val (.int (4 : Int32))] [(.int (1 : Int32))]
  refine go_istoreN #[.val (.ref a1), .val (.int (17 : Int32)), .val (.int p72), .val (.int (1 : Int32)), .val (.int (4 : Int32))] 35 rfl d23_34 rfl rfl ?_
  refine go_iinc #[.val (.ref a1), .val (.int (17 : Int32)), .val (.int p72), .val (.int (1 : Int32)), .val (.int (3 : Int32))] 38 rfl d23_35 rfl rfl ?_
  refine go_goto 9 (by decide) rfl d23_38 ?_
  refine go_iload 11 rfl d23_9 rfl ?_
  refine go_if 41 14 rfl (by decide) rfl d23_11 rfl (fun (hc11 : (3 : Int) < 0) => absurd hc11 (by decide)) (fun (hc11 : ¬ ((3 : Int) < 0)) => ?_)
  refine go_iloadN 15 rfl d23_14 rfl ?_
  refine go_aloadN 16 rfl d23_15 rfl rfl ?_
  refine go_iload 18 rfl d23_16 rfl ?_
  refine go_callF 23 rfl d23_18 (wd hw 98 rfl) (wd hw 99 rfl) (wd hw 100 rfl) (by decide) (wd hw 101 rfl) (wd hw 102 rfl) (wd hw 103 rfl) (wd hw 104 rfl) (wd hw 91 rfl) (wd hw 35 rfl) (wd hw 105 rfl) (by decide) (Mo.exa (i := 1) rfl) (mt22 Z a0 hw h0 zc r99 cl pv SS z0 z1 z2 z3 z4 z5 z6 z7 z8 z9 z10 z11 z12 z13 z14 z15 z16 z17 G hc a2 a1) (argsL := [(.int (3 : Int32))]) (rest := [(.int p72)]) rfl (ps := [.int]) (by decide +kernel) rfl rfl 1 rfl (by decide) (by decide) (by decide) (by decide) ?_
  rintro _ _ ⟨rfl, rfl⟩
  show Go B23_83 Z a0 h0 _ 0 0 (mem20 a2 z0 z1 z2 z3 z4 z5 z6 z7 z8 z9 z10 z11 z12 z13 z14 z15 z16 z17 a1) 23 #[.val (.ref a1), .val (.int (17 : Int32)), .val (.int p72), .val (.int (1 : Int32)), .val (.int (3 : Int32))] [(.int z3), (.int p72)]
  refine go_bipush (48 : Int32) 25 rfl d23_23 rfl ?_
  refine go_isub 26 rfl d23_25 rfl ?_
  refine go_iloadN 27 rfl d23_26 rfl ?_
  refine go_imul 28 rfl d23_27 rfl ?_
  refine go_iadd 29 rfl d23_28 rfl ?_
  refine go_istoreN #[.val (.ref a1), .val (.int (17 : Int32)), .val (.int (p72 + ((z3 - (48 : Int32)) * (1 : Int32)))), .val (.int (1 : Int32)), .val (.int (3 : Int32))] 30 rfl d23_29 rfl rfl ?_
  generalize es13 : (p72 + ((z3 - (48 : Int32)) * (1 : Int32))) = p73
  refine go_iloadN 31 rfl d23_30 rfl ?_
  refine go_callS 34 rfl d23_31 (wd hw 129 rfl) (wd hw 130 rfl) (wd hw 75 rfl) (wd hw 131 rfl) (by decide) (Met.frame (mem20 a2 z0 z1 z2 z3 z4 z5 z6 z7 z8 z9 z10 z11 z12 z13 z14 z15 z16 z17 a1) (mt85 Z a0 hw h0 zc r99 cl pv SS z0 z1 z2 z3 z4 z5 z6 z7 z8 z9 z10 z11 z12 z13 z14 z15 z16 z17 G hc)) (argsL := [(.int (1 : Int32))]) (rest := []) rfl (ps := [.int]) (by decide +kernel) rfl rfl 0 rfl (by decide) (by decide) (by decide) (by decide) ?_
  rintro _ _ ⟨_, ⟨rfl, rfl⟩, rfl⟩
  show Go B23_83 Z a0 h0 _ 0 0 (mem20 a2 z0 z1 z2 z3 z4 z5 z6 z7 z8 z9 z10 z11 z12 z13 z14 z15 z16 z17 a1) 34 #[.val (.ref a1), .val (.int (17 : Int32)), .val (.int p73), .val (.int (1 : Int32)), .val (.int (3 : Int32))] [(.int (3 : Int32))]
  refine go_istoreN #[.val (.ref a1), .val (.int (17 : Int32)), .val (.int p73), .val (.int (3 : Int32)), .val (.int (3 : Int32))] 35 rfl d23_34 rfl rfl ?_
  refine go_iinc #[.val (.ref a1), .val (.int (17 : Int32)), .val (.int p73), .val (.int (3 : Int32)), .val (.int (2 : Int32))] 38 rfl d23_35 rfl rfl ?_
  refine go_goto 9 (by decide) rfl d23_38 ?_
  refine go_iload 11 rfl d23_9 rfl ?_
  refine go_if 41 14 rfl (by decide) rfl d23_11 rfl (fun (hc11 : (2 : Int) < 0) => absurd hc11 (by decide)) (fun (hc11 : ¬ ((2 : Int) < 0)) => ?_)
  refine go_iloadN 15 rfl d23_14 rfl ?_
  refine go_aloadN 16 rfl d23_15 rfl rfl ?_
  refine go_iload 18 rfl d23_16 rfl ?_
  refine go_callF 23 rfl d23_18 (wd hw 98 rfl) (wd hw 99 rfl) (wd hw 100 rfl) (by decide) (wd hw 101 rfl) (wd hw 102 rfl) (wd hw 103 rfl) (wd hw 104 rfl) (wd hw 91 rfl) (wd hw 35 rfl) (wd hw 105 rfl) (by decide) (Mo.exa (i := 1) rfl) (mt18 Z a0 hw h0 zc r99 cl pv SS z0 z1 z2 z3 z4 z5 z6 z7 z8 z9 z10 z11 z12 z13 z14 z15 z16 z17 G hc a2 a1) (argsL := [(.int (2 : Int32))]) (rest := [(.int p73)]) rfl (ps := [.int]) (by decide +kernel) rfl rfl 1 rfl (by decide) (by decide) (by decide) (by decide) ?_
  rintro _ _ ⟨rfl, rfl⟩
  show Go B23_83 Z a0 h0 _ 0 0 (mem20 a2 z0 z1 z2 z3 z4 z5 z6 z7 z8 z9 z10 z11 z12 z13 z14 z15 z16 z17 a1) 23 #[.val (.ref a1), .val (.int (17 : Int32)), .val (.int p73), .val (.int (3 : Int32)), .val (.int (2 : Int32))] [(.int z2), (.int p73)]
  refine go_bipush (48 : Int32) 25 rfl d23_23 rfl ?_
  refine go_isub 26 rfl d23_25 rfl ?_
  refine go_iloadN 27 rfl d23_26 rfl ?_
  refine go_imul 28 rfl d23_27 rfl ?_
  refine go_iadd 29 rfl d23_28 rfl ?_
  refine go_istoreN #[.val (.ref a1), .val (.int (17 : Int32)), .val (.int (p73 + ((z2 - (48 : Int32)) * (3 : Int32)))), .val (.int (3 : Int32)), .val (.int (2 : Int32))] 30 rfl d23_29 rfl rfl ?_
  generalize es14 : (p73 + ((z2 - (48 : Int32)) * (3 : Int32))) = p74
  refine go_iloadN 31 rfl d23_30 rfl ?_
  refine go_callS 34 rfl d23_31 (wd hw 129 rfl) (wd hw 130 rfl) (wd hw 75 rfl) (wd hw 131 rfl) (by decide) (Met.frame (mem20 a2 z0 z1 z2 z3 z4 z5 z6 z7 z8 z9 z10 z11 z12 z13 z14 z15 z16 z17 a1) (mt84 Z a0 hw h0 zc r99 cl pv SS z0 z1 z2 z3 z4 z5 z6 z7 z8 z9 z10 z11 z12 z13 z14 z15 z16 z17 G hc)) (argsL := [(.int (3 : Int32))]) (rest := []) rfl (ps := [.int]) (by decide +kernel) rfl rfl 0 rfl (by decide) (by decide) (by decide) (by decide) ?_
  rintro _ _ ⟨_, ⟨rfl, rfl⟩, rfl⟩
  show Go B23_83 Z a0 h0 _ 0 0 (mem20 a2 z0 z1 z2 z3 z4 z5 z6 z7 z8 z9 z10 z11 z12 z13 z14 z15 z16 z17 a1) 34 #[.val (.ref a1), .val (.int (17 : Int32)), .val (.int p74), .val (.int (3 : Int32)), .val (.int (2 : Int32))] [(.int (1 : Int32))]
  refine go_istoreN #[.val (.ref a1), .val (.int (17 : Int32)), .val (.int p74), .val (.int (1 : Int32)), .val (.int (2 : Int32))] 35 rfl d23_34 rfl rfl ?_
  refine go_iinc #[.val (.ref a1), .val (.int (17 : Int32)), .val (.int p74), .val (.int (1 : Int32)), .val (.int (1 : Int32))] 38 rfl d23_35 rfl rfl ?_
  refine go_goto 9 (by decide) rfl d23_38 ?_
  refine go_iload 11 rfl d23_9 rfl ?_
  refine go_if 41 14 rfl (by decide) rfl d23_11 rfl (fun (hc11 : (1 : Int) < 0) => absurd hc11 (by decide)) (fun (hc11 : ¬ ((1 : Int) < 0)) => ?_)
  refine go_iloadN 15 rfl d23_14 rfl ?_
  refine go_aloadN 16 rfl d23_15 rfl rfl ?_
  refine go_iload 18 rfl d23_16 rfl ?_
  refine go_callF 23 rfl d23_18 (wd hw 98 rfl) (wd hw 99 rfl) (wd hw 100 rfl) (by decide) (wd hw 101 rfl) (wd hw 102 rfl) (wd hw 103 rfl) (wd hw 104 rfl) (wd hw 91 rfl) (wd hw 35 rfl) (wd hw 105 rfl) (by decide) (Mo.exa (i := 1) rfl) (mt13 Z a0 hw h0 zc r99 cl pv SS z0 z1 z2 z3 z4 z5 z6 z7 z8 z9 z10 z11 z12 z13 z14 z15 z16 z17 G hc a2 a1) (argsL := [(.int (1 : Int32))]) (rest := [(.int p74)]) rfl (ps := [.int]) (by decide +kernel) rfl rfl 1 rfl (by decide) (by decide) (by decide) (by decide) ?_
  rintro _ _ ⟨rfl, rfl⟩
  show Go B23_83 Z a0 h0 _ 0 0 (mem20 a2 z0 z1 z2 z3 z4 z5 z6 z7 z8 z9 z10 z11 z12 z13 z14 z15 z16 z17 a1) 23 #[.val (.ref a1), .val (.int (17 : Int32)), .val (.int p74), .val (.int (1 : Int32)), .val (.int (1 : Int32))] [(.int z1), (.int p74)]
  refine go_bipush (48 : Int32) 25 rfl d23_23 rfl ?_
  refine go_isub 26 rfl d23_25 rfl ?_
  refine go_iloadN 27 rfl d23_26 rfl ?_
  refine go_imul 28 rfl d23_27 rfl ?_
  refine go_iadd 29 rfl d23_28 rfl ?_
  refine go_istoreN #[.val (.ref a1), .val (.int (17 : Int32)), .val (.int (p74 + ((z1 - (48 : Int32)) * (1 : Int32)))), .val (.int (1 : Int32)), .val (.int (1 : Int32))] 30 rfl d23_29 rfl rfl ?_
  generalize es15 : (p74 + ((z1 - (48 : Int32)) * (1 : Int32))) = p75
  refine go_iloadN 31 rfl d23_30 rfl ?_
  refine go_callS 34 rfl d23_31 (wd hw 129 rfl) (wd hw 130 rfl) (wd hw 75 rfl) (wd hw 131 rfl) (by decide) (Met.frame (mem20 a2 z0 z1 z2 z3 z4 z5 z6 z7 z8 z9 z10 z11 z12 z13 z14 z15 z16 z17 a1) (mt85 Z a0 hw h0 zc r99 cl pv SS z0 z1 z2 z3 z4 z5 z6 z7 z8 z9 z10 z11 z12 z13 z14 z15 z16 z17 G hc)) (argsL := [(.int (1 : Int32))]) (rest := []) rfl (ps := [.int]) (by decide +kernel) rfl rfl 0 rfl (by decide) (by decide) (by decide) (by decide) ?_
  rintro _ _ ⟨_, ⟨rfl, rfl⟩, rfl⟩
  show Go B23_83 Z a0 h0 _ 0 0 (mem20 a2 z0 z1 z2 z3 z4 z5 z6 z7 z8 z9 z10 z11 z12 z13 z14 z15 z16 z17 a1) 34 #[.val (.ref a1), .val (.int (17 : Int32)), .val (.int p75), .val (.int (1 : Int32)), .val (.int (1 : Int32))] [(.int (3 : Int32))]
  refine go_istoreN #[.val (.ref a1), .val (.int (17 : Int32)), .val (.int p75), .val (.int (3 : Int32)), .val (.int (1 : Int32))] 35 rfl d23_34 rfl rfl ?_
  refine go_iinc #[.val (.ref a1), .val (.int (17 : Int32)), .val (.int p75), .val (.int (3 : Int32)), .val (.int (0 : Int32))] 38 rfl d23_35 rfl rfl ?_
  refine go_goto 9 (by decide) rfl d23_38 ?_
  refine go_iload 11 rfl d23_9 rfl ?_
  refine go_if 41 14 rfl (by decide) rfl d23_11 rfl (fun (hc11 : (0 : Int) < 0) => absurd hc11 (by decide)) (fun (hc11 : ¬ ((0 : Int) < 0)) => ?_)
  refine go_iloadN 15 rfl d23_14 rfl ?_
  refine go_aloadN 16 rfl d23_15 rfl rfl ?_
  refine go_iload 18 rfl d23_16 rfl ?_
  refine go_callF 23 rfl d23_18 (wd hw 98 rfl) (wd hw 99 rfl) (wd hw 100 rfl) (by decide) (wd hw 101 rfl) (wd hw 102 rfl) (wd hw 103 rfl) (wd hw 104 rfl) (wd hw 91 rfl) (wd hw 35 rfl) (wd hw 105 rfl) (by decide) (Mo.exa (i := 1) rfl) (mt86 Z a0 hw h0 zc r99 cl pv SS z0 z1 z2 z3 z4 z5 z6 z7 z8 z9 z10 z11 z12 z13 z14 z15 z16 z17 G hc a2 a1) (argsL := [(.int (0 : Int32))]) (rest := [(.int p75)]) rfl (ps := [.int]) (by decide +kernel) rfl rfl 1 rfl (by decide) (by decide) (by decide) (by decide) ?_
  rintro _ _ ⟨rfl, rfl⟩
  show Go B23_83 Z a0 h0 _ 0 0 (mem20 a2 z0 z1 z2 z3 z4 z5 z6 z7 z8 z9 z10 z11 z12 z13 z14 z15 z16 z17 a1) 23 #[.val (.ref a1), .val (.int (17 : Int32)), .val (.int p75), .val (.int (3 : Int32)), .val (.int (0 : Int32))] [(.int z0), (.int p75)]
  refine go_bipush (48 : Int32) 25 rfl d23_23 rfl ?_
  refine go_isub 26 rfl d23_25 rfl ?_
  refine go_iloadN 27 rfl d23_26 rfl ?_
  refine go_imul 28 rfl d23_27 rfl ?_
  refine go_iadd 29 rfl d23_28 rfl ?_
  refine go_istoreN #[.val (.ref a1), .val (.int (17 : Int32)), .val (.int (p75 + ((z0 - (48 : Int32)) * (3 : Int32)))), .val (.int (3 : Int32)), .val (.int (0 : Int32))] 30 rfl d23_29 rfl rfl ?_
  generalize es16 : (p75 + ((z0 - (48 : Int32)) * (3 : Int32))) = p76
  refine go_iloadN 31 rfl d23_30 rfl ?_
  refine go_callS 34 rfl d23_31 (wd hw 129 rfl) (wd hw 130 rfl) (wd hw 75 rfl) (wd hw 131 rfl) (by decide) (Met.frame (mem20 a2 z0 z1 z2 z3 z4 z5 z6 z7 z8 z9 z10 z11 z12 z13 z14 z15 z16 z17 a1) (mt84 Z a0 hw h0 zc r99 cl pv SS z0 z1 z2 z3 z4 z5 z6 z7 z8 z9 z10 z11 z12 z13 z14 z15 z16 z17 G hc)) (argsL := [(.int (3 : Int32))]) (rest := []) rfl (ps := [.int]) (by decide +kernel) rfl rfl 0 rfl (by decide) (by decide) (by decide) (by decide) ?_
  rintro _ _ ⟨_, ⟨rfl, rfl⟩, rfl⟩
  show Go B23_83 Z a0 h0 _ 0 0 (mem20 a2 z0 z1 z2 z3 z4 z5 z6 z7 z8 z9 z10 z11 z12 z13 z14 z15 z16 z17 a1) 34 #[.val (.ref a1), .val (.int (17 : Int32)), .val (.int p76), .val (.int (3 : Int32)), .val (.int (0 : Int32))] [(.int (1 : Int32))]
  refine go_istoreN #[.val (.ref a1), .val (.int (17 : Int32)), .val (.int p76), .val (.int (1 : Int32)), .val (.int (0 : Int32))] 35 rfl d23_34 rfl rfl ?_
  refine go_iinc #[.val (.ref a1), .val (.int (17 : Int32)), .val (.int p76), .val (.int (1 : Int32)), .val (.int (-1 : Int32))] 38 rfl d23_35 rfl rfl ?_
  refine go_goto 9 (by decide) rfl d23_38 ?_
  refine go_iload 11 rfl d23_9 rfl ?_
  refine go_if 41 14 rfl (by decide) rfl d23_11 rfl (fun (hc11 : (-1 : Int) < 0) => ?_) (fun (hc11 : ¬ ((-1 : Int) < 0)) => absurd hc11 (by decide))
  subst es16 es15 es14 es13 es12 es11 es10 es9 es8 es7 es6 es5 es4 es3 es2 es1 es0
  show Go B23_83 Z a0 h0 _ 0 0 (mem20 a2 z0 z1 z2 z3 z4 z5 z6 z7 z8 z9 z10 z11 z12 z13 z14 z15 z16 z17 a1) 41 #[.val (.ref a1), .val (.int (17 : Int32)), .val (.int ((((((((((((((((((0 : Int32) + ((z16 - (48 : Int32)) * (3 : Int32))) + ((z15 - (48 : Int32)) * (1 : Int32))) + ((z14 - (48 : Int32)) * (3 : Int32))) + ((z13 - (48 : Int32)) * (1 : Int32))) + ((z12 - (48 : Int32)) * (3 : Int32))) + ((z11 - (48 : Int32)) * (1 : Int32))) + ((z10 - (48 : Int32)) * (3 : Int32))) + ((z9 - (48 : Int32)) * (1 : Int32))) + ((z8 - (48 : Int32)) * (3 : Int32))) + ((z7 - (48 : Int32)) * (1 : Int32))) + ((z6 - (48 : Int32)) * (3 : Int32))) + ((z5 - (48 : Int32)) * (1 : Int32))) + ((z4 - (48 : Int32)) * (3 : Int32))) + ((z3 - (48 : Int32)) * (1 : Int32))) + ((z2 - (48 : Int32)) * (3 : Int32))) + ((z1 - (48 : Int32)) * (1 : Int32))) + ((z0 - (48 : Int32)) * (3 : Int32)))), .val (.int (1 : Int32)), .val (.int (-1 : Int32))] []
  refine go_iloadN 42 rfl d23_41 rfl ?_
  refine go_callS 45 rfl d23_42 (wd hw 132 rfl) (wd hw 133 rfl) (wd hw 75 rfl) (wd hw 134 rfl) (by decide) (Met.frame (mem20 a2 z0 z1 z2 z3 z4 z5 z6 z7 z8 z9 z10 z11 z12 z13 z14 z15 z16 z17 a1) (mt87 Z a0 hw h0 zc r99 cl pv SS z0 z1 z2 z3 z4 z5 z6 z7 z8 z9 z10 z11 z12 z13 z14 z15 z16 z17 G hc)) (argsL := [(.int ((((((((((((((((((0 : Int32) + ((z16 - (48 : Int32)) * (3 : Int32))) + ((z15 - (48 : Int32)) * (1 : Int32))) + ((z14 - (48 : Int32)) * (3 : Int32))) + ((z13 - (48 : Int32)) * (1 : Int32))) + ((z12 - (48 : Int32)) * (3 : Int32))) + ((z11 - (48 : Int32)) * (1 : Int32))) + ((z10 - (48 : Int32)) * (3 : Int32))) + ((z9 - (48 : Int32)) * (1 : Int32))) + ((z8 - (48 : Int32)) * (3 : Int32))) + ((z7 - (48 : Int32)) * (1 : Int32))) + ((z6 - (48 : Int32)) * (3 : Int32))) + ((z5 - (48 : Int32)) * (1 : Int32))) + ((z4 - (48 : Int32)) * (3 : Int32))) + ((z3 - (48 : Int32)) * (1 : Int32))) + ((z2 - (48 : Int32)) * (3 : Int32))) + ((z1 - (48 : Int32)) * (1 : Int32))) + ((z0 - (48 : Int32)) * (3 : Int32))))]) (rest := []) rfl (ps := [.int]) (by decide +kernel) rfl rfl 0 rfl (by decide) (by decide) (by decide) (by decide) ?_
  rintro _ _ ⟨_, ⟨rfl, rfl⟩, rfl⟩
  show Go B23_83 Z a0 h0 _ 0 0 (mem20 a2 z0 z1 z2 z3 z4 z5 z6 z7 z8 z9 z10 z11 z12 z13 z14 z15 z16 z17 a1) 45 #[.val (.ref a1), .val (.int (17 : Int32)), .val (.int ((((((((((((((((((0 : Int32) + ((z16 - (48 : Int32)) * (3 : Int32))) + ((z15 - (48 : Int32)) * (1 : Int32))) + ((z14 - (48 : Int32)) * (3 : Int32))) + ((z13 - (48 : Int32)) * (1 : Int32))) + ((z12 - (48 : Int32)) * (3 : Int32))) + ((z11 - (48 : Int32)) * (1 : Int32))) + ((z10 - (48 : Int32)) * (3 : Int32))) + ((z9 - (48 : Int32)) * (1 : Int32))) + ((z8 - (48 : Int32)) * (3 : Int32))) + ((z7 - (48 : Int32)) * (1 : Int32))) + ((z6 - (48 : Int32)) * (3 : Int32))) + ((z5 - (48 : Int32)) * (1 : Int32))) + ((z4 - (48 : Int32)) * (3 : Int32))) + ((z3 - (48 : Int32)) * (1 : Int32))) + ((z2 - (48 : Int32)) * (3 : Int32))) + ((z1 - (48 : Int32)) * (1 : Int32))) + ((z0 - (48 : Int32)) * (3 : Int32)))), .val (.int (1 : Int32)), .val (.int (-1 : Int32))] [(.int (((10 : Int32) - (((((((((((((((((((0 : Int32) + ((z16 - (48 : Int32)) * (3 : Int32))) + ((z15 - (48 : Int32)) * (1 : Int32))) + ((z14 - (48 : Int32)) * (3 : Int32))) + ((z13 - (48 : Int32)) * (1 : Int32))) + ((z12 - (48 : Int32)) * (3 : Int32))) + ((z11 - (48 : Int32)) * (1 : Int32))) + ((z10 - (48 : Int32)) * (3 : Int32))) + ((z9 - (48 : Int32)) * (1 : Int32))) + ((z8 - (48 : Int32)) * (3 : Int32))) + ((z7 - (48 : Int32)) * (1 : Int32))) + ((z6 - (48 : Int32)) * (3 : Int32))) + ((z5 - (48 : Int32)) * (1 : Int32))) + ((z4 - (48 : Int32)) * (3 : Int32))) + ((z3 - (48 : Int32)) * (1 : Int32))) + ((z2 - (48 : Int32)) * (3 : Int32))) + ((z1 - (48 : Int32)) * (1 : Int32))) + ((z0 - (48 : Int32)) * (3 : Int32))) % (10 : Int32))) % (10 : Int32)))]
  exact go_ireturn d23_45 rfl (Or.inl rfl) rfl rfl (by decide) (by decide) ⟨rfl, rfl⟩
theorem d12_0 : decode prog_10_method_4_code 0 = .ok (.aload_n 0, 1) := by decide +kernel
theorem d12_1 : decode prog_10_method_4_code 1 = .ok (.aload_n 1, 1) := by decide +kernel
theorem d12_2 : decode prog_10_method_4_code 2 = .ok (.invokestatic 45, 3) := by decide +kernel
theorem d12_5 : decode prog_10_method_4_code 5 = .ok (.aload_n 1, 1) := by decide +kernel
theorem d12_6 : decode prog_10_method_4_code 6 = .ok (.invokeinterface 13 1, 5) := by decide +kernel
theorem d12_11 : decode prog_10_method_4_code 11 = .ok (.aload_n 2, 1) := by decide +kernel
theorem d12_12 : decode prog_10_method_4_code 12 = .ok (.invokestatic 58, 3) := by decide +kernel
theorem d12_15 : decode prog_10_method_4_code 15 = .ok (.ifCond .ne 13, 3) := by decide +kernel
theorem d12_28 : decode prog_10_method_4_code 28 = .ok (.aload_n 1, 1) := by decide +kernel
theorem d12_29 : decode prog_10_method_4_code 29 = .ok (.invokeinterface 13 1, 5) := by decide +kernel
theorem d12_34 : decode prog_10_method_4_code 34 = .ok (.iconst 1, 1) := by decide +kernel
theorem d12_35 : decode prog_10_method_4_code 35 = .ok (.isub, 1) := by decide +kernel
theorem d12_36 : decode prog_10_method_4_code 36 = .ok (.istore_n 3, 1) := by decide +kernel
theorem d12_37 : decode prog_10_method_4_code 37 = .ok (.aload_n 1, 1) := by decide +kernel
theorem d12_38 : decode prog_10_method_4_code 38 = .ok (.iload_n 3, 1) := by decide +kernel
theorem d12_39 : decode prog_10_method_4_code 39 = .ok (.invokestatic 66, 3) := by decide +kernel
theorem d12_42 : decode prog_10_method_4_code 42 = .ok (.istore 4, 2) := by decide +kernel
theorem d12_44 : decode prog_10_method_4_code 44 = .ok (.aload_n 1, 1) := by decide +kernel
theorem d12_45 : decode prog_10_method_4_code 45 = .ok (.iload_n 3, 1) := by decide +kernel
theorem d12_46 : decode prog_10_method_4_code 46 = .ok (.invokeinterface 28 2, 5) := by decide +kernel
theorem d12_51 : decode prog_10_method_4_code 51 = .ok (.bipush 48, 2) := by decide +kernel
theorem d12_53 : decode prog_10_method_4_code 53 = .ok (.isub, 1) := by decide +kernel
theorem d12_54 : decode prog_10_method_4_code 54 = .ok (.istore 5, 2) := by decide +kernel
theorem d12_56 : decode prog_10_method_4_code 56 = .ok (.iload 5, 2) := by decide +kernel
theorem d12_58 : decode prog_10_method_4_code 58 = .ok (.iload 4, 2) := by decide +kernel
theorem d12_60 : decode prog_10_method_4_code 60 = .ok (.if_icmp .eq 25, 3) := by decide +kernel
theorem d12_85 : decode prog_10_method_4_code 85 = .ok (.return_, 1) := by decide +kernel
theorem pn12 : plainFor (⟨"com/example/cartonmark/cartonmark/gs1/Gs1Digits", "requireKey", "(Ljava/lang/String;Ljava/lang/CharSequence;[I)V"⟩ : MethodName) = true := by first | (apply plainFor_of_name; simp [plainName, overriddenIn]; done) | decide +kernel
def B12_1 : Bdy := (⟨"com/example/cartonmark/cartonmark/gs1/Gs1Digits", "requireKey", "(Ljava/lang/String;Ljava/lang/CharSequence;[I)V"⟩, prog_10_method_4_code, 6, none, ({ frames := 5, cells := 0, slots := 0, locals := 70 } : Room))
theorem mt1 (Z : State) (a0 : Array Value) (hw : ∀ d ∈ tables_1, d.before a0 Z = true) (h0 : Heap) (zc : Int32) (r99 : Value) (cl : Cell) (pv : Addr) (SS : Sts Z h0 zc r99 cl pv) (z0 z1 z2 z3 z4 z5 z6 z7 z8 z9 z10 z11 z12 z13 z14 z15 z16 z17 : Int32) (G : RG z0 z1 z2 z3 z4 z5 z6 z7 z8 z9 z10 z11 z12 z13 z14 z15 z16 z17) (hc : HC z0 z1 z2 z3 z4 z5 z6 z7 z8 z9 z10 z11 z12 z13 z14 z15 z16 z17) (a1 : Addr) (a2 : Addr) (b9 : Addr) :
    Met B12_1 Z a0 h0 #[(.ref b9), (.ref a1), (.ref pv)] (mem19 a1 a2 z0 z1 z2 z3 z4 z5 z6 z7 z8 z9 z10 z11 z12 z13 z14 z15 z16 z17) (Ret none (mem20 a2 z0 z1 z2 z3 z4 z5 z6 z7 z8 z9 z10 z11 z12 z13 z14 z15 z16 z17 a1)) := by
  refine Met.of pn12 (ls := #[.val (.ref b9), .val (.ref a1), .val (.ref pv), .unset, .unset, .unset]) (fun m => by first | (simp [entryFrame, mkF, argsToLocals, Value.category, B12_1]; done) | rfl) ?_
  show Go B12_1 Z a0 h0 _ 0 0 (mem19 a1 a2 z0 z1 z2 z3 z4 z5 z6 z7 z8 z9 z10 z11 z12 z13 z14 z15 z16 z17) 0 #[.val (.ref b9), .val (.ref a1), .val (.ref pv), .unset, .unset, .unset] []
  refine go_aloadN 1 rfl d12_0 rfl rfl ?_
  refine go_aloadN 2 rfl d12_1 rfl rfl ?_
  refine go_callS 5 rfl d12_2 (wd hw 77 rfl) (wd hw 78 rfl) (wd hw 75 rfl) (wd hw 79 rfl) (by decide) (mt2 Z a0 hw h0 zc r99 cl pv SS z0 z1 z2 z3 z4 z5 z6 z7 z8 z9 z10 z11 z12 z13 z14 z15 z16 z17 G hc a1 a2 b9) (argsL := [(.ref b9), (.ref a1)]) (rest := []) rfl (ps := [(.object "java/lang/String"), (.object "java/lang/CharSequence")]) (by decide +kernel) rfl rfl 0 rfl (by decide) (by decide) (by decide) (by decide) ?_
  rintro _ _ ⟨rfl, rfl⟩
  show Go B12_1 Z a0 h0 _ 0 0 (mem20 a2 z0 z1 z2 z3 z4 z5 z6 z7 z8 z9 z10 z11 z12 z13 z14 z15 z16 z17 a1) 5 #[.val (.ref b9), .val (.ref a1), .val (.ref pv), .unset, .unset, .unset] []
  refine go_aloadN 6 rfl d12_5 rfl rfl ?_
  refine go_callF 11 rfl d12_6 (wd hw 84 rfl) (wd hw 85 rfl) (wd hw 86 rfl) (by decide) (wd hw 87 rfl) (wd hw 88 rfl) (wd hw 89 rfl) (wd hw 90 rfl) (wd hw 91 rfl) (wd hw 35 rfl) (wd hw 92 rfl) (by decide) (Mo.exa (i := 1) rfl) (mt11 Z a0 hw h0 zc r99 cl pv SS z0 z1 z2 z3 z4 z5 z6 z7 z8 z9 z10 z11 z12 z13 z14 z15 z16 z17 G hc a2 a1) (argsL := []) (rest := []) rfl (ps := []) (by decide +kernel) rfl rfl 0 rfl (by decide) (by decide) (by decide) (by decide) ?_
  rintro _ _ ⟨rfl, rfl⟩
  show Go B12_1 Z a0 h0 _ 0 0 (mem20 a2 z0 z1 z2 z3 z4 z5 z6 z7 z8 z9 z10 z11 z12 z13 z14 z15 z16 z17 a1) 11 #[.val (.ref b9), .val (.ref a1), .val (.ref pv), .unset, .unset, .unset] [(.int (18 : Int32))]
  refine go_aloadN 12 rfl d12_11 rfl rfl ?_
  refine go_callS 15 rfl d12_12 (wd hw 123 rfl) (wd hw 124 rfl) (wd hw 75 rfl) (wd hw 125 rfl) (by decide) (Met.frame (mem20 a2 z0 z1 z2 z3 z4 z5 z6 z7 z8 z9 z10 z11 z12 z13 z14 z15 z16 z17 a1) (mt82 Z a0 hw h0 zc r99 cl pv SS z0 z1 z2 z3 z4 z5 z6 z7 z8 z9 z10 z11 z12 z13 z14 z15 z16 z17 G hc)) (argsL := [(.int (18 : Int32)), (.ref pv)]) (rest := []) rfl (ps := [.int, (.array .int)]) (by decide +kernel) rfl rfl 0 rfl (by decide) (by decide) (by decide) (by decide) ?_
  rintro _ _ ⟨_, ⟨rfl, rfl⟩, rfl⟩
  show Go B12_1 Z a0 h0 _ 0 0 (mem20 a2 z0 z1 z2 z3 z4 z5 z6 z7 z8 z9 z10 z11 z12 z13 z14 z15 z16 z17 a1) 15 #[.val (.ref b9), .val (.ref a1), .val (.ref pv), .unset, .unset, .unset] [(.int (1 : Int32))]
  refine go_if 28 18 rfl (by decide) rfl d12_15 rfl (fun (hc15 : (1 : Int) ≠ 0) => ?_) (fun (hc15 : ¬ ((1 : Int) ≠ 0)) => absurd hc15 (by decide))
  refine go_aloadN 29 rfl d12_28 rfl rfl ?_
  refine go_callF 34 rfl d12_29 (wd hw 84 rfl) (wd hw 85 rfl) (wd hw 86 rfl) (by decide) (wd hw 87 rfl) (wd hw 88 rfl) (wd hw 89 rfl) (wd hw 90 rfl) (wd hw 91 rfl) (wd hw 35 rfl) (wd hw 92 rfl) (by decide) (Mo.exa (i := 1) rfl) (mt11 Z a0 hw h0 zc r99 cl pv SS z0 z1 z2 z3 z4 z5 z6 z7 z8 z9 z10 z11 z12 z13 z14 z15 z16 z17 G hc a2 a1) (argsL := []) (rest := []) rfl (ps := []) (by decide +kernel) rfl rfl 0 rfl (by decide) (by decide) (by decide) (by decide) ?_
  rintro _ _ ⟨rfl, rfl⟩
  show Go B12_1 Z a0 h0 _ 0 0 (mem20 a2 z0 z1 z2 z3 z4 z5 z6 z7 z8 z9 z10 z11 z12 z13 z14 z15 z16 z17 a1) 34 #[.val (.ref b9), .val (.ref a1), .val (.ref pv), .unset, .unset, .unset] [(.int (18 : Int32))]
  refine go_iconst (1 : Int32) 35 rfl d12_34 rfl ?_
  refine go_isub 36 rfl d12_35 rfl ?_
  show Go B12_1 Z a0 h0 _ 0 0 (mem20 a2 z0 z1 z2 z3 z4 z5 z6 z7 z8 z9 z10 z11 z12 z13 z14 z15 z16 z17 a1) 36 #[.val (.ref b9), .val (.ref a1), .val (.ref pv), .unset, .unset, .unset] [(.int (17 : Int32))]
  refine go_istoreN #[.val (.ref b9), .val (.ref a1), .val (.ref pv), .val (.int (17 : Int32)), .unset, .unset] 37 rfl d12_36 rfl rfl ?_
  refine go_aloadN 38 rfl d12_37 rfl rfl ?_
  refine go_iloadN 39 rfl d12_38 rfl ?_
  refine go_callS 42 rfl d12_39 (wd hw 126 rfl) (wd hw 127 rfl) (wd hw 75 rfl) (wd hw 128 rfl) (by decide) (mt83 Z a0 hw h0 zc r99 cl pv SS z0 z1 z2 z3 z4 z5 z6 z7 z8 z9 z10 z11 z12 z13 z14 z15 z16 z17 G hc a2 a1) (argsL := [(.ref a1), (.int (17 : Int32))]) (rest := []) rfl (ps := [(.object "java/lang/CharSequence"), .int]) (by decide +kernel) rfl rfl 0 rfl (by decide) (by decide) (by decide) (by decide) ?_
  rintro _ _ ⟨rfl, rfl⟩
  show Go B12_1 Z a0 h0 _ 0 0 (mem20 a2 z0 z1 z2 z3 z4 z5 z6 z7 z8 z9 z10 z11 z12 z13 z14 z15 z16 z17 a1) 42 #[.val (.ref b9), .val (.ref a1), .val (.ref pv), .val (.int (17 : Int32)), .unset, .unset] [(.int (((10 : Int32) - (((((((((((((((((((0 : Int32) + ((z16 - (48 : Int32)) * (3 : Int32))) + ((z15 - (48 : Int32)) * (1 : Int32))) + ((z14 - (48 : Int32)) * (3 : Int32))) + ((z13 - (48 : Int32)) * (1 : Int32))) + ((z12 - (48 : Int32)) * (3 : Int32))) + ((z11 - (48 : Int32)) * (1 : Int32))) + ((z10 - (48 : Int32)) * (3 : Int32))) + ((z9 - (48 : Int32)) * (1 : Int32))) + ((z8 - (48 : Int32)) * (3 : Int32))) + ((z7 - (48 : Int32)) * (1 : Int32))) + ((z6 - (48 : Int32)) * (3 : Int32))) + ((z5 - (48 : Int32)) * (1 : Int32))) + ((z4 - (48 : Int32)) * (3 : Int32))) + ((z3 - (48 : Int32)) * (1 : Int32))) + ((z2 - (48 : Int32)) * (3 : Int32))) + ((z1 - (48 : Int32)) * (1 : Int32))) + ((z0 - (48 : Int32)) * (3 : Int32))) % (10 : Int32))) % (10 : Int32)))]
  refine go_istore #[.val (.ref b9), .val (.ref a1), .val (.ref pv), .val (.int (17 : Int32)), .val (.int (((10 : Int32) - (((((((((((((((((((0 : Int32) + ((z16 - (48 : Int32)) * (3 : Int32))) + ((z15 - (48 : Int32)) * (1 : Int32))) + ((z14 - (48 : Int32)) * (3 : Int32))) + ((z13 - (48 : Int32)) * (1 : Int32))) + ((z12 - (48 : Int32)) * (3 : Int32))) + ((z11 - (48 : Int32)) * (1 : Int32))) + ((z10 - (48 : Int32)) * (3 : Int32))) + ((z9 - (48 : Int32)) * (1 : Int32))) + ((z8 - (48 : Int32)) * (3 : Int32))) + ((z7 - (48 : Int32)) * (1 : Int32))) + ((z6 - (48 : Int32)) * (3 : Int32))) + ((z5 - (48 : Int32)) * (1 : Int32))) + ((z4 - (48 : Int32)) * (3 : Int32))) + ((z3 - (48 : Int32)) * (1 : Int32))) + ((z2 - (48 : Int32)) * (3 : Int32))) + ((z1 - (48 : Int32)) * (1 : Int32))) + ((z0 - (48 : Int32)) * (3 : Int32))) % (10 : Int32))) % (10 : Int32))), .unset] 44 rfl d12_42 rfl rfl ?_
  refine go_aloadN 45 rfl d12_44 rfl rfl ?_
  refine go_iloadN 46 rfl d12_45 rfl ?_
  refine go_callF 51 rfl d12_46 (wd hw 98 rfl) (wd hw 99 rfl) (wd hw 100 rfl) (by decide) (wd hw 101 rfl) (wd hw 102 rfl) (wd hw 103 rfl) (wd hw 104 rfl) (wd hw 91 rfl) (wd hw 35 rfl) (wd hw 105 rfl) (by decide) (Mo.exa (i := 1) rfl) (mt78 Z a0 hw h0 zc r99 cl pv SS z0 z1 z2 z3 z4 z5 z6 z7 z8 z9 z10 z11 z12 z13 z14 z15 z16 z17 G hc a2 a1) (argsL := [(.int (17 : Int32))]) (rest := []) rfl (ps := [.int]) (by decide +kernel) rfl rfl 0 rfl (by decide) (by decide) (by decide) (by decide) ?_
  rintro _ _ ⟨rfl, rfl⟩
  show Go B12_1 Z a0 h0 _ 0 0 (mem20 a2 z0 z1 z2 z3 z4 z5 z6 z7 z8 z9 z10 z11 z12 z13 z14 z15 z16 z17 a1) 51 #[.val (.ref b9), .val (.ref a1), .val (.ref pv), .val (.int (17 : Int32)), .val (.int (((10 : Int32) - (((((((((((((((((((0 : Int32) + ((z16 - (48 : Int32)) * (3 : Int32))) + ((z15 - (48 : Int32)) * (1 : Int32))) + ((z14 - (48 : Int32)) * (3 : Int32))) + ((z13 - (48 : Int32)) * (1 : Int32))) + ((z12 - (48 : Int32)) * (3 : Int32))) + ((z11 - (48 : Int32)) * (1 : Int32))) + ((z10 - (48 : Int32)) * (3 : Int32))) + ((z9 - (48 : Int32)) * (1 : Int32))) + ((z8 - (48 : Int32)) * (3 : Int32))) + ((z7 - (48 : Int32)) * (1 : Int32))) + ((z6 - (48 : Int32)) * (3 : Int32))) + ((z5 - (48 : Int32)) * (1 : Int32))) + ((z4 - (48 : Int32)) * (3 : Int32))) + ((z3 - (48 : Int32)) * (1 : Int32))) + ((z2 - (48 : Int32)) * (3 : Int32))) + ((z1 - (48 : Int32)) * (1 : Int32))) + ((z0 - (48 : Int32)) * (3 : Int32))) % (10 : Int32))) % (10 : Int32))), .unset] [(.int z17)]
  refine go_bipush (48 : Int32) 53 rfl d12_51 rfl ?_
  refine go_isub 54 rfl d12_53 rfl ?_
  refine go_istore #[.val (.ref b9), .val (.ref a1), .val (.ref pv), .val (.int (17 : Int32)), .val (.int (((10 : Int32) - (((((((((((((((((((0 : Int32) + ((z16 - (48 : Int32)) * (3 : Int32))) + ((z15 - (48 : Int32)) * (1 : Int32))) + ((z14 - (48 : Int32)) * (3 : Int32))) + ((z13 - (48 : Int32)) * (1 : Int32))) + ((z12 - (48 : Int32)) * (3 : Int32))) + ((z11 - (48 : Int32)) * (1 : Int32))) + ((z10 - (48 : Int32)) * (3 : Int32))) + ((z9 - (48 : Int32)) * (1 : Int32))) + ((z8 - (48 : Int32)) * (3 : Int32))) + ((z7 - (48 : Int32)) * (1 : Int32))) + ((z6 - (48 : Int32)) * (3 : Int32))) + ((z5 - (48 : Int32)) * (1 : Int32))) + ((z4 - (48 : Int32)) * (3 : Int32))) + ((z3 - (48 : Int32)) * (1 : Int32))) + ((z2 - (48 : Int32)) * (3 : Int32))) + ((z1 - (48 : Int32)) * (1 : Int32))) + ((z0 - (48 : Int32)) * (3 : Int32))) % (10 : Int32))) % (10 : Int32))), .val (.int (z17 - (48 : Int32)))] 56 rfl d12_54 rfl rfl ?_
  refine go_iload 58 rfl d12_56 rfl ?_
  refine go_iload 60 rfl d12_58 rfl ?_
  refine go_icmp 85 63 rfl (by decide) rfl d12_60 rfl (fun (hc60 : (z17 - (48 : Int32)).toInt = (((10 : Int32) - (((((((((((((((((((0 : Int32) + ((z16 - (48 : Int32)) * (3 : Int32))) + ((z15 - (48 : Int32)) * (1 : Int32))) + ((z14 - (48 : Int32)) * (3 : Int32))) + ((z13 - (48 : Int32)) * (1 : Int32))) + ((z12 - (48 : Int32)) * (3 : Int32))) + ((z11 - (48 : Int32)) * (1 : Int32))) + ((z10 - (48 : Int32)) * (3 : Int32))) + ((z9 - (48 : Int32)) * (1 : Int32))) + ((z8 - (48 : Int32)) * (3 : Int32))) + ((z7 - (48 : Int32)) * (1 : Int32))) + ((z6 - (48 : Int32)) * (3 : Int32))) + ((z5 - (48 : Int32)) * (1 : Int32))) + ((z4 - (48 : Int32)) * (3 : Int32))) + ((z3 - (48 : Int32)) * (1 : Int32))) + ((z2 - (48 : Int32)) * (3 : Int32))) + ((z1 - (48 : Int32)) * (1 : Int32))) + ((z0 - (48 : Int32)) * (3 : Int32))) % (10 : Int32))) % (10 : Int32)).toInt) => ?_) (fun (hc60 : ¬ ((z17 - (48 : Int32)).toInt = (((10 : Int32) - (((((((((((((((((((0 : Int32) + ((z16 - (48 : Int32)) * (3 : Int32))) + ((z15 - (48 : Int32)) * (1 : Int32))) + ((z14 - (48 : Int32)) * (3 : Int32))) + ((z13 - (48 : Int32)) * (1 : Int32))) + ((z12 - (48 : Int32)) * (3 : Int32))) + ((z11 - (48 : Int32)) * (1 : Int32))) + ((z10 - (48 : Int32)) * (3 : Int32))) + ((z9 - (48 : Int32)) * (1 : Int32))) + ((z8 - (48 : Int32)) * (3 : Int32))) + ((z7 - (48 : Int32)) * (1 : Int32))) + ((z6 - (48 : Int32)) * (3 : Int32))) + ((z5 - (48 : Int32)) * (1 : Int32))) + ((z4 - (48 : Int32)) * (3 : Int32))) + ((z3 - (48 : Int32)) * (1 : Int32))) + ((z2 - (48 : Int32)) * (3 : Int32))) + ((z1 - (48 : Int32)) * (1 : Int32))) + ((z0 - (48 : Int32)) * (3 : Int32))) % (10 : Int32))) % (10 : Int32)).toInt)) => absurd hc60 (by exact fun q => q (ckd z0 z1 z2 z3 z4 z5 z6 z7 z8 z9 z10 z11 z12 z13 z14 z15 z16 z17 G hc)))
  exact go_return d12_85 rfl rfl (by decide) (by decide) ⟨rfl, rfl⟩
theorem d11_0 : decode prog_13_method_5_code 0 = .ok (.ldc 14, 2) := by decide +kernel
theorem d11_2 : decode prog_13_method_5_code 2 = .ok (.aload_n 0, 1) := by decide +kernel
theorem d11_3 : decode prog_13_method_5_code 3 = .ok (.getstatic 16, 3) := by decide +kernel
theorem d11_6 : decode prog_13_method_5_code 6 = .ok (.invokestatic 20, 3) := by decide +kernel
theorem d11_9 : decode prog_13_method_5_code 9 = .ok (.lconst 0, 1) := by decide +kernel
theorem d11_10 : decode prog_13_method_5_code 10 = .ok (.lstore_n 1, 1) := by decide +kernel
theorem d11_11 : decode prog_13_method_5_code 11 = .ok (.iconst 0, 1) := by decide +kernel
theorem d11_12 : decode prog_13_method_5_code 12 = .ok (.istore_n 3, 1) := by decide +kernel
theorem d11_13 : decode prog_13_method_5_code 13 = .ok (.iload_n 3, 1) := by decide +kernel
theorem d11_14 : decode prog_13_method_5_code 14 = .ok (.bipush 18, 2) := by decide +kernel
theorem d11_16 : decode prog_13_method_5_code 16 = .ok (.if_icmp .ge 28, 3) := by decide +kernel
theorem d11_19 : decode prog_13_method_5_code 19 = .ok (.ldc2_w 26, 3) := by decide +kernel
theorem d11_22 : decode prog_13_method_5_code 22 = .ok (.lload_n 1, 1) := by decide +kernel
theorem d11_23 : decode prog_13_method_5_code 23 = .ok (.lmul, 1) := by decide +kernel
theorem d11_24 : decode prog_13_method_5_code 24 = .ok (.aload_n 0, 1) := by decide +kernel
theorem d11_25 : decode prog_13_method_5_code 25 = .ok (.iload_n 3, 1) := by decide +kernel
theorem d11_26 : decode prog_13_method_5_code 26 = .ok (.invokeinterface 28 2, 5) := by decide +kernel
theorem d11_31 : decode prog_13_method_5_code 31 = .ok (.i2l, 1) := by decide +kernel
theorem d11_32 : decode prog_13_method_5_code 32 = .ok (.ladd, 1) := by decide +kernel
theorem d11_33 : decode prog_13_method_5_code 33 = .ok (.ldc2_w 34, 3) := by decide +kernel
theorem d11_36 : decode prog_13_method_5_code 36 = .ok (.lsub, 1) := by decide +kernel
theorem d11_37 : decode prog_13_method_5_code 37 = .ok (.lstore_n 1, 1) := by decide +kernel
theorem d11_38 : decode prog_13_method_5_code 38 = .ok (.iinc 3 1, 3) := by decide +kernel
theorem d11_41 : decode prog_13_method_5_code 41 = .ok (.goto (-28), 3) := by decide +kernel
theorem d11_44 : decode prog_13_method_5_code 44 = .ok (.lload_n 1, 1) := by decide +kernel
theorem d11_45 : decode prog_13_method_5_code 45 = .ok (.lreturn, 1) := by decide +kernel
theorem pn11 : plainFor (⟨"com/example/cartonmark/cartonmark/gs1/Sscc", "numberOf", "(Ljava/lang/CharSequence;)J"⟩ : MethodName) = true := by first | (apply plainFor_of_name; simp [plainName, overriddenIn]; done) | decide +kernel
def B11_w : Bdy := (⟨"com/example/cartonmark/cartonmark/gs1/Sscc", "numberOf", "(Ljava/lang/CharSequence;)J"⟩, prog_13_method_5_code, 4, (some .long), ({ frames := 6, cells := 2, slots := 20, locals := 87 } : Room))
theorem mw_num (Z : State) (a0 : Array Value) (hw : ∀ d ∈ tables_1, d.before a0 Z = true) (h0 : Heap) (zc : Int32) (r99 : Value) (cl : Cell) (pv : Addr) (SS : Sts Z h0 zc r99 cl pv) (z0 z1 z2 z3 z4 z5 z6 z7 z8 z9 z10 z11 z12 z13 z14 z15 z16 z17 : Int32) (G : RG z0 z1 z2 z3 z4 z5 z6 z7 z8 z9 z10 z11 z12 z13 z14 z15 z16 z17) (hc : HC z0 z1 z2 z3 z4 z5 z6 z7 z8 z9 z10 z11 z12 z13 z14 z15 z16 z17) (N : Int) (hN : 0 ≤ N ∧ N < 1000000000000000000) (D : DG N z0 z1 z2 z3 z4 z5 z6 z7 z8 z9 z10 z11 z12 z13 z14 z15 z16 z17) (a1 a2 : Addr) :
    MetW (fun _ => True) B11_w Z a0 h0 #[(.ref a1)] (mem19 a1 a2 z0 z1 z2 z3 z4 z5 z6 z7 z8 z9 z10 z11 z12 z13 z14 z15 z16 z17) (fun v ds => ∃ q9 : Int64, q9.toInt = N ∧ Ret (some (.long q9)) (mem19 a1 a2 z0 z1 z2 z3 z4 z5 z6 z7 z8 z9 z10 z11 z12 z13 z14 z15 z16 z17) v ds) := by
  refine MetW.of pn11 (ls := #[.val (.ref a1), .unset, .unset, .unset]) (fun m => by first | (simp [entryFrame, mkF, argsToLocals, Value.category, B11_w]; done) | rfl) ?_
  show GoW (fun _ => True) B11_w Z a0 h0 _ 0 0 (mem19 a1 a2 z0 z1 z2 z3 z4 z5 z6 z7 z8 z9 z10 z11 z12 z13 z14 z15 z16 z17) 0 #[.val (.ref a1), .unset, .unset, .unset] []
  refine gw_ldcO (text := "SSCC") 2 rfl d11_0 (wd hw 68 rfl) (fun d hd => hw d (sat d hd)) 16 (by decide) (by decide) (by decide) (by decide) (fun b9 => ?_)
  show GoW (fun _ => True) B11_w Z a0 h0 _ 2 20 (mem19 a1 a2 z0 z1 z2 z3 z4 z5 z6 z7 z8 z9 z10 z11 z12 z13 z14 z15 z16 z17) 2 #[.val (.ref a1), .unset, .unset, .unset] [(.ref b9)]
  refine gw_aloadN 3 rfl d11_2 rfl rfl ?_
  refine gw_getS 6 rfl d11_3 (wd hw 71 rfl) SS.2.2.2.2.1 ?_
  refine gw_callS 9 rfl d11_6 (wd hw 73 rfl) (wd hw 74 rfl) (wd hw 75 rfl) (wd hw 76 rfl) (by decide) (mt1 Z a0 hw h0 zc r99 cl pv SS z0 z1 z2 z3 z4 z5 z6 z7 z8 z9 z10 z11 z12 z13 z14 z15 z16 z17 G hc a1 a2 b9) (argsL := [(.ref b9), (.ref a1), (.ref pv)]) (rest := []) rfl (ps := [(.object "java/lang/String"), (.object "java/lang/CharSequence"), (.array .int)]) (by decide +kernel) rfl rfl 0 rfl (by decide) (by decide) (by decide) (by decide) ?_
  rintro _ _ ⟨rfl, rfl⟩
  show GoW (fun _ => True) B11_w Z a0 h0 _ 2 20 (mem20 a2 z0 z1 z2 z3 z4 z5 z6 z7 z8 z9 z10 z11 z12 z13 z14 z15 z16 z17 a1) 9 #[.val (.ref a1), .unset, .unset, .unset] []
  refine gw_lconst (0 : Int64) 10 rfl d11_9 rfl ?_
  refine gw_lstoreN #[.val (.ref a1), .val (.long (0 : Int64)), .second, .unset] 11 rfl d11_10 rfl rfl ?_
  refine gw_iconst (0 : Int32) 12 rfl d11_11 rfl ?_
  refine gw_istoreN #[.val (.ref a1), .val (.long (0 : Int64)), .second, .val (.int (0 : Int32))] 13 rfl d11_12 rfl rfl ?_
  refine gw_iloadN 14 rfl d11_13 rfl ?_
  refine gw_bipush (18 : Int32) 16 rfl d11_14 rfl ?_
  refine gw_icmp 44 19 rfl (by decide) rfl d11_16 rfl (fun (hc16 : (18 : Int) ≤ (0 : Int)) => absurd hc16 (by decide)) (fun (hc16 : ¬ ((18 : Int) ≤ (0 : Int))) => ?_)
  refine gw_ldc2 (v := (10 : Int64)) 22 rfl d11_19 (wd hw 135 rfl) ?_
  refine gw_lloadN 23 rfl d11_22 rfl ?_
  refine gw_lmul 24 rfl d11_23 rfl ?_
  refine gw_aloadN 25 rfl d11_24 rfl rfl ?_
  refine gw_iloadN 26 rfl d11_25 rfl ?_
  refine gw_callF 31 rfl d11_26 (wd hw 136 rfl) (wd hw 99 rfl) (wd hw 100 rfl) (by decide) (wd hw 101 rfl) (wd hw 102 rfl) (wd hw 103 rfl) (wd hw 104 rfl) (wd hw 91 rfl) (wd hw 35 rfl) (wd hw 105 rfl) (by decide) (Mo.exa (i := 1) rfl) (mt86 Z a0 hw h0 zc r99 cl pv SS z0 z1 z2 z3 z4 z5 z6 z7 z8 z9 z10 z11 z12 z13 z14 z15 z16 z17 G hc a2 a1) (argsL := [(.int (0 : Int32))]) (rest := [(.long ((10 : Int64) * (0 : Int64)))]) rfl (ps := [.int]) (by decide +kernel) rfl rfl 2 rfl (by decide) (by decide) (by decide) (by decide) ?_
  rintro _ _ ⟨rfl, rfl⟩
  show GoW (fun _ => True) B11_w Z a0 h0 _ 2 20 (mem20 a2 z0 z1 z2 z3 z4 z5 z6 z7 z8 z9 z10 z11 z12 z13 z14 z15 z16 z17 a1) 31 #[.val (.ref a1), .val (.long (0 : Int64)), .second, .val (.int (0 : Int32))] [(.int z0), (.long ((10 : Int64) * (0 : Int64)))]
  refine gw_i2l 32 rfl d11_31 rfl ?_
  refine gw_ladd 33 rfl d11_32 rfl ?_
  refine gw_ldc2 (v := (48 : Int64)) 36 rfl d11_33 (wd hw 137 rfl) ?_
  refine gw_lsub 37 rfl d11_36 rfl ?_
  refine gw_lstoreN #[.val (.ref a1), .val (.long ((((10 : Int64) * (0 : Int64)) + (z0.toInt64)) - (48 : Int64))), .second, .val (.int (0 : Int32))] 38 rfl d11_37 rfl rfl ?_
  have k0 := numstep (0 : Int64) z0 N 100000000000000000 1000000000000000000 (by decide) (by decide) hN (Int.ediv_eq_zero_of_lt hN.1 hN.2).symm D.1
  generalize eq0 : ((((10 : Int64) * (0 : Int64)) + (z0.toInt64)) - (48 : Int64)) = q20 at k0 ⊢
  clear eq0
  refine gw_iinc #[.val (.ref a1), .val (.long q20), .second, .val (.int (1 : Int32))] 41 rfl d11_38 rfl rfl ?_
  refine gw_goto 13 (by decide) rfl d11_41 ?_
  refine gw_iloadN 14 rfl d11_13 rfl ?_
  refine gw_bipush (18 : Int32) 16 rfl d11_14 rfl ?_
  refine gw_icmp 44 19 rfl (by decide) rfl d11_16 rfl (fun (hc16 : (18 : Int) ≤ (1 : Int)) => absurd hc16 (by decide)) (fun (hc16 : ¬ ((18 : Int) ≤ (1 : Int))) => ?_)
  refine gw_ldc2 (v := (10 : Int64)) 22 rfl d11_19 (wd hw 135 rfl) ?_
  refine gw_lloadN 23 rfl d11_22 rfl ?_
  refine gw_lmul 24 rfl d11_23 rfl ?_
  refine gw_aloadN 25 rfl d11_24 rfl rfl ?_
  refine gw_iloadN 26 rfl d11_25 rfl ?_
  refine gw_callF 31 rfl d11_26 (wd hw 136 rfl) (wd hw 99 rfl) (wd hw 100 rfl) (by decide) (wd hw 101 rfl) (wd hw 102 rfl) (wd hw 103 rfl) (wd hw 104 rfl) (wd hw 91 rfl) (wd hw 35 rfl) (wd hw 105 rfl) (by decide) (Mo.exa (i := 1) rfl) (mt13 Z a0 hw h0 zc r99 cl pv SS z0 z1 z2 z3 z4 z5 z6 z7 z8 z9 z10 z11 z12 z13 z14 z15 z16 z17 G hc a2 a1) (argsL := [(.int (1 : Int32))]) (rest := [(.long ((10 : Int64) * q20))]) rfl (ps := [.int]) (by decide +kernel) rfl rfl 2 rfl (by decide) (by decide) (by decide) (by decide) ?_
  rintro _ _ ⟨rfl, rfl⟩
  show GoW (fun _ => True) B11_w Z a0 h0 _ 2 20 (mem20 a2 z0 z1 z2 z3 z4 z5 z6 z7 z8 z9 z10 z11 z12 z13 z14 z15 z16 z17 a1) 31 #[.val (.ref a1), .val (.long q20), .second, .val (.int (1 : Int32))] [(.int z1), (.long ((10 : Int64) * q20))]
  refine gw_i2l 32 rfl d11_31 rfl ?_
  refine gw_ladd 33 rfl d11_32 rfl ?_
  refine gw_ldc2 (v := (48 : Int64)) 36 rfl d11_33 (wd hw 137 rfl) ?_
  refine gw_lsub 37 rfl d11_36 rfl ?_
  refine gw_lstoreN #[.val (.ref a1), .val (.long ((((10 : Int64) * q20) + (z1.toInt64)) - (48 : Int64))), .second, .val (.int (1 : Int32))] 38 rfl d11_37 rfl rfl ?_
  have k1 := numstep q20 z1 N 10000000000000000 100000000000000000 (by decide) (by decide) hN k0 D.2.1
  generalize eq1 : ((((10 : Int64) * q20) + (z1.toInt64)) - (48 : Int64)) = q21 at k1 ⊢
  clear eq1
  refine gw_iinc #[.val (.ref a1), .val (.long q21), .second, .val (.int (2 : Int32))] 41 rfl d11_38 rfl rfl ?_
  refine gw_goto 13 (by decide) rfl d11_41 ?_
  refine gw_iloadN 14 rfl d11_13 rfl ?_
  refine gw_bipush (18 : Int32) 16 rfl d11_14 rfl ?_
  refine gw_icmp 44 19 rfl (by decide) rfl d11_16 rfl (fun (hc16 : (18 : Int) ≤ (2 : Int)) => absurd hc16 (by decide)) (fun (hc16 : ¬ ((18 : Int) ≤ (2 : Int))) => ?_)
  refine gw_ldc2 (v := (10 : Int64)) 22 rfl d11_19 (wd hw 135 rfl) ?_
  refine gw_lloadN 23 rfl d11_22 rfl ?_
  refine gw_lmul 24 rfl d11_23 rfl ?_
  refine gw_aloadN 25 rfl d11_24 rfl rfl ?_
  refine gw_iloadN 26 rfl d11_25 rfl ?_
  refine gw_callF 31 rfl d11_26 (wd hw 136 rfl) (wd hw 99 rfl) (wd hw 100 rfl) (by decide) (wd hw 101 rfl) (wd hw 102 rfl) (wd hw 103 rfl) (wd hw 104 rfl) (wd hw 91 rfl) (wd hw 35 rfl) (wd hw 105 rfl) (by decide) (Mo.exa (i := 1) rfl) (mt18 Z a0 hw h0 zc r99 cl pv SS z0 z1 z2 z3 z4 z5 z6 z7 z8 z9 z10 z11 z12 z13 z14 z15 z16 z17 G hc a2 a1) (argsL := [(.int (2 : Int32))]) (rest := [(.long ((10 : Int64) * q21))]) rfl (ps := [.int]) (by decide +kernel) rfl rfl 2 rfl (by decide) (by decide) (by decide) (by decide) ?_
  rintro _ _ ⟨rfl, rfl⟩
  show GoW (fun _ => True) B11_w Z a0 h0 _ 2 20 (mem20 a2 z0 z1 z2 z3 z4 z5 z6 z7 z8 z9 z10 z11 z12 z13 z14 z15 z16 z17 a1) 31 #[.val (.ref a1), .val (.long q21), .second, .val (.int (2 : Int32))] [(.int z2), (.long ((10 : Int64) * q21))]
  refine gw_i2l 32 rfl d11_31 rfl ?_
  refine gw_ladd 33 rfl d11_32 rfl ?_
  refine gw_ldc2 (v := (48 : Int64)) 36 rfl d11_33 (wd hw 137 rfl) ?_
  refine gw_lsub 37 rfl d11_36 rfl ?_
  refine gw_lstoreN #[.val (.ref a1), .val (.long ((((10 : Int64) * q21) + (z2.toInt64)) - (48 : Int64))), .second, .val (.int (2 : Int32))] 38 rfl d11_37 rfl rfl ?_
  have k2 := numstep q21 z2 N 1000000000000000 10000000000000000 (by decide) (by decide) hN k1 D.2.2.1
  generalize eq2 : ((((10 : Int64) * q21) + (z2.toInt64)) - (48 : Int64)) = q22 at k2 ⊢
  clear eq2
  refine gw_iinc #[.val (.ref a1), .val (.long q22), .second, .val (.int (3 : Int32))] 41 rfl d11_38 rfl rfl ?_
  refine gw_goto 13 (by decide) rfl d11_41 ?_
  refine gw_iloadN 14 rfl d11_13 rfl ?_
  refine gw_bipush (18 : Int32) 16 rfl d11_14 rfl ?_
  refine gw_icmp 44 19 rfl (by decide) rfl d11_16 rfl (fun (hc16 : (18 : Int) ≤ (3 : Int)) => absurd hc16 (by decide)) (fun (hc16 : ¬ ((18 : Int) ≤ (3 : Int))) => ?_)
  refine gw_ldc2 (v := (10 : Int64)) 22 rfl d11_19 (wd hw 135 rfl) ?_
  refine gw_lloadN 23 rfl d11_22 rfl ?_
  refine gw_lmul 24 rfl d11_23 rfl ?_
  refine gw_aloadN 25 rfl d11_24 rfl rfl ?_
  refine gw_iloadN 26 rfl d11_25 rfl ?_
  refine gw_callF 31 rfl d11_26 (wd hw 136 rfl) (wd hw 99 rfl) (wd hw 100 rfl) (by decide) (wd hw 101 rfl) (wd hw 102 rfl) (wd hw 103 rfl) (wd hw 104 rfl) (wd hw 91 rfl) (wd hw 35 rfl) (wd hw 105 rfl) (by decide) (Mo.exa (i := 1) rfl) (mt22 Z a0 hw h0 zc r99 cl pv SS z0 z1 z2 z3 z4 z5 z6 z7 z8 z9 z10 z11 z12 z13 z14 z15 z16 z17 G hc a2 a1) (argsL := [(.int (3 : Int32))]) (rest := [(.long ((10 : Int64) * q22))]) rfl (ps := [.int]) (by decide +kernel) rfl rfl 2 rfl (by decide) (by decide) (by decide) (by decide) ?_
  rintro _ _ ⟨rfl, rfl⟩
  show GoW (fun _ => True) B11_w Z a0 h0 _ 2 20 (mem20 a2 z0 z1 z2 z3 z4 z5 z6 z7 z8 z9 z10 z11 z12 z13 z14 z15 z16 z17 a1) 31 #[.val (.ref a1), .val (.long q22), .second, .val (.int (3 : Int32))] [(.int z3), (.long ((10 : Int64) * q22))]
  refine gw_i2l 32 rfl d11_31 rfl ?_
  refine gw_ladd 33 rfl d11_32 rfl ?_
  refine gw_ldc2 (v := (48 : Int64)) 36 rfl d11_33 (wd hw 137 rfl) ?_
  refine gw_lsub 37 rfl d11_36 rfl ?_
  refine gw_lstoreN #[.val (.ref a1), .val (.long ((((10 : Int64) * q22) + (z3.toInt64)) - (48 : Int64))), .second, .val (.int (3 : Int32))] 38 rfl d11_37 rfl rfl ?_
  have k3 := numstep q22 z3 N 100000000000000 1000000000000000 (by decide) (by decide) hN k2 D.2.2.2.1
  generalize eq3 : ((((10 : Int64) * q22) + (z3.toInt64)) - (48 : Int64)) = q23 at k3 ⊢
  clear eq3
  refine gw_iinc #[.val (.ref a1), .val (.long q23), .second, .val (.int (4 : Int32))] 41 rfl d11_38 rfl rfl ?_
  refine gw_goto 13 (by decide) rfl d11_41 ?_
  refine gw_iloadN 14 rfl d11_13 rfl ?_
  refine gw_bipush (18 : Int32) 16 rfl d11_14 rfl ?_
  refine gw_icmp 44 19 rfl (by decide) rfl d11_16 rfl (fun (hc16 : (18 : Int) ≤ (4 : Int)) => absurd hc16 (by decide)) (fun (hc16 : ¬ ((18 : Int) ≤ (4 : Int))) => ?_)
  refine gw_ldc2 (v := (10 : Int64)) 22 rfl d11_19 (wd hw 135 rfl) ?_
  refine gw_lloadN 23 rfl d11_22 rfl ?_
  refine gw_lmul 24 rfl d11_23 rfl ?_
  refine gw_aloadN 25 rfl d11_24 rfl rfl ?_
  refine gw_iloadN 26 rfl d11_25 rfl ?_
  refine gw_callF 31 rfl d11_26 (wd hw 136 rfl) (wd hw 99 rfl) (wd hw 100 rfl) (by decide) (wd hw 101 rfl) (wd hw 102 rfl) (wd hw 103 rfl) (wd hw 104 rfl) (wd hw 91 rfl) (wd hw 35 rfl) (wd hw 105 rfl) (by decide) (Mo.exa (i := 1) rfl) (mt26 Z a0 hw h0 zc r99 cl pv SS z0 z1 z2 z3 z4 z5 z6 z7 z8 z9 z10 z11 z12 z13 z14 z15 z16 z17 G hc a2 a1) (argsL := [(.int (4 : Int32))]) (rest := [(.long ((10 : Int64) * q23))]) rfl (ps := [.int]) (by decide +kernel) rfl rfl 2 rfl (by decide) (by decide) (by decide) (by decide) ?_
  rintro _ _ ⟨rfl, rfl⟩
  show GoW (fun _ => True) B11_w Z a0 h0 _ 2 20 (mem20 a2 z0 z1 z2 z3 z4 z5 z6 z7 z8 z9 z10 z11 z12 z13 z14 z15 z16 z17 a1) 31 #[.val (.ref a1), .val (.long q23), .second, .val (.int (4 : Int32))] [(.int z4), (.long ((10 : Int64) * q23))]
  refine gw_i2l 32 rfl d11_31 rfl ?_
  refine gw_ladd 33 rfl d11_32 rfl ?_
  refine gw_ldc2 (v := (48 : Int64)) 36 rfl d11_33 (wd hw 137 rfl) ?_
  refine gw_lsub 37 rfl d11_36 rfl ?_
  refine gw_lstoreN #[.val (.ref a1), .val (.long ((((10 : Int64) * q23) + (z4.toInt64)) - (48 : Int64))), .second, .val (.int (4 : Int32))] 38 rfl d11_37 rfl rfl ?_
  have k4 := numstep q23 z4 N 10000000000000 100000000000000 (by decide) (by decide) hN k3 D.2.2.2.2.1
  generalize eq4 : ((((10 : Int64) * q23) + (z4.toInt64)) - (48 : Int64)) = q24 at k4 ⊢
  clear eq4
  refine gw_iinc #[.val (.ref a1), .val (.long q24), .second, .val (.int (5 : Int32))] 41 rfl d11_38 rfl rfl ?_
  refine gw_goto 13 (by decide) rfl d11_41 ?_
  refine gw_iloadN 14 rfl d11_13 rfl ?_
  refine gw_bipush (18 : Int32) 16 rfl d11_14 rfl ?_
  refine gw_icmp 44 19 rfl (by decide) rfl d11_16 rfl (fun (hc16 : (18 : Int) ≤ (5 : Int)) => absurd hc16 (by decide)) (fun (hc16 : ¬ ((18 : Int) ≤ (5 : Int))) => ?_)
  refine gw_ldc2 (v := (10 : Int64)) 22 rfl d11_19 (wd hw 135 rfl) ?_
  refine gw_lloadN 23 rfl d11_22 rfl ?_
  refine gw_lmul 24 rfl d11_23 rfl ?_
  refine gw_aloadN 25 rfl d11_24 rfl rfl ?_
  refine gw_iloadN 26 rfl d11_25 rfl ?_
  refine gw_callF 31 rfl d11_26 (wd hw 136 rfl) (wd hw 99 rfl) (wd hw 100 rfl) (by decide) (wd hw 101 rfl) (wd hw 102 rfl) (wd hw 103 rfl) (wd hw 104 rfl) (wd hw 91 rfl) (wd hw 35 rfl) (wd hw 105 rfl) (by decide) (Mo.exa (i := 1) rfl) (mt30 Z a0 hw h0 zc r99 cl pv SS z0 z1 z2 z3 z4 z5 z6 z7 z8 z9 z10 z11 z12 z13 z14 z15 z16 z17 G hc a2 a1) (argsL := [(.int (5 : Int32))]) (rest := [(.long ((10 : Int64) * q24))]) rfl (ps := [.int]) (by decide +kernel) rfl rfl 2 rfl (by decide) (by decide) (by decide) (by decide) ?_
  rintro _ _ ⟨rfl, rfl⟩
  show GoW (fun _ => True) B11_w Z a0 h0 _ 2 20 (mem20 a2 z0 z1 z2 z3 z4 z5 z6 z7 z8 z9 z10 z11 z12 z13 z14 z15 z16 z17 a1) 31 #[.val (.ref a1), .val (.long q24), .second, .val (.int (5 : Int32))] [(.int z5), (.long ((10 : Int64) * q24))]
  refine gw_i2l 32 rfl d11_31 rfl ?_
  refine gw_ladd 33 rfl d11_32 rfl ?_
  refine gw_ldc2 (v := (48 : Int64)) 36 rfl d11_33 (wd hw 137 rfl) ?_
  refine gw_lsub 37 rfl d11_36 rfl ?_
  refine gw_lstoreN #[.val (.ref a1), .val (.long ((((10 : Int64) * q24) + (z5.toInt64)) - (48 : Int64))), .second, .val (.int (5 : Int32))] 38 rfl d11_37 rfl rfl ?_
  have k5 := numstep q24 z5 N 1000000000000 10000000000000 (by decide) (by decide) hN k4 D.2.2.2.2.2.1
  generalize eq5 : ((((10 : Int64) * q24) + (z5.toInt64)) - (48 : Int64)) = q25 at k5 ⊢
  clear eq5
  refine gw_iinc #[.val (.ref a1), .val (.long q25), .second, .val (.int (6 : Int32))] 41 rfl d11_38 rfl rfl ?_
  refine gw_goto 13 (by decide) rfl d11_41 ?_
  refine gw_iloadN 14 rfl d11_13 rfl ?_
  refine gw_bipush (18 : Int32) 16 rfl d11_14 rfl ?_
  refine gw_icmp 44 19 rfl (by decide) rfl d11_16 rfl (fun (hc16 : (18 : Int) ≤ (6 : Int)) => absurd hc16 (by decide)) (fun (hc16 : ¬ ((18 : Int) ≤ (6 : Int))) => ?_)
  refine gw_ldc2 (v := (10 : Int64)) 22 rfl d11_19 (wd hw 135 rfl) ?_
  refine gw_lloadN 23 rfl d11_22 rfl ?_
  refine gw_lmul 24 rfl d11_23 rfl ?_
  refine gw_aloadN 25 rfl d11_24 rfl rfl ?_
  refine gw_iloadN 26 rfl d11_25 rfl ?_
  refine gw_callF 31 rfl d11_26 (wd hw 136 rfl) (wd hw 99 rfl) (wd hw 100 rfl) (by decide) (wd hw 101 rfl) (wd hw 102 rfl) (wd hw 103 rfl) (wd hw 104 rfl) (wd hw 91 rfl) (wd hw 35 rfl) (wd hw 105 rfl) (by decide) (Mo.exa (i := 1) rfl) (mt34 Z a0 hw h0 zc r99 cl pv SS z0 z1 z2 z3 z4 z5 z6 z7 z8 z9 z10 z11 z12 z13 z14 z15 z16 z17 G hc a2 a1) (argsL := [(.int (6 : Int32))]) (rest := [(.long ((10 : Int64) * q25))]) rfl (ps := [.int]) (by decide +kernel) rfl rfl 2 rfl (by decide) (by decide) (by decide) (by decide) ?_
  rintro _ _ ⟨rfl, rfl⟩
  show GoW (fun _ => True) B11_w Z a0 h0 _ 2 20 (mem20 a2 z0 z1 z2 z3 z4 z5 z6 z7 z8 z9 z10 z11 z12 z13 z14 z15 z16 z17 a1) 31 #[.val (.ref a1), .val (.long q25), .second, .val (.int (6 : Int32))] [(.int z6), (.long ((10 : Int64) * q25))]
  refine gw_i2l 32 rfl d11_31 rfl ?_
  refine gw_ladd 33 rfl d11_32 rfl ?_
  refine gw_ldc2 (v := (48 : Int64)) 36 rfl d11_33 (wd hw 137 rfl) ?_
  refine gw_lsub 37 rfl d11_36 rfl ?_
  refine gw_lstoreN #[.val (.ref a1), .val (.long ((((10 : Int64) * q25) + (z6.toInt64)) - (48 : Int64))), .second, .val (.int (6 : Int32))] 38 rfl d11_37 rfl rfl ?_
  have k6 := numstep q25 z6 N 100000000000 1000000000000 (by decide) (by decide) hN k5 D.2.2.2.2.2.2.1
  generalize eq6 : ((((10 : Int64) * q25) + (z6.toInt64)) - (48 : Int64)) = q26 at k6 ⊢
  clear eq6
  refine gw_iinc #[.val (.ref a1), .val (.long q26), .second, .val (.int (7 : Int32))] 41 rfl d11_38 rfl rfl ?_
  refine gw_goto 13 (by decide) rfl d11_41 ?_
  refine gw_iloadN 14 rfl d11_13 rfl ?_
  refine gw_bipush (18 : Int32) 16 rfl d11_14 rfl ?_
  refine gw_icmp 44 19 rfl (by decide) rfl d11_16 rfl (fun (hc16 : (18 : Int) ≤ (7 : Int)) => absurd hc16 (by decide)) (fun (hc16 : ¬ ((18 : Int) ≤ (7 : Int))) => ?_)
  refine gw_ldc2 (v := (10 : Int64)) 22 rfl d11_19 (wd hw 135 rfl) ?_
  refine gw_lloadN 23 rfl d11_22 rfl ?_
  refine gw_lmul 24 rfl d11_23 rfl ?_
  refine gw_aloadN 25 rfl d11_24 rfl rfl ?_
  refine gw_iloadN 26 rfl d11_25 rfl ?_
  refine gw_callF 31 rfl d11_26 (wd hw 136 rfl) (wd hw 99 rfl) (wd hw 100 rfl) (by decide) (wd hw 101 rfl) (wd hw 102 rfl) (wd hw 103 rfl) (wd hw 104 rfl) (wd hw 91 rfl) (wd hw 35 rfl) (wd hw 105 rfl) (by decide) (Mo.exa (i := 1) rfl) (mt38 Z a0 hw h0 zc r99 cl pv SS z0 z1 z2 z3 z4 z5 z6 z7 z8 z9 z10 z11 z12 z13 z14 z15 z16 z17 G hc a2 a1) (argsL := [(.int (7 : Int32))]) (rest := [(.long ((10 : Int64) * q26))]) rfl (ps := [.int]) (by decide +kernel) rfl rfl 2 rfl (by decide) (by decide) (by decide) (by decide) ?_
  rintro _ _ ⟨rfl, rfl⟩
  show GoW (fun _ => True) B11_w Z a0 h0 _ 2 20 (mem20 a2 z0 z1 z2 z3 z4 z5 z6 z7 z8 z9 z10 z11 z12 z13 z14 z15 z16 z17 a1) 31 #[.val (.ref a1), .val (.long q26), .second, .val (.int (7 : Int32))] [(.int z7), (.long ((10 : Int64) * q26))]
  refine gw_i2l 32 rfl d11_31 rfl ?_
  refine gw_ladd 33 rfl d11_32 rfl ?_
  refine gw_ldc2 (v := (48 : Int64)) 36 rfl d11_33 (wd hw 137 rfl) ?_
  refine gw_lsub 37 rfl d11_36 rfl ?_
  refine gw_lstoreN #[.val (.ref a1), .val (.long ((((10 : Int64) * q26) + (z7.toInt64)) - (48 : Int64))), .second, .val (.int (7 : Int32))] 38 rfl d11_37 rfl rfl ?_
  have k7 := numstep q26 z7 N 10000000000 100000000000 (by decide) (by decide) hN k6 D.2.2.2.2.2.2.2.1
  generalize eq7 : ((((10 : Int64) * q26) + (z7.toInt64)) - (48 : Int64)) = q27 at k7 ⊢
  clear eq7
  refine gw_iinc #[.val (.ref a1), .val (.long q27), .second, .val (.int (8 : Int32))] 41 rfl d11_38 rfl rfl ?_
  refine gw_goto 13 (by decide) rfl d11_41 ?_
  refine gw_iloadN 14 rfl d11_13 rfl ?_
  refine gw_bipush (18 : Int32) 16 rfl d11_14 rfl ?_
  refine gw_icmp 44 19 rfl (by decide) rfl d11_16 rfl (fun (hc16 : (18 : Int) ≤ (8 : Int)) => absurd hc16 (by decide)) (fun (hc16 : ¬ ((18 : Int) ≤ (8 : Int))) => ?_)
  refine gw_ldc2 (v := (10 : Int64)) 22 rfl d11_19 (wd hw 135 rfl) ?_
  refine gw_lloadN 23 rfl d11_22 rfl ?_
  refine gw_lmul 24 rfl d11_23 rfl ?_
  refine gw_aloadN 25 rfl d11_24 rfl rfl ?_
  refine gw_iloadN 26 rfl d11_25 rfl ?_
  refine gw_callF 31 rfl d11_26 (wd hw 136 rfl) (wd hw 99 rfl) (wd hw 100 rfl) (by decide) (wd hw 101 rfl) (wd hw 102 rfl) (wd hw 103 rfl) (wd hw 104 rfl) (wd hw 91 rfl) (wd hw 35 rfl) (wd hw 105 rfl) (by decide) (Mo.exa (i := 1) rfl) (mt42 Z a0 hw h0 zc r99 cl pv SS z0 z1 z2 z3 z4 z5 z6 z7 z8 z9 z10 z11 z12 z13 z14 z15 z16 z17 G hc a2 a1) (argsL := [(.int (8 : Int32))]) (rest := [(.long ((10 : Int64) * q27))]) rfl (ps := [.int]) (by decide +kernel) rfl rfl 2 rfl (by decide) (by decide) (by decide) (by decide) ?_
  rintro _ _ ⟨rfl, rfl⟩
  show GoW (fun _ => True) B11_w Z a0 h0 _ 2 20 (mem20 a2 z0 z1 z2 z3 z4 z5 z6 z7 z8 z9 z10 z11 z12 z13 z14 z15 z16 z17 a1) 31 #[.val (.ref a1), .val (.long q27), .second, .val (.int (8 : Int32))] [(.int z8), (.long ((10 : Int64) * q27))]
  refine gw_i2l 32 rfl d11_31 rfl ?_
  refine gw_ladd 33 rfl d11_32 rfl ?_
  refine gw_ldc2 (v := (48 : Int64)) 36 rfl d11_33 (wd hw 137 rfl) ?_
  refine gw_lsub 37 rfl d11_36 rfl ?_
  refine gw_lstoreN #[.val (.ref a1), .val (.long ((((10 : Int64) * q27) + (z8.toInt64)) - (48 : Int64))), .second, .val (.int (8 : Int32))] 38 rfl d11_37 rfl rfl ?_
  have k8 := numstep q27 z8 N 1000000000 10000000000 (by decide) (by decide) hN k7 D.2.2.2.2.2.2.2.2.1
  generalize eq8 : ((((10 : Int64) * q27) + (z8.toInt64)) - (48 : Int64)) = q28 at k8 ⊢
  clear eq8
  refine gw_iinc #[.val (.ref a1), .val (.long q28), .second, .val (.int (9 : Int32))] 41 rfl d11_38 rfl rfl ?_
  refine gw_goto 13 (by decide) rfl d11_41 ?_
  refine gw_iloadN 14 rfl d11_13 rfl ?_
  refine gw_bipush (18 : Int32) 16 rfl d11_14 rfl ?_
  refine gw_icmp 44 19 rfl (by decide) rfl d11_16 rfl (fun (hc16 : (18 : Int) ≤ (9 : Int)) => absurd hc16 (by decide)) (fun (hc16 : ¬ ((18 : Int) ≤ (9 : Int))) => ?_)
  refine gw_ldc2 (v := (10 : Int64)) 22 rfl d11_19 (wd hw 135 rfl) ?_
  refine gw_lloadN 23 rfl d11_22 rfl ?_
  refine gw_lmul 24 rfl d11_23 rfl ?_
  refine gw_aloadN 25 rfl d11_24 rfl rfl ?_
  refine gw_iloadN 26 rfl d11_25 rfl ?_
  refine gw_callF 31 rfl d11_26 (wd hw 136 rfl) (wd hw 99 rfl) (wd hw 100 rfl) (by decide) (wd hw 101 rfl) (wd hw 102 rfl) (wd hw 103 rfl) (wd hw 104 rfl) (wd hw 91 rfl) (wd hw 35 rfl) (wd hw 105 rfl) (by decide) (Mo.exa (i := 1) rfl) (mt46 Z a0 hw h0 zc r99 cl pv SS z0 z1 z2 z3 z4 z5 z6 z7 z8 z9 z10 z11 z12 z13 z14 z15 z16 z17 G hc a2 a1) (argsL := [(.int (9 : Int32))]) (rest := [(.long ((10 : Int64) * q28))]) rfl (ps := [.int]) (by decide +kernel) rfl rfl 2 rfl (by decide) (by decide) (by decide) (by decide) ?_
  rintro _ _ ⟨rfl, rfl⟩
  show GoW (fun _ => True) B11_w Z a0 h0 _ 2 20 (mem20 a2 z0 z1 z2 z3 z4 z5 z6 z7 z8 z9 z10 z11 z12 z13 z14 z15 z16 z17 a1) 31 #[.val (.ref a1), .val (.long q28), .second, .val (.int (9 : Int32))] [(.int z9), (.long ((10 : Int64) * q28))]
  refine gw_i2l 32 rfl d11_31 rfl ?_
  refine gw_ladd 33 rfl d11_32 rfl ?_
  refine gw_ldc2 (v := (48 : Int64)) 36 rfl d11_33 (wd hw 137 rfl) ?_
  refine gw_lsub 37 rfl d11_36 rfl ?_
  refine gw_lstoreN #[.val (.ref a1), .val (.long ((((10 : Int64) * q28) + (z9.toInt64)) - (48 : Int64))), .second, .val (.int (9 : Int32))] 38 rfl d11_37 rfl rfl ?_
  have k9 := numstep q28 z9 N 100000000 1000000000 (by decide) (by decide) hN k8 D.2.2.2.2.2.2.2.2.2.1
  generalize eq9 : ((((10 : Int64) * q28) + (z9.toInt64)) - (48 : Int64)) = q29 at k9 ⊢
  clear eq9
  refine gw_iinc #[.val (.ref a1), .val (.long q29), .second, .val (.int (10 : Int32))] 41 rfl d11_38 rfl rfl ?_
  refine gw_goto 13 (by decide) rfl d11_41 ?_
  refine gw_iloadN 14 rfl d11_13 rfl ?_
  refine gw_bipush (18 : Int32) 16 rfl d11_14 rfl ?_
  refine gw_icmp 44 19 rfl (by decide) rfl d11_16 rfl (fun (hc16 : (18 : Int) ≤ (10 : Int)) => absurd hc16 (by decide)) (fun (hc16 : ¬ ((18 : Int) ≤ (10 : Int))) => ?_)
  refine gw_ldc2 (v := (10 : Int64)) 22 rfl d11_19 (wd hw 135 rfl) ?_
  refine gw_lloadN 23 rfl d11_22 rfl ?_
  refine gw_lmul 24 rfl d11_23 rfl ?_
  refine gw_aloadN 25 rfl d11_24 rfl rfl ?_
  refine gw_iloadN 26 rfl d11_25 rfl ?_
  refine gw_callF 31 rfl d11_26 (wd hw 136 rfl) (wd hw 99 rfl) (wd hw 100 rfl) (by decide) (wd hw 101 rfl) (wd hw 102 rfl) (wd hw 103 rfl) (wd hw 104 rfl) (wd hw 91 rfl) (wd hw 35 rfl) (wd hw 105 rfl) (by decide) (Mo.exa (i := 1) rfl) (mt50 Z a0 hw h0 zc r99 cl pv SS z0 z1 z2 z3 z4 z5 z6 z7 z8 z9 z10 z11 z12 z13 z14 z15 z16 z17 G hc a2 a1) (argsL := [(.int (10 : Int32))]) (rest := [(.long ((10 : Int64) * q29))]) rfl (ps := [.int]) (by decide +kernel) rfl rfl 2 rfl (by decide) (by decide) (by decide) (by decide) ?_
  rintro _ _ ⟨rfl, rfl⟩
  show GoW (fun _ => True) B11_w Z a0 h0 _ 2 20 (mem20 a2 z0 z1 z2 z3 z4 z5 z6 z7 z8 z9 z10 z11 z12 z13 z14 z15 z16 z17 a1) 31 #[.val (.ref a1), .val (.long q29), .second, .val (.int (10 : Int32))] [(.int z10), (.long ((10 : Int64) * q29))]
  refine gw_i2l 32 rfl d11_31 rfl ?_
  refine gw_ladd 33 rfl d11_32 rfl ?_
  refine gw_ldc2 (v := (48 : Int64)) 36 rfl d11_33 (wd hw 137 rfl) ?_
  refine gw_lsub 37 rfl d11_36 rfl ?_
  refine gw_lstoreN #[.val (.ref a1), .val (.long ((((10 : Int64) * q29) + (z10.toInt64)) - (48 : Int64))), .second, .val (.int (10 : Int32))] 38 rfl d11_37 rfl rfl ?_
  have k10 := numstep q29 z10 N 10000000 100000000 (by decide) (by decide) hN k9 D.2.2.2.2.2.2.2.2.2.2.1
  generalize eq10 : ((((10 : Int64) * q29) + (z10.toInt64)) - (48 : Int64)) = q30 at k10 ⊢
  clear eq10
  refine gw_iinc #[.val (.ref a1), .val (.long q30), .second, .val (.int (11 : Int32))] 41 rfl d11_38 rfl rfl ?_
  refine gw_goto 13 (by decide) rfl d11_41 ?_
  refine gw_iloadN 14 rfl d11_13 rfl ?_
  refine gw_bipush (18 : Int32) 16 rfl d11_14 rfl ?_
  refine gw_icmp 44 19 rfl (by decide) rfl d11_16 rfl (fun (hc16 : (18 : Int) ≤ (11 : Int)) => absurd hc16 (by decide)) (fun (hc16 : ¬ ((18 : Int) ≤ (11 : Int))) => ?_)
  refine gw_ldc2 (v := (10 : Int64)) 22 rfl d11_19 (wd hw 135 rfl) ?_
  refine gw_lloadN 23 rfl d11_22 rfl ?_
  refine gw_lmul 24 rfl d11_23 rfl ?_
  refine gw_aloadN 25 rfl d11_24 rfl rfl ?_
  refine gw_iloadN 26 rfl d11_25 rfl ?_
  refine gw_callF 31 rfl d11_26 (wd hw 136 rfl) (wd hw 99 rfl) (wd hw 100 rfl) (by decide) (wd hw 101 rfl) (wd hw 102 rfl) (wd hw 103 rfl) (wd hw 104 rfl) (wd hw 91 rfl) (wd hw 35 rfl) (wd hw 105 rfl) (by decide) (Mo.exa (i := 1) rfl) (mt54 Z a0 hw h0 zc r99 cl pv SS z0 z1 z2 z3 z4 z5 z6 z7 z8 z9 z10 z11 z12 z13 z14 z15 z16 z17 G hc a2 a1) (argsL := [(.int (11 : Int32))]) (rest := [(.long ((10 : Int64) * q30))]) rfl (ps := [.int]) (by decide +kernel) rfl rfl 2 rfl (by decide) (by decide) (by decide) (by decide) ?_
  rintro _ _ ⟨rfl, rfl⟩
  show GoW (fun _ => True) B11_w Z a0 h0 _ 2 20 (mem20 a2 z0 z1 z2 z3 z4 z5 z6 z7 z8 z9 z10 z11 z12 z13 z14 z15 z16 z17 a1) 31 #[.val (.ref a1), .val (.long q30), .second, .val (.int (11 : Int32))] [(.int z11), (.long ((10 : Int64) * q30))]
  refine gw_i2l 32 rfl d11_31 rfl ?_
  refine gw_ladd 33 rfl d11_32 rfl ?_
  refine gw_ldc2 (v := (48 : Int64)) 36 rfl d11_33 (wd hw 137 rfl) ?_
  refine gw_lsub 37 rfl d11_36 rfl ?_
  refine gw_lstoreN #[.val (.ref a1), .val (.long ((((10 : Int64) * q30) + (z11.toInt64)) - (48 : Int64))), .second, .val (.int (11 : Int32))] 38 rfl d11_37 rfl rfl ?_
  have k11 := numstep q30 z11 N 1000000 10000000 (by decide) (by decide) hN k10 D.2.2.2.2.2.2.2.2.2.2.2.1
  generalize eq11 : ((((10 : Int64) * q30) + (z11.toInt64)) - (48 : Int64)) = q31 at k11 ⊢
  clear eq11
  refine gw_iinc #[.val (.ref a1), .val (.long q31), .second, .val (.int (12 : Int32))] 41 rfl d11_38 rfl rfl ?_
  refine gw_goto 13 (by decide) rfl d11_41 ?_
  refine gw_iloadN 14 rfl d11_13 rfl ?_
  refine gw_bipush (18 : Int32) 16 rfl d11_14 rfl ?_
  refine gw_icmp 44 19 rfl (by decide) rfl d11_16 rfl (fun (hc16 : (18 : Int) ≤ (12 : Int)) => absurd hc16 (by decide)) (fun (hc16 : ¬ ((18 : Int) ≤ (12 : Int))) => ?_)
  refine gw_ldc2 (v := (10 : Int64)) 22 rfl d11_19 (wd hw 135 rfl) ?_
  refine gw_lloadN 23 rfl d11_22 rfl ?_
  refine gw_lmul 24 rfl d11_23 rfl ?_
  refine gw_aloadN 25 rfl d11_24 rfl rfl ?_
  refine gw_iloadN 26 rfl d11_25 rfl ?_
  refine gw_callF 31 rfl d11_26 (wd hw 136 rfl) (wd hw 99 rfl) (wd hw 100 rfl) (by decide) (wd hw 101 rfl) (wd hw 102 rfl) (wd hw 103 rfl) (wd hw 104 rfl) (wd hw 91 rfl) (wd hw 35 rfl) (wd hw 105 rfl) (by decide) (Mo.exa (i := 1) rfl) (mt58 Z a0 hw h0 zc r99 cl pv SS z0 z1 z2 z3 z4 z5 z6 z7 z8 z9 z10 z11 z12 z13 z14 z15 z16 z17 G hc a2 a1) (argsL := [(.int (12 : Int32))]) (rest := [(.long ((10 : Int64) * q31))]) rfl (ps := [.int]) (by decide +kernel) rfl rfl 2 rfl (by decide) (by decide) (by decide) (by decide) ?_
  rintro _ _ ⟨rfl, rfl⟩
  show GoW (fun _ => True) B11_w Z a0 h0 _ 2 20 (mem20 a2 z0 z1 z2 z3 z4 z5 z6 z7 z8 z9 z10 z11 z12 z13 z14 z15 z16 z17 a1) 31 #[.val (.ref a1), .val (.long q31), .second, .val (.int (12 : Int32))] [(.int z12), (.long ((10 : Int64) * q31))]
  refine gw_i2l 32 rfl d11_31 rfl ?_
  refine gw_ladd 33 rfl d11_32 rfl ?_
  refine gw_ldc2 (v := (48 : Int64)) 36 rfl d11_33 (wd hw 137 rfl) ?_
  refine gw_lsub 37 rfl d11_36 rfl ?_
  refine gw_lstoreN #[.val (.ref a1), .val (.long ((((10 : Int64) * q31) + (z12.toInt64)) - (48 : Int64))), .second, .val (.int (12 : Int32))] 38 rfl d11_37 rfl rfl ?_
  have k12 := numstep q31 z12 N 100000 1000000 (by decide) (by decide) hN k11 D.2.2.2.2.2.2.2.2.2.2.2.2.1
  generalize eq12 : ((((10 : Int64) * q31) + (z12.toInt64)) - (48 : Int64)) = q32 at k12 ⊢
  clear eq12
  refine gw_iinc #[.val (.ref a1), .val (.long q32), .second, .val (.int (13 : Int32))] 41 rfl d11_38 rfl rfl ?_
  refine gw_goto 13 (by decide) rfl d11_41 ?_
  refine gw_iloadN 14 rfl d11_13 rfl ?_
  refine gw_bipush (18 : Int32) 16 rfl d11_14 rfl ?_
  refine gw_icmp 44 19 rfl (by decide) rfl d11_16 rfl (fun (hc16 : (18 : Int) ≤ (13 : Int)) => absurd hc16 (by decide)) (fun (hc16 : ¬ ((18 : Int) ≤ (13 : Int))) => ?_)
  refine gw_ldc2 (v := (10 : Int64)) 22 rfl d11_19 (wd hw 135 rfl) ?_
  refine gw_lloadN 23 rfl d11_22 rfl ?_
  refine gw_lmul 24 rfl d11_23 rfl ?_
  refine gw_aloadN 25 rfl d11_24 rfl rfl ?_
  refine gw_iloadN 26 rfl d11_25 rfl ?_
  refine gw_callF 31 rfl d11_26 (wd hw 136 rfl) (wd hw 99 rfl) (wd hw 100 rfl) (by decide) (wd hw 101 rfl) (wd hw 102 rfl) (wd hw 103 rfl) (wd hw 104 rfl) (wd hw 91 rfl) (wd hw 35 rfl) (wd hw 105 rfl) (by decide) (Mo.exa (i := 1) rfl) (mt62 Z a0 hw h0 zc r99 cl pv SS z0 z1 z2 z3 z4 z5 z6 z7 z8 z9 z10 z11 z12 z13 z14 z15 z16 z17 G hc a2 a1) (argsL := [(.int (13 : Int32))]) (rest := [(.long ((10 : Int64) * q32))]) rfl (ps := [.int]) (by decide +kernel) rfl rfl 2 rfl (by decide) (by decide) (by decide) (by decide) ?_
  rintro _ _ ⟨rfl, rfl⟩
  show GoW (fun _ => True) B11_w Z a0 h0 _ 2 20 (mem20 a2 z0 z1 z2 z3 z4 z5 z6 z7 z8 z9 z10 z11 z12 z13 z14 z15 z16 z17 a1) 31 #[.val (.ref a1), .val (.long q32), .second, .val (.int (13 : Int32))] [(.int z13), (.long ((10 : Int64) * q32))]
  refine gw_i2l 32 rfl d11_31 rfl ?_
  refine gw_ladd 33 rfl d11_32 rfl ?_
  refine gw_ldc2 (v := (48 : Int64)) 36 rfl d11_33 (wd hw 137 rfl) ?_
  refine gw_lsub 37 rfl d11_36 rfl ?_
  refine gw_lstoreN #[.val (.ref a1), .val (.long ((((10 : Int64) * q32) + (z13.toInt64)) - (48 : Int64))), .second, .val (.int (13 : Int32))] 38 rfl d11_37 rfl rfl ?_
  have k13 := numstep q32 z13 N 10000 100000 (by decide) (by decide) hN k12 D.2.2.2.2.2.2.2.2.2.2.2.2.2.1
  generalize eq13 : ((((10 : Int64) * q32) + (z13.toInt64)) - (48 : Int64)) = q33 at k13 ⊢
  clear eq13
  refine gw_iinc #[.val (.ref a1), .val (.long q33), .second, .val (.int (14 : Int32))] 41 rfl d11_38 rfl rfl ?_
  refine gw_goto 13 (by decide) rfl d11_41 ?_
  refine gw_iloadN 14 rfl d11_13 rfl ?_
  refine gw_bipush (18 : Int32) 16 rfl d11_14 rfl ?_
  refine gw_icmp 44 19 rfl (by decide) rfl d11_16 rfl (fun (hc16 : (18 : Int) ≤ (14 : Int)) => absurd hc16 (by decide)) (fun (hc16 : ¬ ((18 : Int) ≤ (14 : Int))) => ?_)
  refine gw_ldc2 (v := (10 : Int64)) 22 rfl d11_19 (wd hw 135 rfl) ?_
  refine gw_lloadN 23 rfl d11_22 rfl ?_
  refine gw_lmul 24 rfl d11_23 rfl ?_
  refine gw_aloadN 25 rfl d11_24 rfl rfl ?_
  refine gw_iloadN 26 rfl d11_25 rfl ?_
  refine gw_callF 31 rfl d11_26 (wd hw 136 rfl) (wd hw 99 rfl) (wd hw 100 rfl) (by decide) (wd hw 101 rfl) (wd hw 102 rfl) (wd hw 103 rfl) (wd hw 104 rfl) (wd hw 91 rfl) (wd hw 35 rfl) (wd hw 105 rfl) (by decide) (Mo.exa (i := 1) rfl) (mt66 Z a0 hw h0 zc r99 cl pv SS z0 z1 z2 z3 z4 z5 z6 z7 z8 z9 z10 z11 z12 z13 z14 z15 z16 z17 G hc a2 a1) (argsL := [(.int (14 : Int32))]) (rest := [(.long ((10 : Int64) * q33))]) rfl (ps := [.int]) (by decide +kernel) rfl rfl 2 rfl (by decide) (by decide) (by decide) (by decide) ?_
  rintro _ _ ⟨rfl, rfl⟩
  show GoW (fun _ => True) B11_w Z a0 h0 _ 2 20 (mem20 a2 z0 z1 z2 z3 z4 z5 z6 z7 z8 z9 z10 z11 z12 z13 z14 z15 z16 z17 a1) 31 #[.val (.ref a1), .val (.long q33), .second, .val (.int (14 : Int32))] [(.int z14), (.long ((10 : Int64) * q33))]
  refine gw_i2l 32 rfl d11_31 rfl ?_
  refine gw_ladd 33 rfl d11_32 rfl ?_
  refine gw_ldc2 (v := (48 : Int64)) 36 rfl d11_33 (wd hw 137 rfl) ?_
  refine gw_lsub 37 rfl d11_36 rfl ?_
  refine gw_lstoreN #[.val (.ref a1), .val (.long ((((10 : Int64) * q33) + (z14.toInt64)) - (48 : Int64))), .second, .val (.int (14 : Int32))] 38 rfl d11_37 rfl rfl ?_
  have k14 := numstep q33 z14 N 1000 10000 (by decide) (by decide) hN k13 D.2.2.2.2.2.2.2.2.2.2.2.2.2.2.1
  generalize eq14 : ((((10 : Int64) * q33) + (z14.toInt64)) - (48 : Int64)) = q34 at k14 ⊢
  clear eq14
  refine gw_iinc #[.val (.ref a1), .val (.long q34), .second, .val (.int (15 : Int32))] 41 rfl d11_38 rfl rfl ?_
  refine gw_goto 13 (by decide) rfl d11_41 ?_
  refine gw_iloadN 14 rfl d11_13 rfl ?_
  refine gw_bipush (18 : Int32) 16 rfl d11_14 rfl ?_
  refine gw_icmp 44 19 rfl (by decide) rfl d11_16 rfl (fun (hc16 : (18 : Int) ≤ (15 : Int)) => absurd hc16 (by decide)) (fun (hc16 : ¬ ((18 : Int) ≤ (15 : Int))) => ?_)
  refine gw_ldc2 (v := (10 : Int64)) 22 rfl d11_19 (wd hw 135 rfl) ?_
  refine gw_lloadN 23 rfl d11_22 rfl ?_
  refine gw_lmul 24 rfl d11_23 rfl ?_
  refine gw_aloadN 25 rfl d11_24 rfl rfl ?_
  refine gw_iloadN 26 rfl d11_25 rfl ?_
  refine gw_callF 31 rfl d11_26 (wd hw 136 rfl) (wd hw 99 rfl) (wd hw 100 rfl) (by decide) (wd hw 101 rfl) (wd hw 102 rfl) (wd hw 103 rfl) (wd hw 104 rfl) (wd hw 91 rfl) (wd hw 35 rfl) (wd hw 105 rfl) (by decide) (Mo.exa (i := 1) rfl) (mt70 Z a0 hw h0 zc r99 cl pv SS z0 z1 z2 z3 z4 z5 z6 z7 z8 z9 z10 z11 z12 z13 z14 z15 z16 z17 G hc a2 a1) (argsL := [(.int (15 : Int32))]) (rest := [(.long ((10 : Int64) * q34))]) rfl (ps := [.int]) (by decide +kernel) rfl rfl 2 rfl (by decide) (by decide) (by decide) (by decide) ?_
  rintro _ _ ⟨rfl, rfl⟩
  show GoW (fun _ => True) B11_w Z a0 h0 _ 2 20 (mem20 a2 z0 z1 z2 z3 z4 z5 z6 z7 z8 z9 z10 z11 z12 z13 z14 z15 z16 z17 a1) 31 #[.val (.ref a1), .val (.long q34), .second, .val (.int (15 : Int32))] [(.int z15), (.long ((10 : Int64) * q34))]
  refine gw_i2l 32 rfl d11_31 rfl ?_
  refine gw_ladd 33 rfl d11_32 rfl ?_
  refine gw_ldc2 (v := (48 : Int64)) 36 rfl d11_33 (wd hw 137 rfl) ?_
  refine gw_lsub 37 rfl d11_36 rfl ?_
  refine gw_lstoreN #[.val (.ref a1), .val (.long ((((10 : Int64) * q34) + (z15.toInt64)) - (48 : Int64))), .second, .val (.int (15 : Int32))] 38 rfl d11_37 rfl rfl ?_
  have k15 := numstep q34 z15 N 100 1000 (by decide) (by decide) hN k14 D.2.2.2.2.2.2.2.2.2.2.2.2.2.2.2.1
  generalize eq15 : ((((10 : Int64) * q34) + (z15.toInt64)) - (48 : Int64)) = q35 at k15 ⊢
  clear eq15
  refine gw_iinc #[.val (.ref a1), .val (.long q35), .second, .val (.int (16 : Int32))] 41 rfl d11_38 rfl rfl ?_
  refine gw_goto 13 (by decide) rfl d11_41 ?_
  refine gw_iloadN 14 rfl d11_13 rfl ?_
  refine gw_bipush (18 : Int32) 16 rfl d11_14 rfl ?_
  refine gw_icmp 44 19 rfl (by decide) rfl d11_16 rfl (fun (hc16 : (18 : Int) ≤ (16 : Int)) => absurd hc16 (by decide)) (fun (hc16 : ¬ ((18 : Int) ≤ (16 : Int))) => ?_)
  refine gw_ldc2 (v := (10 : Int64)) 22 rfl d11_19 (wd hw 135 rfl) ?_
  refine gw_lloadN 23 rfl d11_22 rfl ?_
  refine gw_lmul 24 rfl d11_23 rfl ?_
  refine gw_aloadN 25 rfl d11_24 rfl rfl ?_
  refine gw_iloadN 26 rfl d11_25 rfl ?_
  refine gw_callF 31 rfl d11_26 (wd hw 136 rfl) (wd hw 99 rfl) (wd hw 100 rfl) (by decide) (wd hw 101 rfl) (wd hw 102 rfl) (wd hw 103 rfl) (wd hw 104 rfl) (wd hw 91 rfl) (wd hw 35 rfl) (wd hw 105 rfl) (by decide) (Mo.exa (i := 1) rfl) (mt74 Z a0 hw h0 zc r99 cl pv SS z0 z1 z2 z3 z4 z5 z6 z7 z8 z9 z10 z11 z12 z13 z14 z15 z16 z17 G hc a2 a1) (argsL := [(.int (16 : Int32))]) (rest := [(.long ((10 : Int64) * q35))]) rfl (ps := [.int]) (by decide +kernel) rfl rfl 2 rfl (by decide) (by decide) (by decide) (by decide) ?_
  rintro _ _ ⟨rfl, rfl⟩
  show GoW (fun _ => True) B11_w Z a0 h0 _ 2 20 (mem20 a2 z0 z1 z2 z3 z4 z5 z6 z7 z8 z9 z10 z11 z12 z13 z14 z15 z16 z17 a1) 31 #[.val (.ref a1), .val (.long q35), .second, .val (.int (16 : Int32))] [(.int z16), (.long ((10 : Int64) * q35))]
  refine gw_i2l 32 rfl d11_31 rfl ?_
  refine gw_ladd 33 rfl d11_32 rfl ?_
  refine gw_ldc2 (v := (48 : Int64)) 36 rfl d11_33 (wd hw 137 rfl) ?_
  refine gw_lsub 37 rfl d11_36 rfl ?_
  refine gw_lstoreN #[.val (.ref a1), .val (.long ((((10 : Int64) * q35) + (z16.toInt64)) - (48 : Int64))), .second, .val (.int (16 : Int32))] 38 rfl d11_37 rfl rfl ?_
  have k16 := numstep q35 z16 N 10 100 (by decide) (by decide) hN k15 D.2.2.2.2.2.2.2.2.2.2.2.2.2.2.2.2.1
  generalize eq16 : ((((10 : Int64) * q35) + (z16.toInt64)) - (48 : Int64)) = q36 at k16 ⊢
  clear eq16
  refine gw_iinc #[.val (.ref a1), .val (.long q36), .second, .val (.int (17 : Int32))] 41 rfl d11_38 rfl rfl ?_
  refine gw_goto 13 (by decide) rfl d11_41 ?_
  refine gw_iloadN 14 rfl d11_13 rfl ?_
  refine gw_bipush (18 : Int32) 16 rfl d11_14 rfl ?_
  refine gw_icmp 44 19 rfl (by decide) rfl d11_16 rfl (fun (hc16 : (18 : Int) ≤ (17 : Int)) => absurd hc16 (by decide)) (fun (hc16 : ¬ ((18 : Int) ≤ (17 : Int))) => ?_)
  refine gw_ldc2 (v := (10 : Int64)) 22 rfl d11_19 (wd hw 135 rfl) ?_
  refine gw_lloadN 23 rfl d11_22 rfl ?_
  refine gw_lmul 24 rfl d11_23 rfl ?_
  refine gw_aloadN 25 rfl d11_24 rfl rfl ?_
  refine gw_iloadN 26 rfl d11_25 rfl ?_
  refine gw_callF 31 rfl d11_26 (wd hw 136 rfl) (wd hw 99 rfl) (wd hw 100 rfl) (by decide) (wd hw 101 rfl) (wd hw 102 rfl) (wd hw 103 rfl) (wd hw 104 rfl) (wd hw 91 rfl) (wd hw 35 rfl) (wd hw 105 rfl) (by decide) (Mo.exa (i := 1) rfl) (mt78 Z a0 hw h0 zc r99 cl pv SS z0 z1 z2 z3 z4 z5 z6 z7 z8 z9 z10 z11 z12 z13 z14 z15 z16 z17 G hc a2 a1) (argsL := [(.int (17 : Int32))]) (rest := [(.long ((10 : Int64) * q36))]) rfl (ps := [.int]) (by decide +kernel) rfl rfl 2 rfl (by decide) (by decide) (by decide) (by decide) ?_
  rintro _ _ ⟨rfl, rfl⟩
  show GoW (fun _ => True) B11_w Z a0 h0 _ 2 20 (mem20 a2 z0 z1 z2 z3 z4 z5 z6 z7 z8 z9 z10 z11 z12 z13 z14 z15 z16 z17 a1) 31 #[.val (.ref a1), .val (.long q36), .second, .val (.int (17 : Int32))] [(.int z17), (.long ((10 : Int64) * q36))]
  refine gw_i2l 32 rfl d11_31 rfl ?_
  refine gw_ladd 33 rfl d11_32 rfl ?_
  refine gw_ldc2 (v := (48 : Int64)) 36 rfl d11_33 (wd hw 137 rfl) ?_
  refine gw_lsub 37 rfl d11_36 rfl ?_
  refine gw_lstoreN #[.val (.ref a1), .val (.long ((((10 : Int64) * q36) + (z17.toInt64)) - (48 : Int64))), .second, .val (.int (17 : Int32))] 38 rfl d11_37 rfl rfl ?_
  have k17 := numstep q36 z17 N 1 10 (by decide) (by decide) hN k16 D.2.2.2.2.2.2.2.2.2.2.2.2.2.2.2.2.2
  generalize eq17 : ((((10 : Int64) * q36) + (z17.toInt64)) - (48 : Int64)) = q37 at k17 ⊢
  clear eq17
  refine gw_iinc #[.val (.ref a1), .val (.long q37), .second, .val (.int (18 : Int32))] 41 rfl d11_38 rfl rfl ?_
  refine gw_goto 13 (by decide) rfl d11_41 ?_
  refine gw_iloadN 14 rfl d11_13 rfl ?_
  refine gw_bipush (18 : Int32) 16 rfl d11_14 rfl ?_
  refine gw_icmp 44 19 rfl (by decide) rfl d11_16 rfl (fun (hc16 : (18 : Int) ≤ (18 : Int)) => ?_) (fun (hc16 : ¬ ((18 : Int) ≤ (18 : Int))) => absurd hc16 (by decide))
  refine gw_lloadN 45 rfl d11_44 rfl ?_
  refine GoW.front 0 (Nat.le_of_ble_eq_true rfl) ?_
  refine GoW.front 1 (Nat.le_of_ble_eq_true rfl) ?_
  show GoW (fun _ => True) B11_w Z a0 h0 _ 2 20 (mem19 a1 a2 z0 z1 z2 z3 z4 z5 z6 z7 z8 z9 z10 z11 z12 z13 z14 z15 z16 z17) 45 #[.val (.ref a1), .val (.long q37), .second, .val (.int (18 : Int32))] [(.long q37)]
  exact gw_lreturn d11_45 rfl rfl (by decide) (by decide) ⟨q37, k17.trans (Int.ediv_one N), rfl, rfl⟩
theorem d27_0 : decode prog_14_method_1_code 0 = .ok (.aload_n 0, 1) := by decide +kernel
theorem d27_1 : decode prog_14_method_1_code 1 = .ok (.invokespecial 3, 3) := by decide +kernel
theorem d27_4 : decode prog_14_method_1_code 4 = .ok (.aload_n 0, 1) := by decide +kernel
theorem d27_5 : decode prog_14_method_1_code 5 = .ok (.lload_n 1, 1) := by decide +kernel
theorem d27_6 : decode prog_14_method_1_code 6 = .ok (.putfield 9, 3) := by decide +kernel
theorem d27_9 : decode prog_14_method_1_code 9 = .ok (.return_, 1) := by decide +kernel
theorem pn27 : plainFor (⟨"com/example/cartonmark/cartonmark/gs1/SsccDigits", "<init>", "(J)V"⟩ : MethodName) = true := by first | (apply plainFor_of_name; simp [plainName, overriddenIn]; done) | decide +kernel
def B27_89 : Bdy := (⟨"com/example/cartonmark/cartonmark/gs1/SsccDigits", "<init>", "(J)V"⟩, prog_14_method_1_code, 3, none, ({ frames := 1, cells := 0, slots := 0, locals := 12 } : Room))
theorem mt89 (Z : State) (a0 : Array Value) (hw : ∀ d ∈ tables_1, d.before a0 Z = true) (h0 : Heap) (zc : Int32) (r99 : Value) (cl : Cell) (pv : Addr) (SS : Sts Z h0 zc r99 cl pv) (z0 z1 z2 z3 z4 z5 z6 z7 z8 z9 z10 z11 z12 z13 z14 z15 z16 z17 : Int32) (G : RG z0 z1 z2 z3 z4 z5 z6 z7 z8 z9 z10 z11 z12 z13 z14 z15 z16 z17) (hc : HC z0 z1 z2 z3 z4 z5 z6 z7 z8 z9 z10 z11 z12 z13 z14 z15 z16 z17) (a3 : Addr) (q9 : Int64) :
    Met B27_89 Z a0 h0 #[(.ref a3), (.long q9)] [ob a3 "com/example/cartonmark/cartonmark/gs1/Sscc" [("com/example/cartonmark/cartonmark/gs1/SsccDigits", "number", "J", (.long (0 : Int64)))]] (Ret none [ob a3 "com/example/cartonmark/cartonmark/gs1/Sscc" [("com/example/cartonmark/cartonmark/gs1/SsccDigits", "number", "J", (.long q9))]]) := by
  refine Met.of pn27 (ls := #[.val (.ref a3), .val (.long q9), .second]) (fun m => by first | (simp [entryFrame, mkF, argsToLocals, Value.category, B27_89]; done) | rfl) ?_
  show Go B27_89 Z a0 h0 _ 0 0 [ob a3 "com/example/cartonmark/cartonmark/gs1/Sscc" [("com/example/cartonmark/cartonmark/gs1/SsccDigits", "number", "J", (.long (0 : Int64)))]] 0 #[.val (.ref a3), .val (.long q9), .second] []
  refine go_aloadN 1 rfl d27_0 rfl rfl ?_
  refine go_initObj 4 rfl d27_1 rfl (wd hw 146 rfl) (wd hw 44 rfl) (wd hw 45 rfl) rfl (by decide) (by decide) ?_
  refine go_aloadN 5 rfl d27_4 rfl rfl ?_
  refine go_lloadN 6 rfl d27_5 rfl ?_
  refine go_put 0 0 9 rfl d27_6 rfl rfl rfl (wd hw 147 rfl) (Or.inl (wd hw 148 rfl)) (wd hw 31 rfl) (ty := .long) (by decide) rfl rfl ?_
  show Go B27_89 Z a0 h0 _ 0 0 [ob a3 "com/example/cartonmark/cartonmark/gs1/Sscc" [("com/example/cartonmark/cartonmark/gs1/SsccDigits", "number", "J", (.long q9))]] 9 #[.val (.ref a3), .val (.long q9), .second] []
  exact go_return d27_9 rfl rfl (by decide) (by decide) ⟨rfl, rfl⟩
theorem d26_0 : decode prog_13_method_2_code 0 = .ok (.aload_n 0, 1) := by decide +kernel
theorem d26_1 : decode prog_13_method_2_code 1 = .ok (.lload_n 1, 1) := by decide +kernel
theorem d26_2 : decode prog_13_method_2_code 2 = .ok (.invokespecial 11, 3) := by decide +kernel
theorem d26_5 : decode prog_13_method_2_code 5 = .ok (.return_, 1) := by decide +kernel
theorem pn26 : plainFor (⟨"com/example/cartonmark/cartonmark/gs1/Sscc", "<init>", "(J)V"⟩ : MethodName) = true := by first | (apply plainFor_of_name; simp [plainName, overriddenIn]; done) | decide +kernel
def B26_88 : Bdy := (⟨"com/example/cartonmark/cartonmark/gs1/Sscc", "<init>", "(J)V"⟩, prog_13_method_2_code, 3, none, ({ frames := 2, cells := 0, slots := 0, locals := 26 } : Room))
theorem mt88 (Z : State) (a0 : Array Value) (hw : ∀ d ∈ tables_1, d.before a0 Z = true) (h0 : Heap) (zc : Int32) (r99 : Value) (cl : Cell) (pv : Addr) (SS : Sts Z h0 zc r99 cl pv) (z0 z1 z2 z3 z4 z5 z6 z7 z8 z9 z10 z11 z12 z13 z14 z15 z16 z17 : Int32) (G : RG z0 z1 z2 z3 z4 z5 z6 z7 z8 z9 z10 z11 z12 z13 z14 z15 z16 z17) (hc : HC z0 z1 z2 z3 z4 z5 z6 z7 z8 z9 z10 z11 z12 z13 z14 z15 z16 z17) (a3 : Addr) (q9 : Int64) :
    Met B26_88 Z a0 h0 #[(.ref a3), (.long q9)] [ob a3 "com/example/cartonmark/cartonmark/gs1/Sscc" [("com/example/cartonmark/cartonmark/gs1/SsccDigits", "number", "J", (.long (0 : Int64)))]] (Ret none [ob a3 "com/example/cartonmark/cartonmark/gs1/Sscc" [("com/example/cartonmark/cartonmark/gs1/SsccDigits", "number", "J", (.long q9))]]) := by
  refine Met.of pn26 (ls := #[.val (.ref a3), .val (.long q9), .second]) (fun m => by first | (simp [entryFrame, mkF, argsToLocals, Value.category, B26_88]; done) | rfl) ?_
  show Go B26_88 Z a0 h0 _ 0 0 [ob a3 "com/example/cartonmark/cartonmark/gs1/Sscc" [("com/example/cartonmark/cartonmark/gs1/SsccDigits", "number", "J", (.long (0 : Int64)))]] 0 #[.val (.ref a3), .val (.long q9), .second] []
  refine go_aloadN 1 rfl d26_0 rfl rfl ?_
  refine go_lloadN 2 rfl d26_1 rfl ?_
  refine go_callI 5 rfl d26_2 rfl (wd hw 141 rfl) (wd hw 142 rfl) (wd hw 144 rfl) (wd hw 145 rfl) (by decide) (mt89 Z a0 hw h0 zc r99 cl pv SS z0 z1 z2 z3 z4 z5 z6 z7 z8 z9 z10 z11 z12 z13 z14 z15 z16 z17 G hc a3 q9) (argsL := [(.long q9)]) (rest := []) rfl (ret := none) (ps := [.long]) (by decide +kernel) rfl rfl 0 rfl (by decide) (by decide) (by decide) (by decide) ?_
  rintro _ _ ⟨rfl, rfl⟩
  show Go B26_88 Z a0 h0 _ 0 0 [ob a3 "com/example/cartonmark/cartonmark/gs1/Sscc" [("com/example/cartonmark/cartonmark/gs1/SsccDigits", "number", "J", (.long q9))]] 5 #[.val (.ref a3), .val (.long q9), .second] []
  exact go_return d26_5 rfl rfl (by decide) (by decide) ⟨rfl, rfl⟩
theorem d10_0 : decode prog_13_method_1_code 0 = .ok (.aload_n 0, 1) := by decide +kernel
theorem d10_1 : decode prog_13_method_1_code 1 = .ok (.aload_n 1, 1) := by decide +kernel
theorem d10_2 : decode prog_13_method_1_code 2 = .ok (.invokestatic 1, 3) := by decide +kernel
theorem d10_5 : decode prog_13_method_1_code 5 = .ok (.invokespecial 7, 3) := by decide +kernel
theorem d10_8 : decode prog_13_method_1_code 8 = .ok (.return_, 1) := by decide +kernel
theorem pn10 : plainFor (⟨"com/example/cartonmark/cartonmark/gs1/Sscc", "<init>", "(Ljava/lang/String;)V"⟩ : MethodName) = true := by first | (apply plainFor_of_name; simp [plainName, overriddenIn]; done) | decide +kernel
def B10_w : Bdy := (⟨"com/example/cartonmark/cartonmark/gs1/Sscc", "<init>", "(Ljava/lang/String;)V"⟩, prog_13_method_1_code, 2, none, ({ frames := 7, cells := 2, slots := 20, locals := 103 } : Room))
theorem mw_init (Z : State) (a0 : Array Value) (hw : ∀ d ∈ tables_1, d.before a0 Z = true) (h0 : Heap) (zc : Int32) (r99 : Value) (cl : Cell) (pv : Addr) (SS : Sts Z h0 zc r99 cl pv) (z0 z1 z2 z3 z4 z5 z6 z7 z8 z9 z10 z11 z12 z13 z14 z15 z16 z17 : Int32) (G : RG z0 z1 z2 z3 z4 z5 z6 z7 z8 z9 z10 z11 z12 z13 z14 z15 z16 z17) (hc : HC z0 z1 z2 z3 z4 z5 z6 z7 z8 z9 z10 z11 z12 z13 z14 z15 z16 z17) (N : Int) (hN : 0 ≤ N ∧ N < 1000000000000000000) (D : DG N z0 z1 z2 z3 z4 z5 z6 z7 z8 z9 z10 z11 z12 z13 z14 z15 z16 z17) (a1 a2 a3 : Addr) :
    MetW (fun _ => True) B10_w Z a0 h0 #[(.ref a3), (.ref a1)] (mem23 a3 a1 a2 z0 z1 z2 z3 z4 z5 z6 z7 z8 z9 z10 z11 z12 z13 z14 z15 z16 z17) (fun v ds => ∃ q9 : Int64, q9.toInt = N ∧ Ret none (mem22 a3 q9 a1 a2 z0 z1 z2 z3 z4 z5 z6 z7 z8 z9 z10 z11 z12 z13 z14 z15 z16 z17) v ds) := by
  refine MetW.of pn10 (ls := #[.val (.ref a3), .val (.ref a1)]) (fun m => by first | (simp [entryFrame, mkF, argsToLocals, Value.category, B10_w]; done) | rfl) ?_
  show GoW (fun _ => True) B10_w Z a0 h0 _ 0 0 (mem23 a3 a1 a2 z0 z1 z2 z3 z4 z5 z6 z7 z8 z9 z10 z11 z12 z13 z14 z15 z16 z17) 0 #[.val (.ref a3), .val (.ref a1)] []
  refine gw_aloadN 1 rfl d10_0 rfl rfl ?_
  refine gw_aloadN 2 rfl d10_1 rfl rfl ?_
  refine GoW.front 2 (Nat.le_of_ble_eq_true rfl) ?_
  refine GoW.front 2 (Nat.le_of_ble_eq_true rfl) ?_
  show GoW (fun _ => True) B10_w Z a0 h0 _ 0 0 (mem24 a1 a2 z0 z1 z2 z3 z4 z5 z6 z7 z8 z9 z10 z11 z12 z13 z14 z15 z16 z17 a3) 2 #[.val (.ref a3), .val (.ref a1)] [(.ref a1), (.ref a3)]
  refine gw_wcallS (fun _ _ _ _ _ => trivial) 5 rfl d10_2 (wd hw 65 rfl) (wd hw 66 rfl) (wd hw 32 rfl) (wd hw 67 rfl) (by decide) (MetW.frame [ob a3 "com/example/cartonmark/cartonmark/gs1/Sscc" [("com/example/cartonmark/cartonmark/gs1/SsccDigits", "number", "J", (.long (0 : Int64)))]] (mw_num Z a0 hw h0 zc r99 cl pv SS z0 z1 z2 z3 z4 z5 z6 z7 z8 z9 z10 z11 z12 z13 z14 z15 z16 z17 G hc N hN D a1 a2)) (argsL := [(.ref a1)]) (rest := [(.ref a3)]) rfl (ps := [(.object "java/lang/CharSequence")]) (by decide +kernel) rfl rfl 1 rfl (by decide) (by decide) (by decide) (by decide) ?_
  rintro _ _ ⟨_, ⟨q9, h9, rfl, rfl⟩, rfl⟩
  show GoW (fun _ => True) B10_w Z a0 h0 _ 2 20 (mem24 a1 a2 z0 z1 z2 z3 z4 z5 z6 z7 z8 z9 z10 z11 z12 z13 z14 z15 z16 z17 a3) 5 #[.val (.ref a3), .val (.ref a1)] [(.long q9), (.ref a3)]
  refine GoW.front 2 (Nat.le_of_ble_eq_true rfl) ?_
  show GoW (fun _ => True) B10_w Z a0 h0 _ 2 20 (mem23 a3 a1 a2 z0 z1 z2 z3 z4 z5 z6 z7 z8 z9 z10 z11 z12 z13 z14 z15 z16 z17) 5 #[.val (.ref a3), .val (.ref a1)] [(.long q9), (.ref a3)]
  refine gw_callI 8 rfl d10_5 rfl (wd hw 138 rfl) (wd hw 139 rfl) (wd hw 32 rfl) (wd hw 140 rfl) (by decide) (Met.frame (mem19 a1 a2 z0 z1 z2 z3 z4 z5 z6 z7 z8 z9 z10 z11 z12 z13 z14 z15 z16 z17) (mt88 Z a0 hw h0 zc r99 cl pv SS z0 z1 z2 z3 z4 z5 z6 z7 z8 z9 z10 z11 z12 z13 z14 z15 z16 z17 G hc a3 q9)) (argsL := [(.long q9)]) (rest := []) rfl (ret := none) (ps := [.long]) (by decide +kernel) rfl rfl 0 rfl (by decide) (by decide) (by decide) (by decide) ?_
  rintro _ _ ⟨_, ⟨rfl, rfl⟩, rfl⟩
  show GoW (fun _ => True) B10_w Z a0 h0 _ 2 20 (mem22 a3 q9 a1 a2 z0 z1 z2 z3 z4 z5 z6 z7 z8 z9 z10 z11 z12 z13 z14 z15 z16 z17) 8 #[.val (.ref a3), .val (.ref a1)] []
  exact gw_return d10_8 rfl rfl (by decide) (by decide) ⟨q9, h9, rfl, rfl⟩
theorem pn0 : plainFor (⟨"com/example/cartonmark/cartonmark/gs1/SsccEqualsPinLaw", "law", "(JJI)Z"⟩ : MethodName) = true := by first | (apply plainFor_of_name; simp [plainName, overriddenIn]; done) | decide +kernel
def B0 : Bdy := (x, code, maxLocals, ret, room_1)
def B27_91 : Bdy := (⟨"com/example/cartonmark/cartonmark/gs1/SsccDigits", "<init>", "(J)V"⟩, prog_14_method_1_code, 3, none, ({ frames := 1, cells := 0, slots := 0, locals := 12 } : Room))
theorem mt91 (Z : State) (a0 : Array Value) (hw : ∀ d ∈ tables_1, d.before a0 Z = true) (h0 : Heap) (zc : Int32) (r99 : Value) (cl : Cell) (pv : Addr) (SS : Sts Z h0 zc r99 cl pv) (a47 : Addr) :
    Met B27_91 Z a0 h0 #[(.ref a47), (.long (0 : Int64))] [ob a47 "com/example/cartonmark/cartonmark/gs1/SsccReading" [("com/example/cartonmark/cartonmark/gs1/SsccDigits", "number", "J", (.long (0 : Int64)))]] (Ret none [ob a47 "com/example/cartonmark/cartonmark/gs1/SsccReading" [("com/example/cartonmark/cartonmark/gs1/SsccDigits", "number", "J", (.long (0 : Int64)))]]) := by
  refine Met.of pn27 (ls := #[.val (.ref a47), .val (.long (0 : Int64)), .second]) (fun m => by first | (simp [entryFrame, mkF, argsToLocals, Value.category, B27_91]; done) | rfl) ?_
  show Go B27_91 Z a0 h0 _ 0 0 [ob a47 "com/example/cartonmark/cartonmark/gs1/SsccReading" [("com/example/cartonmark/cartonmark/gs1/SsccDigits", "number", "J", (.long (0 : Int64)))]] 0 #[.val (.ref a47), .val (.long (0 : Int64)), .second] []
  refine go_aloadN 1 rfl d27_0 rfl rfl ?_
  refine go_initObj 4 rfl d27_1 rfl (wd hw 146 rfl) (wd hw 44 rfl) (wd hw 45 rfl) rfl (by decide) (by decide) ?_
  refine go_aloadN 5 rfl d27_4 rfl rfl ?_
  refine go_lloadN 6 rfl d27_5 rfl ?_
  refine go_put 0 0 9 rfl d27_6 rfl rfl rfl (wd hw 147 rfl) (Or.inl (wd hw 156 rfl)) (wd hw 150 rfl) (ty := .long) (by decide) rfl rfl ?_
  show Go B27_91 Z a0 h0 _ 0 0 [ob a47 "com/example/cartonmark/cartonmark/gs1/SsccReading" [("com/example/cartonmark/cartonmark/gs1/SsccDigits", "number", "J", (.long (0 : Int64)))]] 9 #[.val (.ref a47), .val (.long (0 : Int64)), .second] []
  exact go_return d27_9 rfl rfl (by decide) (by decide) ⟨rfl, rfl⟩
theorem d28_0 : decode prog_16_method_1_code 0 = .ok (.aload_n 0, 1) := by decide +kernel
theorem d28_1 : decode prog_16_method_1_code 1 = .ok (.lconst 0, 1) := by decide +kernel
theorem d28_2 : decode prog_16_method_1_code 2 = .ok (.invokespecial 1, 3) := by decide +kernel
theorem d28_5 : decode prog_16_method_1_code 5 = .ok (.return_, 1) := by decide +kernel
theorem pn28 : plainFor (⟨"com/example/cartonmark/cartonmark/gs1/SsccReading", "<init>", "()V"⟩ : MethodName) = true := by first | (apply plainFor_of_name; simp [plainName, overriddenIn]; done) | decide +kernel
def B28_90 : Bdy := (⟨"com/example/cartonmark/cartonmark/gs1/SsccReading", "<init>", "()V"⟩, prog_16_method_1_code, 1, none, ({ frames := 2, cells := 0, slots := 0, locals := 26 } : Room))
theorem mt90 (Z : State) (a0 : Array Value) (hw : ∀ d ∈ tables_1, d.before a0 Z = true) (h0 : Heap) (zc : Int32) (r99 : Value) (cl : Cell) (pv : Addr) (SS : Sts Z h0 zc r99 cl pv) (a47 : Addr) :
    Met B28_90 Z a0 h0 #[(.ref a47)] [ob a47 "com/example/cartonmark/cartonmark/gs1/SsccReading" [("com/example/cartonmark/cartonmark/gs1/SsccDigits", "number", "J", (.long (0 : Int64)))]] (Ret none [ob a47 "com/example/cartonmark/cartonmark/gs1/SsccReading" [("com/example/cartonmark/cartonmark/gs1/SsccDigits", "number", "J", (.long (0 : Int64)))]]) := by
  refine Met.of pn28 (ls := #[.val (.ref a47)]) (fun m => by first | (simp [entryFrame, mkF, argsToLocals, Value.category, B28_90]; done) | rfl) ?_
  show Go B28_90 Z a0 h0 _ 0 0 [ob a47 "com/example/cartonmark/cartonmark/gs1/SsccReading" [("com/example/cartonmark/cartonmark/gs1/SsccDigits", "number", "J", (.long (0 : Int64)))]] 0 #[.val (.ref a47)] []
  refine go_aloadN 1 rfl d28_0 rfl rfl ?_
  refine go_lconst (0 : Int64) 2 rfl d28_1 rfl ?_
  refine go_callI 5 rfl d28_2 rfl (wd hw 155 rfl) (wd hw 142 rfl) (wd hw 144 rfl) (wd hw 145 rfl) (by decide) (mt91 Z a0 hw h0 zc r99 cl pv SS a47) (argsL := [(.long (0 : Int64))]) (rest := []) rfl (ret := none) (ps := [.long]) (by decide +kernel) rfl rfl 0 rfl (by decide) (by decide) (by decide) (by decide) ?_
  rintro _ _ ⟨rfl, rfl⟩
  show Go B28_90 Z a0 h0 _ 0 0 [ob a47 "com/example/cartonmark/cartonmark/gs1/SsccReading" [("com/example/cartonmark/cartonmark/gs1/SsccDigits", "number", "J", (.long (0 : Int64)))]] 5 #[.val (.ref a47)] []
  exact go_return d28_5 rfl rfl (by decide) (by decide) ⟨rfl, rfl⟩
theorem d29_0 : decode prog_16_method_3_code 0 = .ok (.aload_n 0, 1) := by decide +kernel
theorem d29_1 : decode prog_16_method_3_code 1 = .ok (.lload_n 1, 1) := by decide +kernel
theorem d29_2 : decode prog_16_method_3_code 2 = .ok (.putfield 13, 3) := by decide +kernel
theorem d29_5 : decode prog_16_method_3_code 5 = .ok (.return_, 1) := by decide +kernel
theorem pn29 : plainFor (⟨"com/example/cartonmark/cartonmark/gs1/SsccReading", "set", "(J)V"⟩ : MethodName) = true := by first | (apply plainFor_of_name; simp [plainName, overriddenIn]; done) | decide +kernel
def B29_92 : Bdy := (⟨"com/example/cartonmark/cartonmark/gs1/SsccReading", "set", "(J)V"⟩, prog_16_method_3_code, 3, none, ({ frames := 0, cells := 0, slots := 0, locals := 0 } : Room))
theorem mt92 (Z : State) (a0 : Array Value) (hw : ∀ d ∈ tables_1, d.before a0 Z = true) (h0 : Heap) (zc : Int32) (r99 : Value) (cl : Cell) (pv : Addr) (SS : Sts Z h0 zc r99 cl pv) (a47 : Addr) (q7 : Int64) :
    Met B29_92 Z a0 h0 #[(.ref a47), (.long q7)] [ob a47 "com/example/cartonmark/cartonmark/gs1/SsccReading" [("com/example/cartonmark/cartonmark/gs1/SsccDigits", "number", "J", (.long (0 : Int64)))]] (Ret none [ob a47 "com/example/cartonmark/cartonmark/gs1/SsccReading" [("com/example/cartonmark/cartonmark/gs1/SsccDigits", "number", "J", (.long q7))]]) := by
  refine Met.of pn29 (ls := #[.val (.ref a47), .val (.long q7), .second]) (fun m => by first | (simp [entryFrame, mkF, argsToLocals, Value.category, B29_92]; done) | rfl) ?_
  show Go B29_92 Z a0 h0 _ 0 0 [ob a47 "com/example/cartonmark/cartonmark/gs1/SsccReading" [("com/example/cartonmark/cartonmark/gs1/SsccDigits", "number", "J", (.long (0 : Int64)))]] 0 #[.val (.ref a47), .val (.long q7), .second] []
  refine go_aloadN 1 rfl d29_0 rfl rfl ?_
  refine go_lloadN 2 rfl d29_1 rfl ?_
  refine go_putG 0 0 5 rfl d29_2 rfl rfl rfl (wd hw 162 rfl) (Via.of (wd hw 163 rfl)) (Or.inl (wd hw 156 rfl)) (wd hw 150 rfl) (ty := .long) (by decide) rfl rfl ?_
  show Go B29_92 Z a0 h0 _ 0 0 [ob a47 "com/example/cartonmark/cartonmark/gs1/SsccReading" [("com/example/cartonmark/cartonmark/gs1/SsccDigits", "number", "J", (.long q7))]] 5 #[.val (.ref a47), .val (.long q7), .second] []
  exact go_return d29_5 rfl rfl (by decide) (by decide) ⟨rfl, rfl⟩
theorem d30_0 : decode prog_13_method_13_code 0 = .ok (.aload_n 1, 1) := by decide +kernel
theorem d30_1 : decode prog_13_method_13_code 1 = .ok (.instanceof 2, 3) := by decide +kernel
theorem d30_4 : decode prog_13_method_13_code 4 = .ok (.ifCond .eq 22, 3) := by decide +kernel
theorem d30_26 : decode prog_13_method_13_code 26 = .ok (.iconst 0, 1) := by decide +kernel
theorem d30_27 : decode prog_13_method_13_code 27 = .ok (.ireturn, 1) := by decide +kernel
theorem pn30 : plainFor (⟨"com/example/cartonmark/cartonmark/gs1/Sscc", "equals", "(Ljava/lang/Object;)Z"⟩ : MethodName) = true := by first | (apply plainFor_of_name; simp [plainName, overriddenIn]; done) | decide +kernel
def B30_97 : Bdy := (⟨"com/example/cartonmark/cartonmark/gs1/Sscc", "equals", "(Ljava/lang/Object;)Z"⟩, prog_13_method_13_code, 2, (some .boolean), ({ frames := 0, cells := 0, slots := 0, locals := 0 } : Room))
theorem mt97 (Z : State) (a0 : Array Value) (hw : ∀ d ∈ tables_1, d.before a0 Z = true) (h0 : Heap) (zc : Int32) (r99 : Value) (cl : Cell) (pv : Addr) (SS : Sts Z h0 zc r99 cl pv) (a41 : Addr) (q16 : Int64) (a48 : Addr) (a49 : Addr) (z20 : Int32) (z21 : Int32) (z22 : Int32) (z23 : Int32) (z24 : Int32) (z25 : Int32) (z26 : Int32) (z27 : Int32) (z28 : Int32) (z29 : Int32) (z30 : Int32) (z31 : Int32) (z32 : Int32) (z33 : Int32) (z34 : Int32) (z35 : Int32) (z36 : Int32) (z37 : Int32) :
    Met B30_97 Z a0 h0 #[(.ref a41), (.ref a48)] (mem22 a41 q16 a48 a49 z20 z21 z22 z23 z24 z25 z26 z27 z28 z29 z30 z31 z32 z33 z34 z35 z36 z37) (Ret (some (.int (0 : Int32))) (mem22 a41 q16 a48 a49 z20 z21 z22 z23 z24 z25 z26 z27 z28 z29 z30 z31 z32 z33 z34 z35 z36 z37)) := by
  refine Met.of pn30 (ls := #[.val (.ref a41), .val (.ref a48)]) (fun m => by first | (simp [entryFrame, mkF, argsToLocals, Value.category, B30_97]; done) | rfl) ?_
  show Go B30_97 Z a0 h0 _ 0 0 (mem22 a41 q16 a48 a49 z20 z21 z22 z23 z24 z25 z26 z27 z28 z29 z30 z31 z32 z33 z34 z35 z36 z37) 0 #[.val (.ref a41), .val (.ref a48)] []
  refine go_aloadN 1 rfl d30_0 rfl rfl ?_
  refine go_instN 4 rfl d30_1 rfl (wd hw 169 rfl) (Mo.exa (i := 1) rfl) (nsNo (wd hw 176 rfl) (wd hw 31 rfl) (NS.step (wd hw 176 rfl) (nsRoot (wd hw 175 rfl) (wd hw 31 rfl) (by decide)) (by decide)) (by decide)) ?_
  show Go B30_97 Z a0 h0 _ 0 0 (mem22 a41 q16 a48 a49 z20 z21 z22 z23 z24 z25 z26 z27 z28 z29 z30 z31 z32 z33 z34 z35 z36 z37) 4 #[.val (.ref a41), .val (.ref a48)] [(.int (0 : Int32))]
  refine go_if 26 7 rfl (by decide) rfl d30_4 rfl (fun (hc4 : (0 : Int) = 0) => ?_) (fun (hc4 : ¬ ((0 : Int) = 0)) => absurd hc4 (by decide))
  refine go_iconst (0 : Int32) 27 rfl d30_26 rfl ?_
  exact go_ireturn d30_27 rfl (Or.inr (Or.inl rfl)) rfl rfl (by decide) (by decide) ⟨rfl, rfl⟩
theorem d30_7 : decode prog_13_method_13_code 7 = .ok (.aload_n 1, 1) := by decide +kernel
theorem d30_8 : decode prog_13_method_13_code 8 = .ok (.checkcast 2, 3) := by decide +kernel
theorem d30_11 : decode prog_13_method_13_code 11 = .ok (.getfield 133, 3) := by decide +kernel
theorem d30_14 : decode prog_13_method_13_code 14 = .ok (.aload_n 0, 1) := by decide +kernel
theorem d30_15 : decode prog_13_method_13_code 15 = .ok (.getfield 133, 3) := by decide +kernel
theorem d30_18 : decode prog_13_method_13_code 18 = .ok (.lcmp, 1) := by decide +kernel
theorem d30_19 : decode prog_13_method_13_code 19 = .ok (.ifCond .ne 7, 3) := by decide +kernel
theorem d30_22 : decode prog_13_method_13_code 22 = .ok (.iconst 1, 1) := by decide +kernel
theorem d30_23 : decode prog_13_method_13_code 23 = .ok (.goto 4, 3) := by decide +kernel
def B30_98 : Bdy := (⟨"com/example/cartonmark/cartonmark/gs1/Sscc", "equals", "(Ljava/lang/Object;)Z"⟩, prog_13_method_13_code, 2, (some .boolean), ({ frames := 0, cells := 0, slots := 0, locals := 0 } : Room))
theorem mt98 (Z : State) (a0 : Array Value) (hw : ∀ d ∈ tables_1, d.before a0 Z = true) (h0 : Heap) (zc : Int32) (r99 : Value) (cl : Cell) (pv : Addr) (SS : Sts Z h0 zc r99 cl pv) (a41 : Addr) (q16 : Int64) :
    Met B30_98 Z a0 h0 #[(.ref a41), (.ref a41)] [ob a41 "com/example/cartonmark/cartonmark/gs1/Sscc" [("com/example/cartonmark/cartonmark/gs1/SsccDigits", "number", "J", (.long q16))]] (Qz (q16.toInt = q16.toInt) [ob a41 "com/example/cartonmark/cartonmark/gs1/Sscc" [("com/example/cartonmark/cartonmark/gs1/SsccDigits", "number", "J", (.long q16))]]) := by
  refine Met.of pn30 (ls := #[.val (.ref a41), .val (.ref a41)]) (fun m => by first | (simp [entryFrame, mkF, argsToLocals, Value.category, B30_98]; done) | rfl) ?_
  show Go B30_98 Z a0 h0 _ 0 0 [ob a41 "com/example/cartonmark/cartonmark/gs1/Sscc" [("com/example/cartonmark/cartonmark/gs1/SsccDigits", "number", "J", (.long q16))]] 0 #[.val (.ref a41), .val (.ref a41)] []
  refine go_aloadN 1 rfl d30_0 rfl rfl ?_
  refine go_instY 4 rfl d30_1 rfl (wd hw 169 rfl) (fun h M => Ins.self (Mo.exa (i := 0) rfl h M)) ?_
  show Go B30_98 Z a0 h0 _ 0 0 [ob a41 "com/example/cartonmark/cartonmark/gs1/Sscc" [("com/example/cartonmark/cartonmark/gs1/SsccDigits", "number", "J", (.long q16))]] 4 #[.val (.ref a41), .val (.ref a41)] [(.int (1 : Int32))]
  refine go_if 26 7 rfl (by decide) rfl d30_4 rfl (fun (hc4 : (1 : Int) = 0) => absurd hc4 (by decide)) (fun (hc4 : ¬ ((1 : Int) = 0)) => ?_)
  refine go_aloadN 8 rfl d30_7 rfl rfl ?_
  refine go_cast 11 rfl d30_8 rfl (wd hw 169 rfl) (fun h M => Ins.self (Mo.exa (i := 0) rfl h M)) ?_
  refine go_getG 14 rfl d30_11 rfl (wd hw 171 rfl) (Via.of (wd hw 172 rfl)) (fun h M => ((M.at (i := 0) rfl).2.1 _ (List.mem_of_getElem? (i := 0) rfl)).1) ?_
  show Go B30_98 Z a0 h0 _ 0 0 [ob a41 "com/example/cartonmark/cartonmark/gs1/Sscc" [("com/example/cartonmark/cartonmark/gs1/SsccDigits", "number", "J", (.long q16))]] 14 #[.val (.ref a41), .val (.ref a41)] [(.long q16)]
  refine go_aloadN 15 rfl d30_14 rfl rfl ?_
  refine go_getG 18 rfl d30_15 rfl (wd hw 171 rfl) (Via.of (wd hw 172 rfl)) (fun h M => ((M.at (i := 0) rfl).2.1 _ (List.mem_of_getElem? (i := 0) rfl)).1) ?_
  show Go B30_98 Z a0 h0 _ 0 0 [ob a41 "com/example/cartonmark/cartonmark/gs1/Sscc" [("com/example/cartonmark/cartonmark/gs1/SsccDigits", "number", "J", (.long q16))]] 18 #[.val (.ref a41), .val (.ref a41)] [(.long q16), (.long q16)]
  refine go_lcmp 19 rfl d30_18 rfl ?_
  refine go_if 26 22 rfl (by decide) rfl d30_19 rfl (fun (hc19_98 : (lcmpW q16 q16).toInt ≠ 0) => ?_) (fun (hc19_98 : ¬ ((lcmpW q16 q16).toInt ≠ 0)) => ?_)
  · refine go_iconst (0 : Int32) 27 rfl d30_26 rfl ?_
    exact go_ireturn d30_27 rfl (Or.inr (Or.inl rfl)) rfl rfl (by decide) (by decide) ⟨_, rfl, rfl, Or.inr ⟨rfl, by have := c_lcmp q16 q16; omega⟩⟩
  · refine go_iconst (1 : Int32) 23 rfl d30_22 rfl ?_
    refine go_goto 27 (by decide) rfl d30_23 ?_
    exact go_ireturn d30_27 rfl (Or.inr (Or.inl rfl)) rfl rfl (by decide) (by decide) ⟨_, rfl, rfl, Or.inl ⟨rfl, by have := c_lcmp q16 q16; omega⟩⟩
def B30_100 : Bdy := (⟨"com/example/cartonmark/cartonmark/gs1/Sscc", "equals", "(Ljava/lang/Object;)Z"⟩, prog_13_method_13_code, 2, (some .boolean), ({ frames := 0, cells := 0, slots := 0, locals := 0 } : Room))
theorem mt100 (Z : State) (a0 : Array Value) (hw : ∀ d ∈ tables_1, d.before a0 Z = true) (h0 : Heap) (zc : Int32) (r99 : Value) (cl : Cell) (pv : Addr) (SS : Sts Z h0 zc r99 cl pv) (a47 : Addr) (q7 : Int64) (a41 : Addr) (q16 : Int64) :
    Met B30_100 Z a0 h0 #[(.ref a41), (.ref a47)] [ob a47 "com/example/cartonmark/cartonmark/gs1/SsccReading" [("com/example/cartonmark/cartonmark/gs1/SsccDigits", "number", "J", (.long q7))], ob a41 "com/example/cartonmark/cartonmark/gs1/Sscc" [("com/example/cartonmark/cartonmark/gs1/SsccDigits", "number", "J", (.long q16))]] (Ret (some (.int (0 : Int32))) [ob a47 "com/example/cartonmark/cartonmark/gs1/SsccReading" [("com/example/cartonmark/cartonmark/gs1/SsccDigits", "number", "J", (.long q7))], ob a41 "com/example/cartonmark/cartonmark/gs1/Sscc" [("com/example/cartonmark/cartonmark/gs1/SsccDigits", "number", "J", (.long q16))]]) := by
  refine Met.of pn30 (ls := #[.val (.ref a41), .val (.ref a47)]) (fun m => by first | (simp [entryFrame, mkF, argsToLocals, Value.category, B30_100]; done) | rfl) ?_
  show Go B30_100 Z a0 h0 _ 0 0 [ob a47 "com/example/cartonmark/cartonmark/gs1/SsccReading" [("com/example/cartonmark/cartonmark/gs1/SsccDigits", "number", "J", (.long q7))], ob a41 "com/example/cartonmark/cartonmark/gs1/Sscc" [("com/example/cartonmark/cartonmark/gs1/SsccDigits", "number", "J", (.long q16))]] 0 #[.val (.ref a41), .val (.ref a47)] []
  refine go_aloadN 1 rfl d30_0 rfl rfl ?_
  refine go_instN 4 rfl d30_1 rfl (wd hw 169 rfl) (Mo.exa (i := 0) rfl) (nsNo (wd hw 173 rfl) (wd hw 31 rfl) (NS.step (wd hw 173 rfl) (NS.step (wd hw 174 rfl) (nsRoot (wd hw 175 rfl) (wd hw 31 rfl) (by decide)) (by decide)) (by decide)) (by decide)) ?_
  show Go B30_100 Z a0 h0 _ 0 0 [ob a47 "com/example/cartonmark/cartonmark/gs1/SsccReading" [("com/example/cartonmark/cartonmark/gs1/SsccDigits", "number", "J", (.long q7))], ob a41 "com/example/cartonmark/cartonmark/gs1/Sscc" [("com/example/cartonmark/cartonmark/gs1/SsccDigits", "number", "J", (.long q16))]] 4 #[.val (.ref a41), .val (.ref a47)] [(.int (0 : Int32))]
  refine go_if 26 7 rfl (by decide) rfl d30_4 rfl (fun (hc4 : (0 : Int) = 0) => ?_) (fun (hc4 : ¬ ((0 : Int) = 0)) => absurd hc4 (by decide))
  refine go_iconst (0 : Int32) 27 rfl d30_26 rfl ?_
  exact go_ireturn d30_27 rfl (Or.inr (Or.inl rfl)) rfl rfl (by decide) (by decide) ⟨rfl, rfl⟩
def B30_101 : Bdy := (⟨"com/example/cartonmark/cartonmark/gs1/Sscc", "equals", "(Ljava/lang/Object;)Z"⟩, prog_13_method_13_code, 2, (some .boolean), ({ frames := 0, cells := 0, slots := 0, locals := 0 } : Room))
theorem mt101 (Z : State) (a0 : Array Value) (hw : ∀ d ∈ tables_1, d.before a0 Z = true) (h0 : Heap) (zc : Int32) (r99 : Value) (cl : Cell) (pv : Addr) (SS : Sts Z h0 zc r99 cl pv) (a41 : Addr) (q16 : Int64) :
    Met B30_101 Z a0 h0 #[(.ref a41), .null] [ob a41 "com/example/cartonmark/cartonmark/gs1/Sscc" [("com/example/cartonmark/cartonmark/gs1/SsccDigits", "number", "J", (.long q16))]] (Ret (some (.int (0 : Int32))) [ob a41 "com/example/cartonmark/cartonmark/gs1/Sscc" [("com/example/cartonmark/cartonmark/gs1/SsccDigits", "number", "J", (.long q16))]]) := by
  refine Met.of pn30 (ls := #[.val (.ref a41), .val .null]) (fun m => by first | (simp [entryFrame, mkF, argsToLocals, Value.category, B30_101]; done) | rfl) ?_
  show Go B30_101 Z a0 h0 _ 0 0 [ob a41 "com/example/cartonmark/cartonmark/gs1/Sscc" [("com/example/cartonmark/cartonmark/gs1/SsccDigits", "number", "J", (.long q16))]] 0 #[.val (.ref a41), .val .null] []
  refine go_aloadN 1 rfl d30_0 rfl rfl ?_
  refine go_inst0 4 rfl d30_1 rfl ?_
  show Go B30_101 Z a0 h0 _ 0 0 [ob a41 "com/example/cartonmark/cartonmark/gs1/Sscc" [("com/example/cartonmark/cartonmark/gs1/SsccDigits", "number", "J", (.long q16))]] 4 #[.val (.ref a41), .val .null] [(.int (0 : Int32))]
  refine go_if 26 7 rfl (by decide) rfl d30_4 rfl (fun (hc4 : (0 : Int) = 0) => ?_) (fun (hc4 : ¬ ((0 : Int) = 0)) => absurd hc4 (by decide))
  refine go_iconst (0 : Int32) 27 rfl d30_26 rfl ?_
  exact go_ireturn d30_27 rfl (Or.inr (Or.inl rfl)) rfl rfl (by decide) (by decide) ⟨rfl, rfl⟩
def B30_103 : Bdy := (⟨"com/example/cartonmark/cartonmark/gs1/Sscc", "equals", "(Ljava/lang/Object;)Z"⟩, prog_13_method_13_code, 2, (some .boolean), ({ frames := 0, cells := 0, slots := 0, locals := 0 } : Room))
theorem mt103 (Z : State) (a0 : Array Value) (hw : ∀ d ∈ tables_1, d.before a0 Z = true) (h0 : Heap) (zc : Int32) (r99 : Value) (cl : Cell) (pv : Addr) (SS : Sts Z h0 zc r99 cl pv) (a44 : Addr) (q17 : Int64) (a41 : Addr) (q16 : Int64) :
    Met B30_103 Z a0 h0 #[(.ref a41), (.ref a44)] [ob a44 "com/example/cartonmark/cartonmark/gs1/Sscc" [("com/example/cartonmark/cartonmark/gs1/SsccDigits", "number", "J", (.long q17))], ob a41 "com/example/cartonmark/cartonmark/gs1/Sscc" [("com/example/cartonmark/cartonmark/gs1/SsccDigits", "number", "J", (.long q16))]] (Qz (q17.toInt = q16.toInt) [ob a44 "com/example/cartonmark/cartonmark/gs1/Sscc" [("com/example/cartonmark/cartonmark/gs1/SsccDigits", "number", "J", (.long q17))], ob a41 "com/example/cartonmark/cartonmark/gs1/Sscc" [("com/example/cartonmark/cartonmark/gs1/SsccDigits", "number", "J", (.long q16))]]) := by
  refine Met.of pn30 (ls := #[.val (.ref a41), .val (.ref a44)]) (fun m => by first | (simp [entryFrame, mkF, argsToLocals, Value.category, B30_103]; done) | rfl) ?_
  show Go B30_103 Z a0 h0 _ 0 0 [ob a44 "com/example/cartonmark/cartonmark/gs1/Sscc" [("com/example/cartonmark/cartonmark/gs1/SsccDigits", "number", "J", (.long q17))], ob a41 "com/example/cartonmark/cartonmark/gs1/Sscc" [("com/example/cartonmark/cartonmark/gs1/SsccDigits", "number", "J", (.long q16))]] 0 #[.val (.ref a41), .val (.ref a44)] []
  refine go_aloadN 1 rfl d30_0 rfl rfl ?_
  refine go_instY 4 rfl d30_1 rfl (wd hw 169 rfl) (fun h M => Ins.self (Mo.exa (i := 0) rfl h M)) ?_
  show Go B30_103 Z a0 h0 _ 0 0 [ob a44 "com/example/cartonmark/cartonmark/gs1/Sscc" [("com/example/cartonmark/cartonmark/gs1/SsccDigits", "number", "J", (.long q17))], ob a41 "com/example/cartonmark/cartonmark/gs1/Sscc" [("com/example/cartonmark/cartonmark/gs1/SsccDigits", "number", "J", (.long q16))]] 4 #[.val (.ref a41), .val (.ref a44)] [(.int (1 : Int32))]
  refine go_if 26 7 rfl (by decide) rfl d30_4 rfl (fun (hc4 : (1 : Int) = 0) => absurd hc4 (by decide)) (fun (hc4 : ¬ ((1 : Int) = 0)) => ?_)
  refine go_aloadN 8 rfl d30_7 rfl rfl ?_
  refine go_cast 11 rfl d30_8 rfl (wd hw 169 rfl) (fun h M => Ins.self (Mo.exa (i := 0) rfl h M)) ?_
  refine go_getG 14 rfl d30_11 rfl (wd hw 171 rfl) (Via.of (wd hw 172 rfl)) (fun h M => ((M.at (i := 0) rfl).2.1 _ (List.mem_of_getElem? (i := 0) rfl)).1) ?_
  show Go B30_103 Z a0 h0 _ 0 0 [ob a44 "com/example/cartonmark/cartonmark/gs1/Sscc" [("com/example/cartonmark/cartonmark/gs1/SsccDigits", "number", "J", (.long q17))], ob a41 "com/example/cartonmark/cartonmark/gs1/Sscc" [("com/example/cartonmark/cartonmark/gs1/SsccDigits", "number", "J", (.long q16))]] 14 #[.val (.ref a41), .val (.ref a44)] [(.long q17)]
  refine go_aloadN 15 rfl d30_14 rfl rfl ?_
  refine go_getG 18 rfl d30_15 rfl (wd hw 171 rfl) (Via.of (wd hw 172 rfl)) (fun h M => ((M.at (i := 1) rfl).2.1 _ (List.mem_of_getElem? (i := 0) rfl)).1) ?_
  show Go B30_103 Z a0 h0 _ 0 0 [ob a44 "com/example/cartonmark/cartonmark/gs1/Sscc" [("com/example/cartonmark/cartonmark/gs1/SsccDigits", "number", "J", (.long q17))], ob a41 "com/example/cartonmark/cartonmark/gs1/Sscc" [("com/example/cartonmark/cartonmark/gs1/SsccDigits", "number", "J", (.long q16))]] 18 #[.val (.ref a41), .val (.ref a44)] [(.long q16), (.long q17)]
  refine go_lcmp 19 rfl d30_18 rfl ?_
  refine go_if 26 22 rfl (by decide) rfl d30_19 rfl (fun (hc19_103 : (lcmpW q17 q16).toInt ≠ 0) => ?_) (fun (hc19_103 : ¬ ((lcmpW q17 q16).toInt ≠ 0)) => ?_)
  · refine go_iconst (0 : Int32) 27 rfl d30_26 rfl ?_
    exact go_ireturn d30_27 rfl (Or.inr (Or.inl rfl)) rfl rfl (by decide) (by decide) ⟨_, rfl, rfl, Or.inr ⟨rfl, by have := c_lcmp q17 q16; omega⟩⟩
  · refine go_iconst (1 : Int32) 23 rfl d30_22 rfl ?_
    refine go_goto 27 (by decide) rfl d30_23 ?_
    exact go_ireturn d30_27 rfl (Or.inr (Or.inl rfl)) rfl rfl (by decide) (by decide) ⟨_, rfl, rfl, Or.inl ⟨rfl, by have := c_lcmp q17 q16; omega⟩⟩
def B30_105 : Bdy := (⟨"com/example/cartonmark/cartonmark/gs1/Sscc", "equals", "(Ljava/lang/Object;)Z"⟩, prog_13_method_13_code, 2, (some .boolean), ({ frames := 0, cells := 0, slots := 0, locals := 0 } : Room))
theorem mt105 (Z : State) (a0 : Array Value) (hw : ∀ d ∈ tables_1, d.before a0 Z = true) (h0 : Heap) (zc : Int32) (r99 : Value) (cl : Cell) (pv : Addr) (SS : Sts Z h0 zc r99 cl pv) (a44 : Addr) (q17 : Int64) (a41 : Addr) (q16 : Int64) :
    Met B30_105 Z a0 h0 #[(.ref a41), (.ref a44)] [ob a44 "com/example/cartonmark/cartonmark/gs1/Sscc" [("com/example/cartonmark/cartonmark/gs1/SsccDigits", "number", "J", (.long q17))], ob a41 "com/example/cartonmark/cartonmark/gs1/Sscc" [("com/example/cartonmark/cartonmark/gs1/SsccDigits", "number", "J", (.long q16))]] (Qz (q17.toInt = q16.toInt) [ob a44 "com/example/cartonmark/cartonmark/gs1/Sscc" [("com/example/cartonmark/cartonmark/gs1/SsccDigits", "number", "J", (.long q17))], ob a41 "com/example/cartonmark/cartonmark/gs1/Sscc" [("com/example/cartonmark/cartonmark/gs1/SsccDigits", "number", "J", (.long q16))]]) := by
  refine Met.of pn30 (ls := #[.val (.ref a41), .val (.ref a44)]) (fun m => by first | (simp [entryFrame, mkF, argsToLocals, Value.category, B30_105]; done) | rfl) ?_
  show Go B30_105 Z a0 h0 _ 0 0 [ob a44 "com/example/cartonmark/cartonmark/gs1/Sscc" [("com/example/cartonmark/cartonmark/gs1/SsccDigits", "number", "J", (.long q17))], ob a41 "com/example/cartonmark/cartonmark/gs1/Sscc" [("com/example/cartonmark/cartonmark/gs1/SsccDigits", "number", "J", (.long q16))]] 0 #[.val (.ref a41), .val (.ref a44)] []
  refine go_aloadN 1 rfl d30_0 rfl rfl ?_
  refine go_instY 4 rfl d30_1 rfl (wd hw 169 rfl) (fun h M => Ins.self (Mo.exa (i := 0) rfl h M)) ?_
  show Go B30_105 Z a0 h0 _ 0 0 [ob a44 "com/example/cartonmark/cartonmark/gs1/Sscc" [("com/example/cartonmark/cartonmark/gs1/SsccDigits", "number", "J", (.long q17))], ob a41 "com/example/cartonmark/cartonmark/gs1/Sscc" [("com/example/cartonmark/cartonmark/gs1/SsccDigits", "number", "J", (.long q16))]] 4 #[.val (.ref a41), .val (.ref a44)] [(.int (1 : Int32))]
  refine go_if 26 7 rfl (by decide) rfl d30_4 rfl (fun (hc4 : (1 : Int) = 0) => absurd hc4 (by decide)) (fun (hc4 : ¬ ((1 : Int) = 0)) => ?_)
  refine go_aloadN 8 rfl d30_7 rfl rfl ?_
  refine go_cast 11 rfl d30_8 rfl (wd hw 169 rfl) (fun h M => Ins.self (Mo.exa (i := 0) rfl h M)) ?_
  refine go_getG 14 rfl d30_11 rfl (wd hw 171 rfl) (Via.of (wd hw 172 rfl)) (fun h M => ((M.at (i := 0) rfl).2.1 _ (List.mem_of_getElem? (i := 0) rfl)).1) ?_
  show Go B30_105 Z a0 h0 _ 0 0 [ob a44 "com/example/cartonmark/cartonmark/gs1/Sscc" [("com/example/cartonmark/cartonmark/gs1/SsccDigits", "number", "J", (.long q17))], ob a41 "com/example/cartonmark/cartonmark/gs1/Sscc" [("com/example/cartonmark/cartonmark/gs1/SsccDigits", "number", "J", (.long q16))]] 14 #[.val (.ref a41), .val (.ref a44)] [(.long q17)]
  refine go_aloadN 15 rfl d30_14 rfl rfl ?_
  refine go_getG 18 rfl d30_15 rfl (wd hw 171 rfl) (Via.of (wd hw 172 rfl)) (fun h M => ((M.at (i := 1) rfl).2.1 _ (List.mem_of_getElem? (i := 0) rfl)).1) ?_
  show Go B30_105 Z a0 h0 _ 0 0 [ob a44 "com/example/cartonmark/cartonmark/gs1/Sscc" [("com/example/cartonmark/cartonmark/gs1/SsccDigits", "number", "J", (.long q17))], ob a41 "com/example/cartonmark/cartonmark/gs1/Sscc" [("com/example/cartonmark/cartonmark/gs1/SsccDigits", "number", "J", (.long q16))]] 18 #[.val (.ref a41), .val (.ref a44)] [(.long q16), (.long q17)]
  refine go_lcmp 19 rfl d30_18 rfl ?_
  refine go_if 26 22 rfl (by decide) rfl d30_19 rfl (fun (hc19_105 : (lcmpW q17 q16).toInt ≠ 0) => ?_) (fun (hc19_105 : ¬ ((lcmpW q17 q16).toInt ≠ 0)) => ?_)
  · refine go_iconst (0 : Int32) 27 rfl d30_26 rfl ?_
    exact go_ireturn d30_27 rfl (Or.inr (Or.inl rfl)) rfl rfl (by decide) (by decide) ⟨_, rfl, rfl, Or.inr ⟨rfl, by have := c_lcmp q17 q16; omega⟩⟩
  · refine go_iconst (1 : Int32) 23 rfl d30_22 rfl ?_
    refine go_goto 27 (by decide) rfl d30_23 ?_
    exact go_ireturn d30_27 rfl (Or.inr (Or.inl rfl)) rfl rfl (by decide) (by decide) ⟨_, rfl, rfl, Or.inl ⟨rfl, by have := c_lcmp q17 q16; omega⟩⟩
theorem law_met (Z : State) (a0 : Array Value) (hw : ∀ d ∈ tables_1, d.before a0 Z = true) (h0 : Heap) (q1 q2 : Int64) (p1 : Int32) (zc : Int32) (r99 : Value) (cl : Cell) (pv : Addr) (SS : Sts Z h0 zc r99 cl pv) :
    MetW (fun _ => True) B0 Z a0 h0 #[(.long q1), (.long q2), (.int p1)] [] (fun v _ => v = some (.int 1)) := by
  refine MetW.of pn0 (ls := #[.val (.long q1), .second, .val (.long q2), .second, .val (.int p1), .unset, .unset, .unset, .unset, .unset, .unset, .unset, .unset, .unset, .unset, .unset, .unset, .unset, .unset, .unset, .unset, .unset, .unset, .unset, .unset, .unset]) (fun m => by first | (simp [entryFrame, mkF, argsToLocals, Value.category, B0, maxLocals]; done) | rfl) ?_
  show GoW (fun _ => True) B0 Z a0 h0 _ 0 0 [] 0 #[.val (.long q1), .second, .val (.long q2), .second, .val (.int p1), .unset, .unset, .unset, .unset, .unset, .unset, .unset, .unset, .unset, .unset, .unset, .unset, .unset, .unset, .unset, .unset, .unset, .unset, .unset, .unset, .unset] []
  refine gw_lloadN 1 rfl at_0 rfl ?_
  refine gw_ldc2 (v := (9223372036854775807 : Int64)) 4 rfl at_1 (wd hw 0 rfl) ?_
  refine gw_land 5 rfl at_4 rfl ?_
  refine gw_ldc2 (v := (100000000000000000 : Int64)) 8 rfl at_5 (wd hw 1 rfl) ?_
  refine gw_lrem 9 rfl at_8 rfl (by decide) ?_
  refine gw_lstore #[.val (.long q1), .second, .val (.long q2), .second, .val (.int p1), .val (.long ((q1 &&& (9223372036854775807 : Int64)) % (100000000000000000 : Int64))), .second, .unset, .unset, .unset, .unset, .unset, .unset, .unset, .unset, .unset, .unset, .unset, .unset, .unset, .unset, .unset, .unset, .unset, .unset, .unset] 11 rfl at_9 rfl rfl ?_
  have h3 := bodyR q1
  generalize e3 : ((q1 &&& (9223372036854775807 : Int64)) % (100000000000000000 : Int64)) = q3 at h3 ⊢
  refine gw_lloadN 12 rfl at_11 rfl ?_
  refine gw_ldc2 (v := (9223372036854775807 : Int64)) 15 rfl at_12 (wd hw 0 rfl) ?_
  refine gw_land 16 rfl at_15 rfl ?_
  refine gw_ldc2 (v := (100000000000000000 : Int64)) 19 rfl at_16 (wd hw 1 rfl) ?_
  refine gw_lrem 20 rfl at_19 rfl (by decide) ?_
  refine gw_lstore #[.val (.long q1), .second, .val (.long q2), .second, .val (.int p1), .val (.long q3), .second, .val (.long ((q2 &&& (9223372036854775807 : Int64)) % (100000000000000000 : Int64))), .second, .unset, .unset, .unset, .unset, .unset, .unset, .unset, .unset, .unset, .unset, .unset, .unset, .unset, .unset, .unset, .unset, .unset] 22 rfl at_20 rfl rfl ?_
  have h4 := bodyR q2
  generalize e4 : ((q2 &&& (9223372036854775807 : Int64)) % (100000000000000000 : Int64)) = q4 at h4 ⊢
  refine gw_iload 24 rfl at_22 rfl ?_
  refine gw_iconst (3 : Int32) 25 rfl at_24 rfl ?_
  refine gw_iand 26 rfl at_25 rfl ?_
  refine gw_istore #[.val (.long q1), .second, .val (.long q2), .second, .val (.int p1), .val (.long q3), .second, .val (.long q4), .second, .val (.int (p1 &&& (3 : Int32))), .unset, .unset, .unset, .unset, .unset, .unset, .unset, .unset, .unset, .unset, .unset, .unset, .unset, .unset, .unset, .unset] 28 rfl at_26 rfl rfl ?_
  have jn : ∀ q5 : Int64, (0 ≤ q5.toInt ∧ q5.toInt < 100000000000000000) → GoW (fun _ => True) B0 Z a0 h0 (fun v _ => v = some (.int 1)) 0 0 [] 64 #[.val (.long q1), .second, .val (.long q2), .second, .val (.int p1), .val (.long q3), .second, .val (.long q4), .second, .val (.int (p1 &&& (3 : Int32))), .val (.long q5), .second, .unset, .unset, .unset, .unset, .unset, .unset, .unset, .unset, .unset, .unset, .unset, .unset, .unset, .unset] [] := by
    intro q5 h5
    refine gw_ldc2 (v := (10 : Int64)) 67 rfl at_64 (wd hw 2 rfl) ?_
    refine gw_lload 69 rfl at_67 rfl ?_
    refine gw_lmul 70 rfl at_69 rfl ?_
    refine gw_lload 72 rfl at_70 rfl ?_
    refine gw_callS 75 rfl at_72 (wd hw 3 rfl) (wd hw 4 rfl) (wd hw 5 rfl) (wd hw 6 rfl) (by decide) (m_check Z a0 hw h0 [] q3 h3.1) (argsL := [(.long q3)]) (rest := [(.long ((10 : Int64) * q3))]) rfl (ps := [.long]) (by decide +kernel) rfl rfl 2 rfl (by decide) (by decide) (by decide) (by decide) ?_
    rintro _ _ ⟨z60, rfl, rfl, k60⟩
    show GoW (fun _ => True) B0 Z a0 h0 _ 0 0 [] 75 #[.val (.long q1), .second, .val (.long q2), .second, .val (.int p1), .val (.long q3), .second, .val (.long q4), .second, .val (.int (p1 &&& (3 : Int32))), .val (.long q5), .second, .unset, .unset, .unset, .unset, .unset, .unset, .unset, .unset, .unset, .unset, .unset, .unset, .unset, .unset] [(.int z60), (.long ((10 : Int64) * q3))]
    refine gw_i2l 76 rfl at_75 rfl ?_
    refine gw_ladd 77 rfl at_76 rfl ?_
    refine gw_lstore #[.val (.long q1), .second, .val (.long q2), .second, .val (.int p1), .val (.long q3), .second, .val (.long q4), .second, .val (.int (p1 &&& (3 : Int32))), .val (.long q5), .second, .val (.long (((10 : Int64) * q3) + (z60.toInt64))), .second, .unset, .unset, .unset, .unset, .unset, .unset, .unset, .unset, .unset, .unset, .unset, .unset] 79 rfl at_77 rfl rfl ?_
    have n6 := numR q3 z60 h3 k60
    generalize en6 : (((10 : Int64) * q3) + (z60.toInt64)) = q6 at n6 ⊢
    refine gw_ldc2 (v := (10 : Int64)) 82 rfl at_79 (wd hw 2 rfl) ?_
    refine gw_lload 84 rfl at_82 rfl ?_
    refine gw_lmul 85 rfl at_84 rfl ?_
    refine gw_lload 87 rfl at_85 rfl ?_
    refine gw_callS 90 rfl at_87 (wd hw 3 rfl) (wd hw 4 rfl) (wd hw 5 rfl) (wd hw 6 rfl) (by decide) (m_check Z a0 hw h0 [] q5 h5.1) (argsL := [(.long q5)]) (rest := [(.long ((10 : Int64) * q5))]) rfl (ps := [.long]) (by decide +kernel) rfl rfl 2 rfl (by decide) (by decide) (by decide) (by decide) ?_
    rintro _ _ ⟨z61, rfl, rfl, k61⟩
    show GoW (fun _ => True) B0 Z a0 h0 _ 0 0 [] 90 #[.val (.long q1), .second, .val (.long q2), .second, .val (.int p1), .val (.long q3), .second, .val (.long q4), .second, .val (.int (p1 &&& (3 : Int32))), .val (.long q5), .second, .val (.long q6), .second, .unset, .unset, .unset, .unset, .unset, .unset, .unset, .unset, .unset, .unset, .unset, .unset] [(.int z61), (.long ((10 : Int64) * q5))]
    refine gw_i2l 91 rfl at_90 rfl ?_
    refine gw_ladd 92 rfl at_91 rfl ?_
    refine gw_lstore #[.val (.long q1), .second, .val (.long q2), .second, .val (.int p1), .val (.long q3), .second, .val (.long q4), .second, .val (.int (p1 &&& (3 : Int32))), .val (.long q5), .second, .val (.long q6), .second, .val (.long (((10 : Int64) * q5) + (z61.toInt64))), .second, .unset, .unset, .unset, .unset, .unset, .unset, .unset, .unset, .unset, .unset] 94 rfl at_92 rfl rfl ?_
    have n7 := numR q5 z61 h5 k61
    generalize en7 : (((10 : Int64) * q5) + (z61.toInt64)) = q7 at n7 ⊢
    refine gw_lload 96 rfl at_94 rfl ?_
    refine gw_callS 99 rfl at_96 (wd hw 26 rfl) (wd hw 27 rfl) (wd hw 5 rfl) (wd hw 28 rfl) (by decide) (m_chars Z a0 hw h0 q6 n6.2.1) (argsL := [(.long q6)]) (rest := []) rfl (ps := [.long]) (by decide +kernel) rfl rfl 0 rfl (by decide) (by decide) (by decide) (by decide) ?_
    rintro _ _ ⟨a30, z0, z1, z2, z3, z4, z5, z6, z7, z8, z9, z10, z11, z12, z13, z14, z15, z16, z17, D6, rfl, rfl⟩
    show GoW (fun _ => True) B0 Z a0 h0 _ 1 18 [ar a30 .char [(.int z0), (.int z1), (.int z2), (.int z3), (.int z4), (.int z5), (.int z6), (.int z7), (.int z8), (.int z9), (.int z10), (.int z11), (.int z12), (.int z13), (.int z14), (.int z15), (.int z16), (.int z17)]] 99 #[.val (.long q1), .second, .val (.long q2), .second, .val (.int p1), .val (.long q3), .second, .val (.long q4), .second, .val (.int (p1 &&& (3 : Int32))), .val (.long q5), .second, .val (.long q6), .second, .val (.long q7), .second, .unset, .unset, .unset, .unset, .unset, .unset, .unset, .unset, .unset, .unset] [(.ref a30)]
    have G6 := D6.rg
    have C6 := hcOf q3.toInt _ z0 z1 z2 z3 z4 z5 z6 z7 z8 z9 z10 z11 z12 z13 z14 z15 z16 z17 (by rw [← n6.1]; exact D6) h3.1 rfl
    refine gw_astore #[.val (.long q1), .second, .val (.long q2), .second, .val (.int p1), .val (.long q3), .second, .val (.long q4), .second, .val (.int (p1 &&& (3 : Int32))), .val (.long q5), .second, .val (.long q6), .second, .val (.long q7), .second, .val (.ref a30), .unset, .unset, .unset, .unset, .unset, .unset, .unset, .unset, .unset] 101 rfl at_99 rfl rfl rfl ?_
    refine gw_lload 103 rfl at_101 rfl ?_
    refine gw_callS 106 rfl at_103 (wd hw 26 rfl) (wd hw 27 rfl) (wd hw 5 rfl) (wd hw 28 rfl) (by decide) (Met.frame [ar a30 .char [(.int z0), (.int z1), (.int z2), (.int z3), (.int z4), (.int z5), (.int z6), (.int z7), (.int z8), (.int z9), (.int z10), (.int z11), (.int z12), (.int z13), (.int z14), (.int z15), (.int z16), (.int z17)]] (m_chars Z a0 hw h0 q7 n7.2.1)) (argsL := [(.long q7)]) (rest := []) rfl (ps := [.long]) (by decide +kernel) rfl rfl 0 rfl (by decide) (by decide) (by decide) (by decide) ?_
    rintro _ _ ⟨_, ⟨a31, z20, z21, z22, z23, z24, z25, z26, z27, z28, z29, z30, z31, z32, z33, z34, z35, z36, z37, D7, rfl, rfl⟩, rfl⟩
    show GoW (fun _ => True) B0 Z a0 h0 _ 2 36 (mem25 a31 z20 z21 z22 z23 z24 z25 z26 z27 z28 z29 z30 z31 z32 z33 z34 z35 z36 z37 a30 z0 z1 z2 z3 z4 z5 z6 z7 z8 z9 z10 z11 z12 z13 z14 z15 z16 z17) 106 #[.val (.long q1), .second, .val (.long q2), .second, .val (.int p1), .val (.long q3), .second, .val (.long q4), .second, .val (.int (p1 &&& (3 : Int32))), .val (.long q5), .second, .val (.long q6), .second, .val (.long q7), .second, .val (.ref a30), .unset, .unset, .unset, .unset, .unset, .unset, .unset, .unset, .unset] [(.ref a31)]
    have G7 := D7.rg
    have C7 := hcOf q5.toInt _ z20 z21 z22 z23 z24 z25 z26 z27 z28 z29 z30 z31 z32 z33 z34 z35 z36 z37 (by rw [← n7.1]; exact D7) h5.1 rfl
    refine gw_astore #[.val (.long q1), .second, .val (.long q2), .second, .val (.int p1), .val (.long q3), .second, .val (.long q4), .second, .val (.int (p1 &&& (3 : Int32))), .val (.long q5), .second, .val (.long q6), .second, .val (.long q7), .second, .val (.ref a30), .val (.ref a31), .unset, .unset, .unset, .unset, .unset, .unset, .unset, .unset] 108 rfl at_106 rfl rfl rfl ?_
    refine gw_new 111 rfl at_108 (wd hw 30 rfl) (wd hw 31 rfl) (wd hw 32 rfl) (by decide) (by decide) [("com/example/cartonmark/cartonmark/gs1/SsccDigits", "number", "J", (.long (0 : Int64)))] ⟨⟨Or.inl (wd hw 148 rfl), _, rfl, rfl⟩, trivial⟩ (by decide) (fun a41 => ?_)
    show GoW (fun _ => True) B0 Z a0 h0 _ 3 37 (mem26 a31 z20 z21 z22 z23 z24 z25 z26 z27 z28 z29 z30 z31 z32 z33 z34 z35 z36 z37 a30 z0 z1 z2 z3 z4 z5 z6 z7 z8 z9 z10 z11 z12 z13 z14 z15 z16 z17 a41) 111 #[.val (.long q1), .second, .val (.long q2), .second, .val (.int p1), .val (.long q3), .second, .val (.long q4), .second, .val (.int (p1 &&& (3 : Int32))), .val (.long q5), .second, .val (.long q6), .second, .val (.long q7), .second, .val (.ref a30), .val (.ref a31), .unset, .unset, .unset, .unset, .unset, .unset, .unset, .unset] [(.ref a41)]
    refine gw_dup 112 rfl at_111 rfl rfl ?_
    refine gw_new 115 rfl at_112 (wd hw 33 rfl) (wd hw 34 rfl) (wd hw 35 rfl) (by decide) (by decide) [("java/lang/String", "coder", "B", (.int (0 : Int32))), ("java/lang/String", "value", "[B", .null)] ⟨⟨Or.inr (wd hw 59 rfl), _, rfl, rfl⟩, ⟨⟨Or.inr (wd hw 61 rfl), _, rfl, rfl⟩, trivial⟩⟩ (by decide) (fun a42 => ?_)
    show GoW (fun _ => True) B0 Z a0 h0 _ 4 41 (mem27 a31 z20 z21 z22 z23 z24 z25 z26 z27 z28 z29 z30 z31 z32 z33 z34 z35 z36 z37 a30 z0 z1 z2 z3 z4 z5 z6 z7 z8 z9 z10 z11 z12 z13 z14 z15 z16 z17 a41 a42) 115 #[.val (.long q1), .second, .val (.long q2), .second, .val (.int p1), .val (.long q3), .second, .val (.long q4), .second, .val (.int (p1 &&& (3 : Int32))), .val (.long q5), .second, .val (.long q6), .second, .val (.long q7), .second, .val (.ref a30), .val (.ref a31), .unset, .unset, .unset, .unset, .unset, .unset, .unset, .unset] [(.ref a42), (.ref a41), (.ref a41)]
    refine gw_dup 116 rfl at_115 rfl rfl ?_
    refine gw_aload 118 rfl at_116 rfl rfl ?_
    refine gw_newStr [z0, z1, z2, z3, z4, z5, z6, z7, z8, z9, z10, z11, z12, z13, z14, z15, z16, z17] 3 1 18 121 rfl at_118 rfl rfl 1 0 rfl rfl rfl rfl (by decide) (by decide) (by
        intro c hc
        simp only [List.mem_cons, List.not_mem_nil, or_false] at hc
        rcases hc with rfl | rfl | rfl | rfl | rfl | rfl | rfl | rfl | rfl | rfl | rfl | rfl | rfl | rfl | rfl | rfl | rfl | rfl
        · exact (by have := rg0 G6; omega)
        · exact (by have := rg1 G6; omega)
        · exact (by have := rg2 G6; omega)
        · exact (by have := rg3 G6; omega)
        · exact (by have := rg4 G6; omega)
        · exact (by have := rg5 G6; omega)
        · exact (by have := rg6 G6; omega)
        · exact (by have := rg7 G6; omega)
        · exact (by have := rg8 G6; omega)
        · exact (by have := rg9 G6; omega)
        · exact (by have := rg10 G6; omega)
        · exact (by have := rg11 G6; omega)
        · exact (by have := rg12 G6; omega)
        · exact (by have := rg13 G6; omega)
        · exact (by have := rg14 G6; omega)
        · exact (by have := rg15 G6; omega)
        · exact (by have := rg16 G6; omega)
        · exact (by have := rg17 G6; omega)) SS.1 SS.2.1 (fun d hd => hw d (wstr d hd)) (wd hw 34 rfl) (wd hw 36 rfl) (wd hw 37 rfl) (wd hw 38 rfl) rfl 3 rfl (by decide) (by decide) (by decide) (by decide) (fun a43 => ?_)
    show GoW (fun _ => True) B0 Z a0 h0 _ 5 59 (mem28 a31 z20 z21 z22 z23 z24 z25 z26 z27 z28 z29 z30 z31 z32 z33 z34 z35 z36 z37 a30 z0 z1 z2 z3 z4 z5 z6 z7 z8 z9 z10 z11 z12 z13 z14 z15 z16 z17 a41 a42 a43) 121 #[.val (.long q1), .second, .val (.long q2), .second, .val (.int p1), .val (.long q3), .second, .val (.long q4), .second, .val (.int (p1 &&& (3 : Int32))), .val (.long q5), .second, .val (.long q6), .second, .val (.long q7), .second, .val (.ref a30), .val (.ref a31), .unset, .unset, .unset, .unset, .unset, .unset, .unset, .unset] [(.ref a42), (.ref a41), (.ref a41)]
    refine GoW.front 1 (Nat.le_of_ble_eq_true rfl) ?_
    refine GoW.front 1 (Nat.le_of_ble_eq_true rfl) ?_
    refine GoW.front 4 (Nat.le_of_ble_eq_true rfl) ?_
    refine GoW.front 4 (Nat.le_of_ble_eq_true rfl) ?_
    refine GoW.front 4 (Nat.le_of_ble_eq_true rfl) ?_
    show GoW (fun _ => True) B0 Z a0 h0 _ 5 59 (mem29 a41 a42 a43 z0 z1 z2 z3 z4 z5 z6 z7 z8 z9 z10 z11 z12 z13 z14 z15 z16 z17 a31 z20 z21 z22 z23 z24 z25 z26 z27 z28 z29 z30 z31 z32 z33 z34 z35 z36 z37 a30) 121 #[.val (.long q1), .second, .val (.long q2), .second, .val (.int p1), .val (.long q3), .second, .val (.long q4), .second, .val (.int (p1 &&& (3 : Int32))), .val (.long q5), .second, .val (.long q6), .second, .val (.long q7), .second, .val (.ref a30), .val (.ref a31), .unset, .unset, .unset, .unset, .unset, .unset, .unset, .unset] [(.ref a42), (.ref a41), (.ref a41)]
    refine gw_wcallI (fun _ _ _ _ _ => trivial) 124 rfl at_121 rfl (wd hw 62 rfl) (wd hw 63 rfl) (wd hw 32 rfl) (wd hw 64 rfl) (by decide) (MetW.frame (mem25 a31 z20 z21 z22 z23 z24 z25 z26 z27 z28 z29 z30 z31 z32 z33 z34 z35 z36 z37 a30 z0 z1 z2 z3 z4 z5 z6 z7 z8 z9 z10 z11 z12 z13 z14 z15 z16 z17) (mw_init Z a0 hw h0 zc r99 cl pv SS z0 z1 z2 z3 z4 z5 z6 z7 z8 z9 z10 z11 z12 z13 z14 z15 z16 z17 G6 C6 q6.toInt n6.2 D6 a42 a43 a41)) (argsL := [(.ref a42)]) (rest := [(.ref a41)]) rfl (ret := none) (ps := [(.object "java/lang/String")]) (by decide +kernel) rfl rfl 1 rfl (by decide) (by decide) (by decide) (by decide) ?_
    rintro _ _ ⟨_, ⟨q16, hq16, rfl, rfl⟩, rfl⟩
    show GoW (fun _ => True) B0 Z a0 h0 _ 7 79 (mem30 a41 q16 a42 a43 z0 z1 z2 z3 z4 z5 z6 z7 z8 z9 z10 z11 z12 z13 z14 z15 z16 z17 a31 z20 z21 z22 z23 z24 z25 z26 z27 z28 z29 z30 z31 z32 z33 z34 z35 z36 z37 a30) 124 #[.val (.long q1), .second, .val (.long q2), .second, .val (.int p1), .val (.long q3), .second, .val (.long q4), .second, .val (.int (p1 &&& (3 : Int32))), .val (.long q5), .second, .val (.long q6), .second, .val (.long q7), .second, .val (.ref a30), .val (.ref a31), .unset, .unset, .unset, .unset, .unset, .unset, .unset, .unset] [(.ref a41)]
    refine gw_astore #[.val (.long q1), .second, .val (.long q2), .second, .val (.int p1), .val (.long q3), .second, .val (.long q4), .second, .val (.int (p1 &&& (3 : Int32))), .val (.long q5), .second, .val (.long q6), .second, .val (.long q7), .second, .val (.ref a30), .val (.ref a31), .val (.ref a41), .unset, .unset, .unset, .unset, .unset, .unset, .unset] 126 rfl at_124 rfl rfl rfl ?_
    refine gw_new 129 rfl at_126 (wd hw 30 rfl) (wd hw 31 rfl) (wd hw 32 rfl) (by decide) (by decide) [("com/example/cartonmark/cartonmark/gs1/SsccDigits", "number", "J", (.long (0 : Int64)))] ⟨⟨Or.inl (wd hw 148 rfl), _, rfl, rfl⟩, trivial⟩ (by decide) (fun a44 => ?_)
    show GoW (fun _ => True) B0 Z a0 h0 _ 8 80 (mem31 a41 q16 a42 a43 z0 z1 z2 z3 z4 z5 z6 z7 z8 z9 z10 z11 z12 z13 z14 z15 z16 z17 a31 z20 z21 z22 z23 z24 z25 z26 z27 z28 z29 z30 z31 z32 z33 z34 z35 z36 z37 a30 a44) 129 #[.val (.long q1), .second, .val (.long q2), .second, .val (.int p1), .val (.long q3), .second, .val (.long q4), .second, .val (.int (p1 &&& (3 : Int32))), .val (.long q5), .second, .val (.long q6), .second, .val (.long q7), .second, .val (.ref a30), .val (.ref a31), .val (.ref a41), .unset, .unset, .unset, .unset, .unset, .unset, .unset] [(.ref a44)]
    refine gw_dup 130 rfl at_129 rfl rfl ?_
    refine gw_new 133 rfl at_130 (wd hw 33 rfl) (wd hw 34 rfl) (wd hw 35 rfl) (by decide) (by decide) [("java/lang/String", "coder", "B", (.int (0 : Int32))), ("java/lang/String", "value", "[B", .null)] ⟨⟨Or.inr (wd hw 59 rfl), _, rfl, rfl⟩, ⟨⟨Or.inr (wd hw 61 rfl), _, rfl, rfl⟩, trivial⟩⟩ (by decide) (fun a45 => ?_)
    show GoW (fun _ => True) B0 Z a0 h0 _ 9 84 (mem32 a41 q16 a42 a43 z0 z1 z2 z3 z4 z5 z6 z7 z8 z9 z10 z11 z12 z13 z14 z15 z16 z17 a31 z20 z21 z22 z23 z24 z25 z26 z27 z28 z29 z30 z31 z32 z33 z34 z35 z36 z37 a30 a44 a45) 133 #[.val (.long q1), .second, .val (.long q2), .second, .val (.int p1), .val (.long q3), .second, .val (.long q4), .second, .val (.int (p1 &&& (3 : Int32))), .val (.long q5), .second, .val (.long q6), .second, .val (.long q7), .second, .val (.ref a30), .val (.ref a31), .val (.ref a41), .unset, .unset, .unset, .unset, .unset, .unset, .unset] [(.ref a45), (.ref a44), (.ref a44)]
    refine gw_dup 134 rfl at_133 rfl rfl ?_
    refine gw_aload 136 rfl at_134 rfl rfl ?_
    refine gw_newStr [z20, z21, z22, z23, z24, z25, z26, z27, z28, z29, z30, z31, z32, z33, z34, z35, z36, z37] 6 3 18 139 rfl at_136 rfl rfl 1 0 rfl rfl rfl rfl (by decide) (by decide) (by
        intro c hc
        simp only [List.mem_cons, List.not_mem_nil, or_false] at hc
        rcases hc with rfl | rfl | rfl | rfl | rfl | rfl | rfl | rfl | rfl | rfl | rfl | rfl | rfl | rfl | rfl | rfl | rfl | rfl
        · exact (by have := rg0 G7; omega)
        · exact (by have := rg1 G7; omega)
        · exact (by have := rg2 G7; omega)
        · exact (by have := rg3 G7; omega)
        · exact (by have := rg4 G7; omega)
        · exact (by have := rg5 G7; omega)
        · exact (by have := rg6 G7; omega)
        · exact (by have := rg7 G7; omega)
        · exact (by have := rg8 G7; omega)
        · exact (by have := rg9 G7; omega)
        · exact (by have := rg10 G7; omega)
        · exact (by have := rg11 G7; omega)
        · exact (by have := rg12 G7; omega)
        · exact (by have := rg13 G7; omega)
        · exact (by have := rg14 G7; omega)
        · exact (by have := rg15 G7; omega)
        · exact (by have := rg16 G7; omega)
        · exact (by have := rg17 G7; omega)) SS.1 SS.2.1 (fun d hd => hw d (wstr d hd)) (wd hw 34 rfl) (wd hw 36 rfl) (wd hw 37 rfl) (wd hw 38 rfl) rfl 3 rfl (by decide) (by decide) (by decide) (by decide) (fun a46 => ?_)
    show GoW (fun _ => True) B0 Z a0 h0 _ 10 102 (mem33 a41 q16 a42 a43 z0 z1 z2 z3 z4 z5 z6 z7 z8 z9 z10 z11 z12 z13 z14 z15 z16 z17 a31 z20 z21 z22 z23 z24 z25 z26 z27 z28 z29 z30 z31 z32 z33 z34 z35 z36 z37 a30 a44 a45 a46) 139 #[.val (.long q1), .second, .val (.long q2), .second, .val (.int p1), .val (.long q3), .second, .val (.long q4), .second, .val (.int (p1 &&& (3 : Int32))), .val (.long q5), .second, .val (.long q6), .second, .val (.long q7), .second, .val (.ref a30), .val (.ref a31), .val (.ref a41), .unset, .unset, .unset, .unset, .unset, .unset, .unset] [(.ref a45), (.ref a44), (.ref a44)]
    refine GoW.front 4 (Nat.le_of_ble_eq_true rfl) ?_
    refine GoW.front 4 (Nat.le_of_ble_eq_true rfl) ?_
    refine GoW.front 4 (Nat.le_of_ble_eq_true rfl) ?_
    refine GoW.front 4 (Nat.le_of_ble_eq_true rfl) ?_
    refine GoW.front 4 (Nat.le_of_ble_eq_true rfl) ?_
    refine GoW.front 7 (Nat.le_of_ble_eq_true rfl) ?_
    refine GoW.front 7 (Nat.le_of_ble_eq_true rfl) ?_
    refine GoW.front 7 (Nat.le_of_ble_eq_true rfl) ?_
    show GoW (fun _ => True) B0 Z a0 h0 _ 10 102 (mem34 a44 a45 a46 z20 z21 z22 z23 z24 z25 z26 z27 z28 z29 z30 z31 z32 z33 z34 z35 z36 z37 a41 q16 a42 a43 z0 z1 z2 z3 z4 z5 z6 z7 z8 z9 z10 z11 z12 z13 z14 z15 z16 z17 a31 a30) 139 #[.val (.long q1), .second, .val (.long q2), .second, .val (.int p1), .val (.long q3), .second, .val (.long q4), .second, .val (.int (p1 &&& (3 : Int32))), .val (.long q5), .second, .val (.long q6), .second, .val (.long q7), .second, .val (.ref a30), .val (.ref a31), .val (.ref a41), .unset, .unset, .unset, .unset, .unset, .unset, .unset] [(.ref a45), (.ref a44), (.ref a44)]
    refine gw_wcallI (fun _ _ _ _ _ => trivial) 142 rfl at_139 rfl (wd hw 62 rfl) (wd hw 63 rfl) (wd hw 32 rfl) (wd hw 64 rfl) (by decide) (MetW.frame (mem30 a41 q16 a42 a43 z0 z1 z2 z3 z4 z5 z6 z7 z8 z9 z10 z11 z12 z13 z14 z15 z16 z17 a31 z20 z21 z22 z23 z24 z25 z26 z27 z28 z29 z30 z31 z32 z33 z34 z35 z36 z37 a30) (mw_init Z a0 hw h0 zc r99 cl pv SS z20 z21 z22 z23 z24 z25 z26 z27 z28 z29 z30 z31 z32 z33 z34 z35 z36 z37 G7 C7 q7.toInt n7.2 D7 a45 a46 a44)) (argsL := [(.ref a45)]) (rest := [(.ref a44)]) rfl (ret := none) (ps := [(.object "java/lang/String")]) (by decide +kernel) rfl rfl 1 rfl (by decide) (by decide) (by decide) (by decide) ?_
    rintro _ _ ⟨_, ⟨q17, hq17, rfl, rfl⟩, rfl⟩
    show GoW (fun _ => True) B0 Z a0 h0 _ 12 122 (mem35 a44 q17 a45 a46 z20 z21 z22 z23 z24 z25 z26 z27 z28 z29 z30 z31 z32 z33 z34 z35 z36 z37 a41 q16 a42 a43 z0 z1 z2 z3 z4 z5 z6 z7 z8 z9 z10 z11 z12 z13 z14 z15 z16 z17 a31 a30) 142 #[.val (.long q1), .second, .val (.long q2), .second, .val (.int p1), .val (.long q3), .second, .val (.long q4), .second, .val (.int (p1 &&& (3 : Int32))), .val (.long q5), .second, .val (.long q6), .second, .val (.long q7), .second, .val (.ref a30), .val (.ref a31), .val (.ref a41), .unset, .unset, .unset, .unset, .unset, .unset, .unset] [(.ref a44)]
    refine gw_astore #[.val (.long q1), .second, .val (.long q2), .second, .val (.int p1), .val (.long q3), .second, .val (.long q4), .second, .val (.int (p1 &&& (3 : Int32))), .val (.long q5), .second, .val (.long q6), .second, .val (.long q7), .second, .val (.ref a30), .val (.ref a31), .val (.ref a41), .val (.ref a44), .unset, .unset, .unset, .unset, .unset, .unset] 144 rfl at_142 rfl rfl rfl ?_
    refine gw_new 147 rfl at_144 (wd hw 149 rfl) (wd hw 150 rfl) (wd hw 151 rfl) (by decide) (by decide) [("com/example/cartonmark/cartonmark/gs1/SsccDigits", "number", "J", (.long (0 : Int64)))] ⟨⟨Or.inl (wd hw 156 rfl), _, rfl, rfl⟩, trivial⟩ (by decide) (fun a47 => ?_)
    show GoW (fun _ => True) B0 Z a0 h0 _ 13 123 (mem36 a44 q17 a45 a46 z20 z21 z22 z23 z24 z25 z26 z27 z28 z29 z30 z31 z32 z33 z34 z35 z36 z37 a41 q16 a42 a43 z0 z1 z2 z3 z4 z5 z6 z7 z8 z9 z10 z11 z12 z13 z14 z15 z16 z17 a31 a30 a47) 147 #[.val (.long q1), .second, .val (.long q2), .second, .val (.int p1), .val (.long q3), .second, .val (.long q4), .second, .val (.int (p1 &&& (3 : Int32))), .val (.long q5), .second, .val (.long q6), .second, .val (.long q7), .second, .val (.ref a30), .val (.ref a31), .val (.ref a41), .val (.ref a44), .unset, .unset, .unset, .unset, .unset, .unset] [(.ref a47)]
    refine gw_dup 148 rfl at_147 rfl rfl ?_
    refine GoW.front 8 (Nat.le_of_ble_eq_true rfl) ?_
    show GoW (fun _ => True) B0 Z a0 h0 _ 13 123 (mem37 a47 a44 q17 a45 a46 z20 z21 z22 z23 z24 z25 z26 z27 z28 z29 z30 z31 z32 z33 z34 z35 z36 z37 a41 q16 a42 a43 z0 z1 z2 z3 z4 z5 z6 z7 z8 z9 z10 z11 z12 z13 z14 z15 z16 z17 a31 a30) 148 #[.val (.long q1), .second, .val (.long q2), .second, .val (.int p1), .val (.long q3), .second, .val (.long q4), .second, .val (.int (p1 &&& (3 : Int32))), .val (.long q5), .second, .val (.long q6), .second, .val (.long q7), .second, .val (.ref a30), .val (.ref a31), .val (.ref a41), .val (.ref a44), .unset, .unset, .unset, .unset, .unset, .unset] [(.ref a47), (.ref a47)]
    refine gw_callI 151 rfl at_148 rfl (wd hw 152 rfl) (wd hw 153 rfl) (wd hw 151 rfl) (wd hw 154 rfl) (by decide) (Met.frame (mem35 a44 q17 a45 a46 z20 z21 z22 z23 z24 z25 z26 z27 z28 z29 z30 z31 z32 z33 z34 z35 z36 z37 a41 q16 a42 a43 z0 z1 z2 z3 z4 z5 z6 z7 z8 z9 z10 z11 z12 z13 z14 z15 z16 z17 a31 a30) (mt90 Z a0 hw h0 zc r99 cl pv SS a47)) (argsL := []) (rest := [(.ref a47)]) rfl (ret := none) (ps := []) (by decide +kernel) rfl rfl 1 rfl (by decide) (by decide) (by decide) (by decide) ?_
    rintro _ _ ⟨_, ⟨rfl, rfl⟩, rfl⟩
    show GoW (fun _ => True) B0 Z a0 h0 _ 13 123 (mem37 a47 a44 q17 a45 a46 z20 z21 z22 z23 z24 z25 z26 z27 z28 z29 z30 z31 z32 z33 z34 z35 z36 z37 a41 q16 a42 a43 z0 z1 z2 z3 z4 z5 z6 z7 z8 z9 z10 z11 z12 z13 z14 z15 z16 z17 a31 a30) 151 #[.val (.long q1), .second, .val (.long q2), .second, .val (.int p1), .val (.long q3), .second, .val (.long q4), .second, .val (.int (p1 &&& (3 : Int32))), .val (.long q5), .second, .val (.long q6), .second, .val (.long q7), .second, .val (.ref a30), .val (.ref a31), .val (.ref a41), .val (.ref a44), .unset, .unset, .unset, .unset, .unset, .unset] [(.ref a47)]
    refine gw_astore #[.val (.long q1), .second, .val (.long q2), .second, .val (.int p1), .val (.long q3), .second, .val (.long q4), .second, .val (.int (p1 &&& (3 : Int32))), .val (.long q5), .second, .val (.long q6), .second, .val (.long q7), .second, .val (.ref a30), .val (.ref a31), .val (.ref a41), .val (.ref a44), .val (.ref a47), .unset, .unset, .unset, .unset, .unset] 153 rfl at_151 rfl rfl rfl ?_
    refine gw_aload 155 rfl at_153 rfl rfl ?_
    refine gw_lload 157 rfl at_155 rfl ?_
    refine gw_callV 160 rfl at_157 (wd hw 157 rfl) (wd hw 158 rfl) (wd hw 160 rfl) (wd hw 159 rfl) (wd hw 151 rfl) (wd hw 161 rfl) (by decide) (Mo.exa (i := 0) rfl) (Met.frame (mem35 a44 q17 a45 a46 z20 z21 z22 z23 z24 z25 z26 z27 z28 z29 z30 z31 z32 z33 z34 z35 z36 z37 a41 q16 a42 a43 z0 z1 z2 z3 z4 z5 z6 z7 z8 z9 z10 z11 z12 z13 z14 z15 z16 z17 a31 a30) (mt92 Z a0 hw h0 zc r99 cl pv SS a47 q7)) (argsL := [(.long q7)]) (rest := []) rfl (ps := [.long]) (by decide +kernel) rfl rfl 0 rfl (by decide) (by decide) (by decide) (by decide) ?_
    rintro _ _ ⟨_, ⟨rfl, rfl⟩, rfl⟩
    show GoW (fun _ => True) B0 Z a0 h0 _ 13 123 (mem38 a47 q7 a44 q17 a45 a46 z20 z21 z22 z23 z24 z25 z26 z27 z28 z29 z30 z31 z32 z33 z34 z35 z36 z37 a41 q16 a42 a43 z0 z1 z2 z3 z4 z5 z6 z7 z8 z9 z10 z11 z12 z13 z14 z15 z16 z17 a31 a30) 160 #[.val (.long q1), .second, .val (.long q2), .second, .val (.int p1), .val (.long q3), .second, .val (.long q4), .second, .val (.int (p1 &&& (3 : Int32))), .val (.long q5), .second, .val (.long q6), .second, .val (.long q7), .second, .val (.ref a30), .val (.ref a31), .val (.ref a41), .val (.ref a44), .val (.ref a47), .unset, .unset, .unset, .unset, .unset] []
    refine gw_new 163 rfl at_160 (wd hw 33 rfl) (wd hw 34 rfl) (wd hw 35 rfl) (by decide) (by decide) [("java/lang/String", "coder", "B", (.int (0 : Int32))), ("java/lang/String", "value", "[B", .null)] ⟨⟨Or.inr (wd hw 59 rfl), _, rfl, rfl⟩, ⟨⟨Or.inr (wd hw 61 rfl), _, rfl, rfl⟩, trivial⟩⟩ (by decide) (fun a48 => ?_)
    show GoW (fun _ => True) B0 Z a0 h0 _ 14 127 (mem39 a47 q7 a44 q17 a45 a46 z20 z21 z22 z23 z24 z25 z26 z27 z28 z29 z30 z31 z32 z33 z34 z35 z36 z37 a41 q16 a42 a43 z0 z1 z2 z3 z4 z5 z6 z7 z8 z9 z10 z11 z12 z13 z14 z15 z16 z17 a31 a30 a48) 163 #[.val (.long q1), .second, .val (.long q2), .second, .val (.int p1), .val (.long q3), .second, .val (.long q4), .second, .val (.int (p1 &&& (3 : Int32))), .val (.long q5), .second, .val (.long q6), .second, .val (.long q7), .second, .val (.ref a30), .val (.ref a31), .val (.ref a41), .val (.ref a44), .val (.ref a47), .unset, .unset, .unset, .unset, .unset] [(.ref a48)]
    refine gw_dup 164 rfl at_163 rfl rfl ?_
    refine gw_aload 166 rfl at_164 rfl rfl ?_
    refine gw_newStr [z20, z21, z22, z23, z24, z25, z26, z27, z28, z29, z30, z31, z32, z33, z34, z35, z36, z37] 9 7 18 169 rfl at_166 rfl rfl 1 0 rfl rfl rfl rfl (by decide) (by decide) (by
        intro c hc
        simp only [List.mem_cons, List.not_mem_nil, or_false] at hc
        rcases hc with rfl | rfl | rfl | rfl | rfl | rfl | rfl | rfl | rfl | rfl | rfl | rfl | rfl | rfl | rfl | rfl | rfl | rfl
        · exact (by have := rg0 G7; omega)
        · exact (by have := rg1 G7; omega)
        · exact (by have := rg2 G7; omega)
        · exact (by have := rg3 G7; omega)
        · exact (by have := rg4 G7; omega)
        · exact (by have := rg5 G7; omega)
        · exact (by have := rg6 G7; omega)
        · exact (by have := rg7 G7; omega)
        · exact (by have := rg8 G7; omega)
        · exact (by have := rg9 G7; omega)
        · exact (by have := rg10 G7; omega)
        · exact (by have := rg11 G7; omega)
        · exact (by have := rg12 G7; omega)
        · exact (by have := rg13 G7; omega)
        · exact (by have := rg14 G7; omega)
        · exact (by have := rg15 G7; omega)
        · exact (by have := rg16 G7; omega)
        · exact (by have := rg17 G7; omega)) SS.1 SS.2.1 (fun d hd => hw d (wstr d hd)) (wd hw 34 rfl) (wd hw 36 rfl) (wd hw 37 rfl) (wd hw 38 rfl) rfl 1 rfl (by decide) (by decide) (by decide) (by decide) (fun a49 => ?_)
    show GoW (fun _ => True) B0 Z a0 h0 _ 15 145 (mem40 a47 q7 a44 q17 a45 a46 z20 z21 z22 z23 z24 z25 z26 z27 z28 z29 z30 z31 z32 z33 z34 z35 z36 z37 a41 q16 a42 a43 z0 z1 z2 z3 z4 z5 z6 z7 z8 z9 z10 z11 z12 z13 z14 z15 z16 z17 a31 a30 a48 a49) 169 #[.val (.long q1), .second, .val (.long q2), .second, .val (.int p1), .val (.long q3), .second, .val (.long q4), .second, .val (.int (p1 &&& (3 : Int32))), .val (.long q5), .second, .val (.long q6), .second, .val (.long q7), .second, .val (.ref a30), .val (.ref a31), .val (.ref a41), .val (.ref a44), .val (.ref a47), .unset, .unset, .unset, .unset, .unset] [(.ref a48)]
    refine gw_astore #[.val (.long q1), .second, .val (.long q2), .second, .val (.int p1), .val (.long q3), .second, .val (.long q4), .second, .val (.int (p1 &&& (3 : Int32))), .val (.long q5), .second, .val (.long q6), .second, .val (.long q7), .second, .val (.ref a30), .val (.ref a31), .val (.ref a41), .val (.ref a44), .val (.ref a47), .val (.ref a48), .unset, .unset, .unset, .unset] 171 rfl at_169 rfl rfl rfl ?_
    refine gw_iload 173 rfl at_171 rfl ?_
    refine gw_iconst (2 : Int32) 174 rfl at_173 rfl ?_
    refine gw_iushr 175 rfl at_174 rfl ?_
    refine gw_bipush (7 : Int32) 177 rfl at_175 rfl ?_
    refine gw_iand 178 rfl at_177 rfl ?_
    refine gw_iconst (5 : Int32) 179 rfl at_178 rfl ?_
    refine gw_irem 180 rfl at_179 rfl (by decide) ?_
    refine gw_istore #[.val (.long q1), .second, .val (.long q2), .second, .val (.int p1), .val (.long q3), .second, .val (.long q4), .second, .val (.int (p1 &&& (3 : Int32))), .val (.long q5), .second, .val (.long q6), .second, .val (.long q7), .second, .val (.ref a30), .val (.ref a31), .val (.ref a41), .val (.ref a44), .val (.ref a47), .val (.ref a48), .val (.int ((((p1.toUInt32 >>> ((2 : Int32) &&& 31).toUInt32).toInt32) &&& (7 : Int32)) % (5 : Int32))), .unset, .unset, .unset] 182 rfl at_180 rfl rfl ?_
    generalize e9 : ((((p1.toUInt32 >>> ((2 : Int32) &&& 31).toUInt32).toInt32) &&& (7 : Int32)) % (5 : Int32)) = p9
    clear e9
    refine gw_iload 184 rfl at_182 rfl ?_
    refine gw_if 209 187 rfl (by decide) rfl at_184 rfl (fun (hc184_92 : p9.toInt ≠ 0) => ?_) (fun (hc184_92 : ¬ (p9.toInt ≠ 0)) => ?_)
    · refine gw_iload 211 rfl at_209 rfl ?_
      refine gw_iconst (1 : Int32) 212 rfl at_211 rfl ?_
      refine gw_icmp 224 215 rfl (by decide) rfl at_212 rfl (fun (hc212_93 : p9.toInt ≠ (1 : Int)) => ?_) (fun (hc212_93 : ¬ (p9.toInt ≠ (1 : Int))) => ?_)
      · refine gw_iload 226 rfl at_224 rfl ?_
        refine gw_iconst (2 : Int32) 227 rfl at_226 rfl ?_
        refine gw_icmp 240 230 rfl (by decide) rfl at_227 rfl (fun (hc227_94 : p9.toInt ≠ (2 : Int)) => ?_) (fun (hc227_94 : ¬ (p9.toInt ≠ (2 : Int))) => ?_)
        · refine gw_iload 242 rfl at_240 rfl ?_
          refine gw_iconst (3 : Int32) 243 rfl at_242 rfl ?_
          refine gw_icmp 256 246 rfl (by decide) rfl at_243 rfl (fun (hc243_95 : p9.toInt ≠ (3 : Int)) => ?_) (fun (hc243_95 : ¬ (p9.toInt ≠ (3 : Int))) => ?_)
          · refine gw_aload 258 rfl at_256 rfl rfl ?_
            refine gw_astore #[.val (.long q1), .second, .val (.long q2), .second, .val (.int p1), .val (.long q3), .second, .val (.long q4), .second, .val (.int (p1 &&& (3 : Int32))), .val (.long q5), .second, .val (.long q6), .second, .val (.long q7), .second, .val (.ref a30), .val (.ref a31), .val (.ref a41), .val (.ref a44), .val (.ref a47), .val (.ref a48), .val (.int p9), .val (.ref a48), .unset, .unset] 260 rfl at_258 rfl rfl rfl ?_
            refine gw_iconst (0 : Int32) 261 rfl at_260 rfl ?_
            refine gw_istore #[.val (.long q1), .second, .val (.long q2), .second, .val (.int p1), .val (.long q3), .second, .val (.long q4), .second, .val (.int (p1 &&& (3 : Int32))), .val (.long q5), .second, .val (.long q6), .second, .val (.long q7), .second, .val (.ref a30), .val (.ref a31), .val (.ref a41), .val (.ref a44), .val (.ref a47), .val (.ref a48), .val (.int p9), .val (.ref a48), .val (.int (0 : Int32)), .unset] 263 rfl at_261 rfl rfl ?_
            refine gw_aload 265 rfl at_263 rfl rfl ?_
            refine gw_aload 267 rfl at_265 rfl rfl ?_
            refine GoW.front 10 (Nat.le_of_ble_eq_true rfl) ?_
            refine GoW.front 10 (Nat.le_of_ble_eq_true rfl) ?_
            refine GoW.front 6 (Nat.le_of_ble_eq_true rfl) ?_
            show GoW (fun _ => True) B0 Z a0 h0 _ 15 145 (mem41 a41 q16 a48 a49 z20 z21 z22 z23 z24 z25 z26 z27 z28 z29 z30 z31 z32 z33 z34 z35 z36 z37 a47 q7 a44 q17 a45 a46 a42 a43 z0 z1 z2 z3 z4 z5 z6 z7 z8 z9 z10 z11 z12 z13 z14 z15 z16 z17 a31 a30) 267 #[.val (.long q1), .second, .val (.long q2), .second, .val (.int p1), .val (.long q3), .second, .val (.long q4), .second, .val (.int (p1 &&& (3 : Int32))), .val (.long q5), .second, .val (.long q6), .second, .val (.long q7), .second, .val (.ref a30), .val (.ref a31), .val (.ref a41), .val (.ref a44), .val (.ref a47), .val (.ref a48), .val (.int p9), .val (.ref a48), .val (.int (0 : Int32)), .unset] [(.ref a48), (.ref a41)]
            refine gw_callV 270 rfl at_267 (wd hw 164 rfl) (wd hw 165 rfl) (wd hw 167 rfl) (wd hw 166 rfl) (wd hw 32 rfl) (wd hw 168 rfl) (by decide) (Mo.exa (i := 0) rfl) (Met.frame (mem42 a47 q7 a44 q17 a45 a46 z20 z21 z22 z23 z24 z25 z26 z27 z28 z29 z30 z31 z32 z33 z34 z35 z36 z37 a42 a43 z0 z1 z2 z3 z4 z5 z6 z7 z8 z9 z10 z11 z12 z13 z14 z15 z16 z17 a31 a30) (mt97 Z a0 hw h0 zc r99 cl pv SS a41 q16 a48 a49 z20 z21 z22 z23 z24 z25 z26 z27 z28 z29 z30 z31 z32 z33 z34 z35 z36 z37)) (argsL := [(.ref a48)]) (rest := []) rfl (ps := [(.object "java/lang/Object")]) (by decide +kernel) rfl rfl 0 rfl (by decide) (by decide) (by decide) (by decide) ?_
            rintro _ _ ⟨_, ⟨rfl, rfl⟩, rfl⟩
            show GoW (fun _ => True) B0 Z a0 h0 _ 15 145 (mem41 a41 q16 a48 a49 z20 z21 z22 z23 z24 z25 z26 z27 z28 z29 z30 z31 z32 z33 z34 z35 z36 z37 a47 q7 a44 q17 a45 a46 a42 a43 z0 z1 z2 z3 z4 z5 z6 z7 z8 z9 z10 z11 z12 z13 z14 z15 z16 z17 a31 a30) 270 #[.val (.long q1), .second, .val (.long q2), .second, .val (.int p1), .val (.long q3), .second, .val (.long q4), .second, .val (.int (p1 &&& (3 : Int32))), .val (.long q5), .second, .val (.long q6), .second, .val (.long q7), .second, .val (.ref a30), .val (.ref a31), .val (.ref a41), .val (.ref a44), .val (.ref a47), .val (.ref a48), .val (.int p9), .val (.ref a48), .val (.int (0 : Int32)), .unset] [(.int (0 : Int32))]
            refine gw_istore #[.val (.long q1), .second, .val (.long q2), .second, .val (.int p1), .val (.long q3), .second, .val (.long q4), .second, .val (.int (p1 &&& (3 : Int32))), .val (.long q5), .second, .val (.long q6), .second, .val (.long q7), .second, .val (.ref a30), .val (.ref a31), .val (.ref a41), .val (.ref a44), .val (.ref a47), .val (.ref a48), .val (.int p9), .val (.ref a48), .val (.int (0 : Int32)), .val (.int (0 : Int32))] 272 rfl at_270 rfl rfl ?_
            refine gw_iload 274 rfl at_272 rfl ?_
            refine gw_iload 276 rfl at_274 rfl ?_
            refine gw_icmp 283 279 rfl (by decide) rfl at_276 rfl (fun (hc276 : (0 : Int) ≠ (0 : Int)) => absurd hc276 (by decide)) (fun (hc276 : ¬ ((0 : Int) ≠ (0 : Int))) => ?_)
            refine gw_iconst (1 : Int32) 280 rfl at_279 rfl ?_
            refine gw_goto 284 (by decide) rfl at_280 ?_
            exact gw_ireturn at_284 rfl (Or.inr (Or.inl rfl)) rfl rfl (by decide) (by decide) rfl
          · refine gw_aload 248 rfl at_246 rfl rfl ?_
            refine gw_astore #[.val (.long q1), .second, .val (.long q2), .second, .val (.int p1), .val (.long q3), .second, .val (.long q4), .second, .val (.int (p1 &&& (3 : Int32))), .val (.long q5), .second, .val (.long q6), .second, .val (.long q7), .second, .val (.ref a30), .val (.ref a31), .val (.ref a41), .val (.ref a44), .val (.ref a47), .val (.ref a48), .val (.int p9), .val (.ref a41), .unset, .unset] 250 rfl at_248 rfl rfl rfl ?_
            refine gw_iconst (1 : Int32) 251 rfl at_250 rfl ?_
            refine gw_istore #[.val (.long q1), .second, .val (.long q2), .second, .val (.int p1), .val (.long q3), .second, .val (.long q4), .second, .val (.int (p1 &&& (3 : Int32))), .val (.long q5), .second, .val (.long q6), .second, .val (.long q7), .second, .val (.ref a30), .val (.ref a31), .val (.ref a41), .val (.ref a44), .val (.ref a47), .val (.ref a48), .val (.int p9), .val (.ref a41), .val (.int (1 : Int32)), .unset] 253 rfl at_251 rfl rfl ?_
            refine gw_goto 263 (by decide) rfl at_253 ?_
            refine gw_aload 265 rfl at_263 rfl rfl ?_
            refine gw_aload 267 rfl at_265 rfl rfl ?_
            refine GoW.front 4 (Nat.le_of_ble_eq_true rfl) ?_
            show GoW (fun _ => True) B0 Z a0 h0 _ 15 145 (mem43 a41 q16 a47 q7 a44 q17 a45 a46 z20 z21 z22 z23 z24 z25 z26 z27 z28 z29 z30 z31 z32 z33 z34 z35 z36 z37 a42 a43 z0 z1 z2 z3 z4 z5 z6 z7 z8 z9 z10 z11 z12 z13 z14 z15 z16 z17 a31 a30 a48 a49) 267 #[.val (.long q1), .second, .val (.long q2), .second, .val (.int p1), .val (.long q3), .second, .val (.long q4), .second, .val (.int (p1 &&& (3 : Int32))), .val (.long q5), .second, .val (.long q6), .second, .val (.long q7), .second, .val (.ref a30), .val (.ref a31), .val (.ref a41), .val (.ref a44), .val (.ref a47), .val (.ref a48), .val (.int p9), .val (.ref a41), .val (.int (1 : Int32)), .unset] [(.ref a41), (.ref a41)]
            refine gw_callV 270 rfl at_267 (wd hw 164 rfl) (wd hw 165 rfl) (wd hw 167 rfl) (wd hw 166 rfl) (wd hw 32 rfl) (wd hw 168 rfl) (by decide) (Mo.exa (i := 0) rfl) (Met.frame (mem44 a47 q7 a44 q17 a45 a46 z20 z21 z22 z23 z24 z25 z26 z27 z28 z29 z30 z31 z32 z33 z34 z35 z36 z37 a42 a43 z0 z1 z2 z3 z4 z5 z6 z7 z8 z9 z10 z11 z12 z13 z14 z15 z16 z17 a31 a30 a48 a49) (mt98 Z a0 hw h0 zc r99 cl pv SS a41 q16)) (argsL := [(.ref a41)]) (rest := []) rfl (ps := [(.object "java/lang/Object")]) (by decide +kernel) rfl rfl 0 rfl (by decide) (by decide) (by decide) (by decide) ?_
            rintro _ _ ⟨_, ⟨z201, rfl, rfl, hz201⟩, rfl⟩
            show GoW (fun _ => True) B0 Z a0 h0 _ 15 145 (mem43 a41 q16 a47 q7 a44 q17 a45 a46 z20 z21 z22 z23 z24 z25 z26 z27 z28 z29 z30 z31 z32 z33 z34 z35 z36 z37 a42 a43 z0 z1 z2 z3 z4 z5 z6 z7 z8 z9 z10 z11 z12 z13 z14 z15 z16 z17 a31 a30 a48 a49) 270 #[.val (.long q1), .second, .val (.long q2), .second, .val (.int p1), .val (.long q3), .second, .val (.long q4), .second, .val (.int (p1 &&& (3 : Int32))), .val (.long q5), .second, .val (.long q6), .second, .val (.long q7), .second, .val (.ref a30), .val (.ref a31), .val (.ref a41), .val (.ref a44), .val (.ref a47), .val (.ref a48), .val (.int p9), .val (.ref a41), .val (.int (1 : Int32)), .unset] [(.int z201)]
            refine gw_istore #[.val (.long q1), .second, .val (.long q2), .second, .val (.int p1), .val (.long q3), .second, .val (.long q4), .second, .val (.int (p1 &&& (3 : Int32))), .val (.long q5), .second, .val (.long q6), .second, .val (.long q7), .second, .val (.ref a30), .val (.ref a31), .val (.ref a41), .val (.ref a44), .val (.ref a47), .val (.ref a48), .val (.int p9), .val (.ref a41), .val (.int (1 : Int32)), .val (.int z201)] 272 rfl at_270 rfl rfl ?_
            refine gw_iload 274 rfl at_272 rfl ?_
            refine gw_iload 276 rfl at_274 rfl ?_
            refine gw_icmp 283 279 rfl (by decide) rfl at_276 rfl (fun (hc276 : z201.toInt ≠ (1 : Int)) => absurd hc276 (by have g := c_lcmp q6 q7; have i0 : (0 : Int32).toInt = 0 := rfl; have i1 : (1 : Int32).toInt = 1 := rfl; omega)) (fun (hc276 : ¬ (z201.toInt ≠ (1 : Int))) => ?_)
            refine gw_iconst (1 : Int32) 280 rfl at_279 rfl ?_
            refine gw_goto 284 (by decide) rfl at_280 ?_
            exact gw_ireturn at_284 rfl (Or.inr (Or.inl rfl)) rfl rfl (by decide) (by decide) rfl
        · refine gw_aload 232 rfl at_230 rfl rfl ?_
          refine gw_astore #[.val (.long q1), .second, .val (.long q2), .second, .val (.int p1), .val (.long q3), .second, .val (.long q4), .second, .val (.int (p1 &&& (3 : Int32))), .val (.long q5), .second, .val (.long q6), .second, .val (.long q7), .second, .val (.ref a30), .val (.ref a31), .val (.ref a41), .val (.ref a44), .val (.ref a47), .val (.ref a48), .val (.int p9), .val (.ref a47), .unset, .unset] 234 rfl at_232 rfl rfl rfl ?_
          refine gw_iconst (0 : Int32) 235 rfl at_234 rfl ?_
          refine gw_istore #[.val (.long q1), .second, .val (.long q2), .second, .val (.int p1), .val (.long q3), .second, .val (.long q4), .second, .val (.int (p1 &&& (3 : Int32))), .val (.long q5), .second, .val (.long q6), .second, .val (.long q7), .second, .val (.ref a30), .val (.ref a31), .val (.ref a41), .val (.ref a44), .val (.ref a47), .val (.ref a48), .val (.int p9), .val (.ref a47), .val (.int (0 : Int32)), .unset] 237 rfl at_235 rfl rfl ?_
          refine gw_goto 263 (by decide) rfl at_237 ?_
          refine gw_aload 265 rfl at_263 rfl rfl ?_
          refine gw_aload 267 rfl at_265 rfl rfl ?_
          refine GoW.front 4 (Nat.le_of_ble_eq_true rfl) ?_
          refine GoW.front 1 (Nat.le_of_ble_eq_true rfl) ?_
          show GoW (fun _ => True) B0 Z a0 h0 _ 15 145 (mem45 a47 q7 a41 q16 a44 q17 a45 a46 z20 z21 z22 z23 z24 z25 z26 z27 z28 z29 z30 z31 z32 z33 z34 z35 z36 z37 a42 a43 z0 z1 z2 z3 z4 z5 z6 z7 z8 z9 z10 z11 z12 z13 z14 z15 z16 z17 a31 a30 a48 a49) 267 #[.val (.long q1), .second, .val (.long q2), .second, .val (.int p1), .val (.long q3), .second, .val (.long q4), .second, .val (.int (p1 &&& (3 : Int32))), .val (.long q5), .second, .val (.long q6), .second, .val (.long q7), .second, .val (.ref a30), .val (.ref a31), .val (.ref a41), .val (.ref a44), .val (.ref a47), .val (.ref a48), .val (.int p9), .val (.ref a47), .val (.int (0 : Int32)), .unset] [(.ref a47), (.ref a41)]
          refine gw_callV 270 rfl at_267 (wd hw 164 rfl) (wd hw 165 rfl) (wd hw 167 rfl) (wd hw 166 rfl) (wd hw 32 rfl) (wd hw 168 rfl) (by decide) (Mo.exa (i := 1) rfl) (Met.frame (mem46 a44 q17 a45 a46 z20 z21 z22 z23 z24 z25 z26 z27 z28 z29 z30 z31 z32 z33 z34 z35 z36 z37 a42 a43 z0 z1 z2 z3 z4 z5 z6 z7 z8 z9 z10 z11 z12 z13 z14 z15 z16 z17 a31 a30 a48 a49) (mt100 Z a0 hw h0 zc r99 cl pv SS a47 q7 a41 q16)) (argsL := [(.ref a47)]) (rest := []) rfl (ps := [(.object "java/lang/Object")]) (by decide +kernel) rfl rfl 0 rfl (by decide) (by decide) (by decide) (by decide) ?_
          rintro _ _ ⟨_, ⟨rfl, rfl⟩, rfl⟩
          show GoW (fun _ => True) B0 Z a0 h0 _ 15 145 (mem45 a47 q7 a41 q16 a44 q17 a45 a46 z20 z21 z22 z23 z24 z25 z26 z27 z28 z29 z30 z31 z32 z33 z34 z35 z36 z37 a42 a43 z0 z1 z2 z3 z4 z5 z6 z7 z8 z9 z10 z11 z12 z13 z14 z15 z16 z17 a31 a30 a48 a49) 270 #[.val (.long q1), .second, .val (.long q2), .second, .val (.int p1), .val (.long q3), .second, .val (.long q4), .second, .val (.int (p1 &&& (3 : Int32))), .val (.long q5), .second, .val (.long q6), .second, .val (.long q7), .second, .val (.ref a30), .val (.ref a31), .val (.ref a41), .val (.ref a44), .val (.ref a47), .val (.ref a48), .val (.int p9), .val (.ref a47), .val (.int (0 : Int32)), .unset] [(.int (0 : Int32))]
          refine gw_istore #[.val (.long q1), .second, .val (.long q2), .second, .val (.int p1), .val (.long q3), .second, .val (.long q4), .second, .val (.int (p1 &&& (3 : Int32))), .val (.long q5), .second, .val (.long q6), .second, .val (.long q7), .second, .val (.ref a30), .val (.ref a31), .val (.ref a41), .val (.ref a44), .val (.ref a47), .val (.ref a48), .val (.int p9), .val (.ref a47), .val (.int (0 : Int32)), .val (.int (0 : Int32))] 272 rfl at_270 rfl rfl ?_
          refine gw_iload 274 rfl at_272 rfl ?_
          refine gw_iload 276 rfl at_274 rfl ?_
          refine gw_icmp 283 279 rfl (by decide) rfl at_276 rfl (fun (hc276 : (0 : Int) ≠ (0 : Int)) => absurd hc276 (by decide)) (fun (hc276 : ¬ ((0 : Int) ≠ (0 : Int))) => ?_)
          refine gw_iconst (1 : Int32) 280 rfl at_279 rfl ?_
          refine gw_goto 284 (by decide) rfl at_280 ?_
          exact gw_ireturn at_284 rfl (Or.inr (Or.inl rfl)) rfl rfl (by decide) (by decide) rfl
      · refine gw_aconstNull 216 rfl at_215 ?_
        refine gw_astore #[.val (.long q1), .second, .val (.long q2), .second, .val (.int p1), .val (.long q3), .second, .val (.long q4), .second, .val (.int (p1 &&& (3 : Int32))), .val (.long q5), .second, .val (.long q6), .second, .val (.long q7), .second, .val (.ref a30), .val (.ref a31), .val (.ref a41), .val (.ref a44), .val (.ref a47), .val (.ref a48), .val (.int p9), .val .null, .unset, .unset] 218 rfl at_216 rfl rfl rfl ?_
        refine gw_iconst (0 : Int32) 219 rfl at_218 rfl ?_
        refine gw_istore #[.val (.long q1), .second, .val (.long q2), .second, .val (.int p1), .val (.long q3), .second, .val (.long q4), .second, .val (.int (p1 &&& (3 : Int32))), .val (.long q5), .second, .val (.long q6), .second, .val (.long q7), .second, .val (.ref a30), .val (.ref a31), .val (.ref a41), .val (.ref a44), .val (.ref a47), .val (.ref a48), .val (.int p9), .val .null, .val (.int (0 : Int32)), .unset] 221 rfl at_219 rfl rfl ?_
        refine gw_goto 263 (by decide) rfl at_221 ?_
        refine gw_aload 265 rfl at_263 rfl rfl ?_
        refine gw_aload 267 rfl at_265 rfl rfl ?_
        refine GoW.front 4 (Nat.le_of_ble_eq_true rfl) ?_
        show GoW (fun _ => True) B0 Z a0 h0 _ 15 145 (mem43 a41 q16 a47 q7 a44 q17 a45 a46 z20 z21 z22 z23 z24 z25 z26 z27 z28 z29 z30 z31 z32 z33 z34 z35 z36 z37 a42 a43 z0 z1 z2 z3 z4 z5 z6 z7 z8 z9 z10 z11 z12 z13 z14 z15 z16 z17 a31 a30 a48 a49) 267 #[.val (.long q1), .second, .val (.long q2), .second, .val (.int p1), .val (.long q3), .second, .val (.long q4), .second, .val (.int (p1 &&& (3 : Int32))), .val (.long q5), .second, .val (.long q6), .second, .val (.long q7), .second, .val (.ref a30), .val (.ref a31), .val (.ref a41), .val (.ref a44), .val (.ref a47), .val (.ref a48), .val (.int p9), .val .null, .val (.int (0 : Int32)), .unset] [.null, (.ref a41)]
        refine gw_callV 270 rfl at_267 (wd hw 164 rfl) (wd hw 165 rfl) (wd hw 167 rfl) (wd hw 166 rfl) (wd hw 32 rfl) (wd hw 168 rfl) (by decide) (Mo.exa (i := 0) rfl) (Met.frame (mem44 a47 q7 a44 q17 a45 a46 z20 z21 z22 z23 z24 z25 z26 z27 z28 z29 z30 z31 z32 z33 z34 z35 z36 z37 a42 a43 z0 z1 z2 z3 z4 z5 z6 z7 z8 z9 z10 z11 z12 z13 z14 z15 z16 z17 a31 a30 a48 a49) (mt101 Z a0 hw h0 zc r99 cl pv SS a41 q16)) (argsL := [.null]) (rest := []) rfl (ps := [(.object "java/lang/Object")]) (by decide +kernel) rfl rfl 0 rfl (by decide) (by decide) (by decide) (by decide) ?_
        rintro _ _ ⟨_, ⟨rfl, rfl⟩, rfl⟩
        show GoW (fun _ => True) B0 Z a0 h0 _ 15 145 (mem43 a41 q16 a47 q7 a44 q17 a45 a46 z20 z21 z22 z23 z24 z25 z26 z27 z28 z29 z30 z31 z32 z33 z34 z35 z36 z37 a42 a43 z0 z1 z2 z3 z4 z5 z6 z7 z8 z9 z10 z11 z12 z13 z14 z15 z16 z17 a31 a30 a48 a49) 270 #[.val (.long q1), .second, .val (.long q2), .second, .val (.int p1), .val (.long q3), .second, .val (.long q4), .second, .val (.int (p1 &&& (3 : Int32))), .val (.long q5), .second, .val (.long q6), .second, .val (.long q7), .second, .val (.ref a30), .val (.ref a31), .val (.ref a41), .val (.ref a44), .val (.ref a47), .val (.ref a48), .val (.int p9), .val .null, .val (.int (0 : Int32)), .unset] [(.int (0 : Int32))]
        refine gw_istore #[.val (.long q1), .second, .val (.long q2), .second, .val (.int p1), .val (.long q3), .second, .val (.long q4), .second, .val (.int (p1 &&& (3 : Int32))), .val (.long q5), .second, .val (.long q6), .second, .val (.long q7), .second, .val (.ref a30), .val (.ref a31), .val (.ref a41), .val (.ref a44), .val (.ref a47), .val (.ref a48), .val (.int p9), .val .null, .val (.int (0 : Int32)), .val (.int (0 : Int32))] 272 rfl at_270 rfl rfl ?_
        refine gw_iload 274 rfl at_272 rfl ?_
        refine gw_iload 276 rfl at_274 rfl ?_
        refine gw_icmp 283 279 rfl (by decide) rfl at_276 rfl (fun (hc276 : (0 : Int) ≠ (0 : Int)) => absurd hc276 (by decide)) (fun (hc276 : ¬ ((0 : Int) ≠ (0 : Int))) => ?_)
        refine gw_iconst (1 : Int32) 280 rfl at_279 rfl ?_
        refine gw_goto 284 (by decide) rfl at_280 ?_
        exact gw_ireturn at_284 rfl (Or.inr (Or.inl rfl)) rfl rfl (by decide) (by decide) rfl
    · refine gw_aload 189 rfl at_187 rfl rfl ?_
      refine gw_astore #[.val (.long q1), .second, .val (.long q2), .second, .val (.int p1), .val (.long q3), .second, .val (.long q4), .second, .val (.int (p1 &&& (3 : Int32))), .val (.long q5), .second, .val (.long q6), .second, .val (.long q7), .second, .val (.ref a30), .val (.ref a31), .val (.ref a41), .val (.ref a44), .val (.ref a47), .val (.ref a48), .val (.int p9), .val (.ref a44), .unset, .unset] 191 rfl at_189 rfl rfl rfl ?_
      refine gw_lload 193 rfl at_191 rfl ?_
      refine gw_lload 195 rfl at_193 rfl ?_
      refine gw_lcmp 196 rfl at_195 rfl ?_
      refine gw_if 203 199 rfl (by decide) rfl at_196 rfl (fun (hc196_101 : (lcmpW q6 q7).toInt ≠ 0) => ?_) (fun (hc196_101 : ¬ ((lcmpW q6 q7).toInt ≠ 0)) => ?_)
      · refine gw_iconst (0 : Int32) 204 rfl at_203 rfl ?_
        refine gw_istore #[.val (.long q1), .second, .val (.long q2), .second, .val (.int p1), .val (.long q3), .second, .val (.long q4), .second, .val (.int (p1 &&& (3 : Int32))), .val (.long q5), .second, .val (.long q6), .second, .val (.long q7), .second, .val (.ref a30), .val (.ref a31), .val (.ref a41), .val (.ref a44), .val (.ref a47), .val (.ref a48), .val (.int p9), .val (.ref a44), .val (.int (0 : Int32)), .unset] 206 rfl at_204 rfl rfl ?_
        refine gw_goto 263 (by decide) rfl at_206 ?_
        refine gw_aload 265 rfl at_263 rfl rfl ?_
        refine gw_aload 267 rfl at_265 rfl rfl ?_
        refine GoW.front 4 (Nat.le_of_ble_eq_true rfl) ?_
        refine GoW.front 2 (Nat.le_of_ble_eq_true rfl) ?_
        show GoW (fun _ => True) B0 Z a0 h0 _ 15 145 (mem47 a44 q17 a41 q16 a47 q7 a45 a46 z20 z21 z22 z23 z24 z25 z26 z27 z28 z29 z30 z31 z32 z33 z34 z35 z36 z37 a42 a43 z0 z1 z2 z3 z4 z5 z6 z7 z8 z9 z10 z11 z12 z13 z14 z15 z16 z17 a31 a30 a48 a49) 267 #[.val (.long q1), .second, .val (.long q2), .second, .val (.int p1), .val (.long q3), .second, .val (.long q4), .second, .val (.int (p1 &&& (3 : Int32))), .val (.long q5), .second, .val (.long q6), .second, .val (.long q7), .second, .val (.ref a30), .val (.ref a31), .val (.ref a41), .val (.ref a44), .val (.ref a47), .val (.ref a48), .val (.int p9), .val (.ref a44), .val (.int (0 : Int32)), .unset] [(.ref a44), (.ref a41)]
        refine gw_callV 270 rfl at_267 (wd hw 164 rfl) (wd hw 165 rfl) (wd hw 167 rfl) (wd hw 166 rfl) (wd hw 32 rfl) (wd hw 168 rfl) (by decide) (Mo.exa (i := 1) rfl) (Met.frame (mem48 a47 q7 a45 a46 z20 z21 z22 z23 z24 z25 z26 z27 z28 z29 z30 z31 z32 z33 z34 z35 z36 z37 a42 a43 z0 z1 z2 z3 z4 z5 z6 z7 z8 z9 z10 z11 z12 z13 z14 z15 z16 z17 a31 a30 a48 a49) (mt103 Z a0 hw h0 zc r99 cl pv SS a44 q17 a41 q16)) (argsL := [(.ref a44)]) (rest := []) rfl (ps := [(.object "java/lang/Object")]) (by decide +kernel) rfl rfl 0 rfl (by decide) (by decide) (by decide) (by decide) ?_
        rintro _ _ ⟨_, ⟨z202, rfl, rfl, hz202⟩, rfl⟩
        show GoW (fun _ => True) B0 Z a0 h0 _ 15 145 (mem47 a44 q17 a41 q16 a47 q7 a45 a46 z20 z21 z22 z23 z24 z25 z26 z27 z28 z29 z30 z31 z32 z33 z34 z35 z36 z37 a42 a43 z0 z1 z2 z3 z4 z5 z6 z7 z8 z9 z10 z11 z12 z13 z14 z15 z16 z17 a31 a30 a48 a49) 270 #[.val (.long q1), .second, .val (.long q2), .second, .val (.int p1), .val (.long q3), .second, .val (.long q4), .second, .val (.int (p1 &&& (3 : Int32))), .val (.long q5), .second, .val (.long q6), .second, .val (.long q7), .second, .val (.ref a30), .val (.ref a31), .val (.ref a41), .val (.ref a44), .val (.ref a47), .val (.ref a48), .val (.int p9), .val (.ref a44), .val (.int (0 : Int32)), .unset] [(.int z202)]
        refine gw_istore #[.val (.long q1), .second, .val (.long q2), .second, .val (.int p1), .val (.long q3), .second, .val (.long q4), .second, .val (.int (p1 &&& (3 : Int32))), .val (.long q5), .second, .val (.long q6), .second, .val (.long q7), .second, .val (.ref a30), .val (.ref a31), .val (.ref a41), .val (.ref a44), .val (.ref a47), .val (.ref a48), .val (.int p9), .val (.ref a44), .val (.int (0 : Int32)), .val (.int z202)] 272 rfl at_270 rfl rfl ?_
        refine gw_iload 274 rfl at_272 rfl ?_
        refine gw_iload 276 rfl at_274 rfl ?_
        refine gw_icmp 283 279 rfl (by decide) rfl at_276 rfl (fun (hc276 : z202.toInt ≠ (0 : Int)) => absurd hc276 (by have g := c_lcmp q6 q7; have i0 : (0 : Int32).toInt = 0 := rfl; have i1 : (1 : Int32).toInt = 1 := rfl; omega)) (fun (hc276 : ¬ (z202.toInt ≠ (0 : Int))) => ?_)
        refine gw_iconst (1 : Int32) 280 rfl at_279 rfl ?_
        refine gw_goto 284 (by decide) rfl at_280 ?_
        exact gw_ireturn at_284 rfl (Or.inr (Or.inl rfl)) rfl rfl (by decide) (by decide) rfl
      · refine gw_iconst (1 : Int32) 200 rfl at_199 rfl ?_
        refine gw_goto 204 (by decide) rfl at_200 ?_
        refine gw_istore #[.val (.long q1), .second, .val (.long q2), .second, .val (.int p1), .val (.long q3), .second, .val (.long q4), .second, .val (.int (p1 &&& (3 : Int32))), .val (.long q5), .second, .val (.long q6), .second, .val (.long q7), .second, .val (.ref a30), .val (.ref a31), .val (.ref a41), .val (.ref a44), .val (.ref a47), .val (.ref a48), .val (.int p9), .val (.ref a44), .val (.int (1 : Int32)), .unset] 206 rfl at_204 rfl rfl ?_
        refine gw_goto 263 (by decide) rfl at_206 ?_
        refine gw_aload 265 rfl at_263 rfl rfl ?_
        refine gw_aload 267 rfl at_265 rfl rfl ?_
        refine GoW.front 4 (Nat.le_of_ble_eq_true rfl) ?_
        refine GoW.front 2 (Nat.le_of_ble_eq_true rfl) ?_
        show GoW (fun _ => True) B0 Z a0 h0 _ 15 145 (mem47 a44 q17 a41 q16 a47 q7 a45 a46 z20 z21 z22 z23 z24 z25 z26 z27 z28 z29 z30 z31 z32 z33 z34 z35 z36 z37 a42 a43 z0 z1 z2 z3 z4 z5 z6 z7 z8 z9 z10 z11 z12 z13 z14 z15 z16 z17 a31 a30 a48 a49) 267 #[.val (.long q1), .second, .val (.long q2), .second, .val (.int p1), .val (.long q3), .second, .val (.long q4), .second, .val (.int (p1 &&& (3 : Int32))), .val (.long q5), .second, .val (.long q6), .second, .val (.long q7), .second, .val (.ref a30), .val (.ref a31), .val (.ref a41), .val (.ref a44), .val (.ref a47), .val (.ref a48), .val (.int p9), .val (.ref a44), .val (.int (1 : Int32)), .unset] [(.ref a44), (.ref a41)]
        refine gw_callV 270 rfl at_267 (wd hw 164 rfl) (wd hw 165 rfl) (wd hw 167 rfl) (wd hw 166 rfl) (wd hw 32 rfl) (wd hw 168 rfl) (by decide) (Mo.exa (i := 1) rfl) (Met.frame (mem48 a47 q7 a45 a46 z20 z21 z22 z23 z24 z25 z26 z27 z28 z29 z30 z31 z32 z33 z34 z35 z36 z37 a42 a43 z0 z1 z2 z3 z4 z5 z6 z7 z8 z9 z10 z11 z12 z13 z14 z15 z16 z17 a31 a30 a48 a49) (mt105 Z a0 hw h0 zc r99 cl pv SS a44 q17 a41 q16)) (argsL := [(.ref a44)]) (rest := []) rfl (ps := [(.object "java/lang/Object")]) (by decide +kernel) rfl rfl 0 rfl (by decide) (by decide) (by decide) (by decide) ?_
        rintro _ _ ⟨_, ⟨z203, rfl, rfl, hz203⟩, rfl⟩
        show GoW (fun _ => True) B0 Z a0 h0 _ 15 145 (mem47 a44 q17 a41 q16 a47 q7 a45 a46 z20 z21 z22 z23 z24 z25 z26 z27 z28 z29 z30 z31 z32 z33 z34 z35 z36 z37 a42 a43 z0 z1 z2 z3 z4 z5 z6 z7 z8 z9 z10 z11 z12 z13 z14 z15 z16 z17 a31 a30 a48 a49) 270 #[.val (.long q1), .second, .val (.long q2), .second, .val (.int p1), .val (.long q3), .second, .val (.long q4), .second, .val (.int (p1 &&& (3 : Int32))), .val (.long q5), .second, .val (.long q6), .second, .val (.long q7), .second, .val (.ref a30), .val (.ref a31), .val (.ref a41), .val (.ref a44), .val (.ref a47), .val (.ref a48), .val (.int p9), .val (.ref a44), .val (.int (1 : Int32)), .unset] [(.int z203)]
        refine gw_istore #[.val (.long q1), .second, .val (.long q2), .second, .val (.int p1), .val (.long q3), .second, .val (.long q4), .second, .val (.int (p1 &&& (3 : Int32))), .val (.long q5), .second, .val (.long q6), .second, .val (.long q7), .second, .val (.ref a30), .val (.ref a31), .val (.ref a41), .val (.ref a44), .val (.ref a47), .val (.ref a48), .val (.int p9), .val (.ref a44), .val (.int (1 : Int32)), .val (.int z203)] 272 rfl at_270 rfl rfl ?_
        refine gw_iload 274 rfl at_272 rfl ?_
        refine gw_iload 276 rfl at_274 rfl ?_
        refine gw_icmp 283 279 rfl (by decide) rfl at_276 rfl (fun (hc276 : z203.toInt ≠ (1 : Int)) => absurd hc276 (by have g := c_lcmp q6 q7; have i0 : (0 : Int32).toInt = 0 := rfl; have i1 : (1 : Int32).toInt = 1 := rfl; omega)) (fun (hc276 : ¬ (z203.toInt ≠ (1 : Int))) => ?_)
        refine gw_iconst (1 : Int32) 280 rfl at_279 rfl ?_
        refine gw_goto 284 (by decide) rfl at_280 ?_
        exact gw_ireturn at_284 rfl (Or.inr (Or.inl rfl)) rfl rfl (by decide) (by decide) rfl
  refine gw_iload 30 rfl at_28 rfl ?_
  refine gw_iconst (1 : Int32) 31 rfl at_30 rfl ?_
  refine gw_icmp 41 34 rfl (by decide) rfl at_31 rfl (fun (hm31 : (p1 &&& (3 : Int32)).toInt ≠ (1 : Int)) => ?_) (fun (hm31 : ¬ ((p1 &&& (3 : Int32)).toInt ≠ (1 : Int))) => ?_)
  · refine gw_iload 43 rfl at_41 rfl ?_
    refine gw_iconst (2 : Int32) 44 rfl at_43 rfl ?_
    refine gw_icmp 60 47 rfl (by decide) rfl at_44 rfl (fun (hm44 : (p1 &&& (3 : Int32)).toInt ≠ (2 : Int)) => ?_) (fun (hm44 : ¬ ((p1 &&& (3 : Int32)).toInt ≠ (2 : Int))) => ?_)
    · refine gw_lload 62 rfl at_60 rfl ?_
      refine gw_lstore #[.val (.long q1), .second, .val (.long q2), .second, .val (.int p1), .val (.long q3), .second, .val (.long q4), .second, .val (.int (p1 &&& (3 : Int32))), .val (.long q4), .second, .unset, .unset, .unset, .unset, .unset, .unset, .unset, .unset, .unset, .unset, .unset, .unset, .unset, .unset] 64 rfl at_62 rfl rfl ?_
      exact jn _ h4
    · refine gw_lload 49 rfl at_47 rfl ?_
      refine gw_lconst (1 : Int64) 50 rfl at_49 rfl ?_
      refine gw_ladd 51 rfl at_50 rfl ?_
      refine gw_ldc2 (v := (100000000000000000 : Int64)) 54 rfl at_51 (wd hw 1 rfl) ?_
      refine gw_lrem 55 rfl at_54 rfl (by decide) ?_
      refine gw_lstore #[.val (.long q1), .second, .val (.long q2), .second, .val (.int p1), .val (.long q3), .second, .val (.long q4), .second, .val (.int (p1 &&& (3 : Int32))), .val (.long ((q3 + (1 : Int64)) % (100000000000000000 : Int64))), .second, .unset, .unset, .unset, .unset, .unset, .unset, .unset, .unset, .unset, .unset, .unset, .unset, .unset, .unset] 57 rfl at_55 rfl rfl ?_
      refine gw_goto 64 (by decide) rfl at_57 ?_
      exact jn _ (bodyS q3 h3)
  · refine gw_lload 36 rfl at_34 rfl ?_
    refine gw_lstore #[.val (.long q1), .second, .val (.long q2), .second, .val (.int p1), .val (.long q3), .second, .val (.long q4), .second, .val (.int (p1 &&& (3 : Int32))), .val (.long q3), .second, .unset, .unset, .unset, .unset, .unset, .unset, .unset, .unset, .unset, .unset, .unset, .unset, .unset, .unset] 38 rfl at_36 rfl rfl ?_
    refine gw_goto 64 (by decide) rfl at_38 ?_
    exact jn _ h3
theorem comes_1 {Post : Tables → Env → Array Value → State → Outcome → State → Prop} (hpost : ∀ tb e args s v u, (limb_1_1.after args s (.returned v) u = true ∧ limb_1_2.after args s (.returned v) u = true ∧ True) → ReturnedEndW s (.returned v) u (Jvm.fieldLocs frame_1_writes args s ++ Jvm.arrayLocs frame_1_arrays args s ++ Jvm.staticLocs frame_1_statics s) 32 1344 → Post tb e args s (.returned v) u) :
    ArmFor flags0 classFile x code maxLocals ret World_1 tables_1 room_1 Calls_1 rest_1 Pre_1 Post := by
  intro l hfl _ _ p e ha hc hk s m args below hf hA hF happ hP
  obtain ⟨hcalls, hrest, hpre⟩ := hP
  obtain ⟨-, -, -, hnamed, -, -, -, hat⟩ := (Spec.applies_iff hf).mp happ
  obtain ⟨hg, hn⟩ := and_e (Cond.before_iff.mp (show (Jvm.Cond.and given_1 narrow_1).before args s = true from hpre))
  obtain ⟨g0, r0⟩ := and_e hg
  obtain ⟨g1, r1⟩ := and_e r0
  obtain ⟨g2, r2⟩ := and_e r1
  obtain ⟨w0, w1, w2, rfl⟩ : ∃ w0 w1 w2 : Value, args = #[w0, w1, w2] := by
    have hs : args.size = 3 := by simpa [Cond.value, given_1] using g0
    obtain ⟨L⟩ := args
    match L, hs with
    | [w0, w1, w2], _ => exact ⟨w0, w1, w2, rfl⟩
  have hw := fun d (hd : d ∈ tables_1) => atoms_spec (ws := Jvm.Cond.code x code maxLocals ret :: tables_1) hat d (List.mem_cons_of_mem _ hd)
  have hfit : Fit s := fun {y c} hc i hi => by
    obtain ⟨ha, rfl⟩ := Array.getElem?_eq_some_iff.mp hc
    have q := List.all_eq_true.mp ((Array.all_eq_true_iff_forall_mem.mp hF) _ (Array.getElem_mem ha)) i (List.mem_range.mpr hi)
    simpa [Array.getElem?_eq_getElem hi] using q
  obtain ⟨i0, e0⟩ := isL_v g1
  obtain rfl : w0 = (.long i0) := Option.some.inj e0
  obtain ⟨i1, e1⟩ := isL_v g2
  obtain rfl : w1 = (.long i1) := Option.some.inj e1
  obtain ⟨i2, e2⟩ := is_v r2
  obtain rfl : w2 = (.int i2) := Option.some.inj e2
  obtain ⟨n0, t0⟩ := and_e hn
  obtain ⟨n1, t1⟩ := and_e t0
  have n2 := t1
  obtain ⟨hsets, hown0⟩ := atoms_of _ (rest_1_c_eq ▸ (show rest_1_c.before _ s = true from hrest))
  have st := fun i d (hd : jdkStatics_1[i]? = some d) => hsets d (List.mem_of_getElem? hd)
  have sn3 := not_v (Cond.before_iff.mp (st 2 _ rfl))
  obtain ⟨zc, ezc⟩ := is_v (Cond.before_iff.mp (st 1 _ rfl))
  obtain ⟨fm, efm, hfm⟩ := isR_v (Cond.before_iff.mp (st 8 _ rfl))
  obtain ⟨pv, ev⟩ := arr_v n0
  obtain ⟨cl, AP⟩ := Arr.start ev n0
  have hatx := AP.fin (Vm.Alike.refl _)
  have LP : cl.slots.size = 1 := (len_ix ev hatx (by decide) n1).1
  have f0 : cl.slots[0]? = some (.int 18) := one_ix ev AP.1 rfl n2
  have SS : Sts s s.heap zc fm cl pv := ⟨Sta.start ezc (Or.inl (st 0 _ rfl)), gotF (Cond.eq_ints ezc (Term.int_eval (0))) sn3, Sta.start efm (Or.inl (st 7 _ rfl)), hfm, Sta.start ev (Or.inr ⟨(wd hw 32 rfl), (wd hw 72 rfl)⟩), AP, LP, f0⟩
  obtain ⟨n, o, q1, q2, q3, v, L, rfl, ⟨N, ds', M', -, rfl⟩, hq⟩ := law_met s _ hw s.heap i0 i1 i2 zc fm cl pv SS l tables_1 s.heap (Mo.start s _ s.heap) p e ha hc hk s m _ below hf ((Spec.applies_iff_loose hf).mp happ).1 ⟨rfl, State.Warmed39.refl s, rfl, trivial⟩ trivial
  refine ⟨n, _, q1, q2, q3, hpost _ _ _ _ _ _ ⟨Cond.after_iff.mpr rfl, Cond.after_iff.mpr (eq_i res_at (Term.int_eval (1)) rfl), trivial⟩ ⟨hq.1, hq.2.1, hq.2.2.1, (hq.2.2.2.sift fun y hy => Or.inr (N y hy)).mono (by decide) (by decide)⟩⟩
theorem main_1_1 : Claimed_1_1 := comes_1 fun _ _ _ _ _ _ h hF => ⟨h.1, hF⟩
theorem main_1_2 : Claimed_1_2 := comes_1 fun _ _ _ _ _ _ h hF => ⟨h.2.1, hF⟩

end Jvm.Pilot.@@N@@
namespace Jvm.Pilot.@@N@@
open Jvm Jvm.ClassFile Sem Op Lib Jvm.Free Jvm.Stand Jvm.Pilot.@@N@@.Jvm.D
/-! MADE BY PROGRAM (witnessworld.py) out of the Statement's table words and the real class files: 24 classes; the members and pool entries that the words name. The judged class is class 1, her method 1. -/
namespace start1
open Jvm.ClassFile
def u (s : String) : CpInfo := .utf8 (stringToUtf16 s)
/-- a pool by its gaps: so many unusable entries, then the entry; so many at the end -/
def gap : Nat → List CpInfo → List CpInfo
  | 0, r => r
  | n + 1, r => .unusable :: gap n r
def poolList (es : List (Nat × CpInfo)) (last : Nat) : List CpInfo := es.foldr (fun e r => gap e.1 (e.2 :: r)) (gap last [])
def pool (es : List (Nat × CpInfo)) (last : Nat) : Array CpInfo := ⟨poolList es last⟩
def fileOf (pool : Array CpInfo) (this : Nat) (attrs : Array Attribute := #[]) (ms : Array MethodInfo := #[]) (fl : Nat := 33) (sup : Nat := 0) (ifs : Array Nat := #[]) (fds : Array FieldInfo := #[]) : ClassFile where
  minorVersion := 0
  majorVersion := 65
  constantPool := pool
  accessFlags := fl
  thisClass := this
  superClass := sup
  interfaces := ifs
  fields := fds
  methods := ms
  attributes := attrs
def plain (name : String) (sup : Option ClassId) : Class where
  name := name
  kind := .ordinary
  loader := none
  accessFlags := 33
  super := sup
  interfaces := #[]
  cf := none
  fields := #[]
  methods := #[]
  instanceTypes := #[]
  staticTypes := #[]
  resolved := #[]
  callSites := []
  init := .initialized
  statics := none
  mirror := none

def pool0 : Array CpInfo := pool [(5, u "<init>"), (0, u "()V"), (1, .class_ 10), (1, u "java/lang/Object")] 113

def k0c0 : Code := { maxStack := 0, maxLocals := 1, code := object_method_1_code, exceptionTable := #[], attributes := #[] }
def k0m0 : Method := { name := "<init>", desc := "()V", sig := { parameters := [], returnType := none }, accessFlags := 1, code := some k0c0 }
/-- java/lang/Object -/
def k0 : Class := { plain "java/lang/Object" none with
  accessFlags := 33
  interfaces := #[]
  cf := some (fileOf pool0 8 #[] #[{ accessFlags := 1, nameIndex := 5, descriptorIndex := 6, attributes := #[] }] 33 0 #[] #[])
  fields := #[]
  methods := #[k0m0]
  instanceTypes := #[]
  staticTypes := #[]
  resolved := Array.replicate 124 none
  statics := none }

def pool1 : Array CpInfo := pool [(2, .class_ 4), (0, .nameAndType 5 6), (0, u "java/lang/Object"), (0, u "<init>"), (0, u "()V"), (2, .long 9223372036854775807), (1, .long 100000000000000000), (1, .long 10), (1, .methodref 16 17), (0, .class_ 18), (0, .nameAndType 19 20), (0, u "com/example/cartonmark/cartonmark/gs1/SsccEqualsPinLaw"), (0, u "check"), (0, u "(J)I"), (0, .methodref 16 22), (0, .nameAndType 23 24), (0, u "chars"), (0, u "(J)[C"), (0, .class_ 26), (0, u "com/example/cartonmark/cartonmark/gs1/Sscc"), (0, .class_ 28), (0, u "java/lang/String"), (0, .methodref 27 30), (0, .nameAndType 5 31), (0, u "([C)V"), (0, .methodref 25 33), (0, .nameAndType 5 34), (0, u "(Ljava/lang/String;)V"), (0, .class_ 36), (0, u "com/example/cartonmark/cartonmark/gs1/SsccReading"), (0, .methodref 35 3), (0, .methodref 35 39), (0, .nameAndType 40 41), (0, u "set"), (0, u "(J)V"), (0, .methodref 25 43), (0, .nameAndType 44 45), (0, u "equals"), (0, u "(Ljava/lang/Object;)Z"), (0, .long 3), (1, .methodref 16 49), (0, .nameAndType 50 51), (0, u "d"), (0, u "(JJ)I"), (0, .long 100), (1, .long 1000), (1, .long 10000), (1, .long 100000), (1, .long 1000000), (1, .long 10000000), (1, .long 100000000), (1, .long 1000000000), (1, .long 10000000000), (1, .long 100000000000), (1, .long 1000000000000), (1, .long 10000000000000), (1, .long 100000000000000), (1, .long 1000000000000000), (1, .long 10000000000000000), (3, u "law"), (0, u "(JJI)Z")] 5

def k1m0 : Method := { name := "<init>", desc := "()V", sig := { parameters := [], returnType := none }, accessFlags := 2, code := none }
def k1c1 : Code := { maxStack := 5, maxLocals := 26, code := code, exceptionTable := #[], attributes := #[] }
def k1m1 : Method := { name := "law", desc := "(JJI)Z", sig := { parameters := [.long, .long, .int], returnType := some .boolean }, accessFlags := 9, code := some k1c1 }
def k1c2 : Code := { maxStack := 4, maxLocals := 4, code := method_3_code, exceptionTable := #[], attributes := #[] }
def k1m2 : Method := { name := "d", desc := "(JJ)I", sig := { parameters := [.long, .long], returnType := some .int }, accessFlags := 10, code := some k1c2 }
def k1c3 : Code := { maxStack := 8, maxLocals := 4, code := method_4_code, exceptionTable := #[], attributes := #[] }
def k1m3 : Method := { name := "check", desc := "(J)I", sig := { parameters := [.long], returnType := some .int }, accessFlags := 10, code := some k1c3 }
def k1c4 : Code := { maxStack := 7, maxLocals := 3, code := method_5_code, exceptionTable := #[], attributes := #[] }
def k1m4 : Method := { name := "chars", desc := "(J)[C", sig := { parameters := [.long], returnType := some (.array .char) }, accessFlags := 10, code := some k1c4 }
/-- com/example/cartonmark/cartonmark/gs1/SsccEqualsPinLaw -/
def k1 : Class := { plain "com/example/cartonmark/cartonmark/gs1/SsccEqualsPinLaw" (some 0) with
  accessFlags := 49
  interfaces := #[]
  cf := some (fileOf pool1 16 #[] #[{ accessFlags := 2, nameIndex := 5, descriptorIndex := 6, attributes := #[] }, { accessFlags := 9, nameIndex := 84, descriptorIndex := 85, attributes := #[] }, { accessFlags := 10, nameIndex := 50, descriptorIndex := 51, attributes := #[] }, { accessFlags := 10, nameIndex := 19, descriptorIndex := 20, attributes := #[] }, { accessFlags := 10, nameIndex := 23, descriptorIndex := 24, attributes := #[] }] 49 2 #[] #[])
  fields := #[]
  methods := #[k1m0, k1m1, k1m2, k1m3, k1m4]
  instanceTypes := #[]
  staticTypes := #[]
  resolved := Array.replicate 91 none
  statics := none }

def pool2 : Array CpInfo := pool [(3, .methodref 4 5), (0, .class_ 6), (0, .nameAndType 7 8), (0, u "java/lang/Object"), (0, u "<init>"), (0, u "()V"), (0, .fieldref 10 11), (0, .class_ 12), (0, .nameAndType 13 14), (0, u "com/example/cartonmark/cartonmark/gs1/SsccDigits"), (0, u "number"), (0, u "J"), (37, u "PLACE_VALUES"), (0, u "[J"), (23, u "HUMAN_READABLE_AI"), (0, u "Ljava/lang/String;"), (1, u "(J)V")] 27

def k2c0 : Code := { maxStack := 3, maxLocals := 3, code := prog_14_method_1_code, exceptionTable := #[], attributes := #[] }
def k2m0 : Method := { name := "<init>", desc := "(J)V", sig := { parameters := [.long], returnType := none }, accessFlags := 0, code := some k2c0 }
/-- com/example/cartonmark/cartonmark/gs1/SsccDigits -/
def k2 : Class := { plain "com/example/cartonmark/cartonmark/gs1/SsccDigits" (some 0) with
  accessFlags := 1057
  interfaces := #[]
  cf := some (fileOf pool2 10 #[] #[{ accessFlags := 0, nameIndex := 7, descriptorIndex := 80, attributes := #[] }] 1057 4 #[] #[{ accessFlags := 26, nameIndex := 77, descriptorIndex := 78, attributes := #[] }, { accessFlags := 24, nameIndex := 52, descriptorIndex := 53, attributes := #[] }, { accessFlags := 0, nameIndex := 13, descriptorIndex := 14, attributes := #[] }])
  fields := #[{ name := "HUMAN_READABLE_AI", type := (.object "java/lang/String"), accessFlags := 26, slot := 0, constantValue := 0 }, { name := "PLACE_VALUES", type := (.array .long), accessFlags := 24, slot := 1, constantValue := 0 }, { name := "number", type := .long, accessFlags := 0, slot := 0, constantValue := 0 }]
  methods := #[k2m0]
  instanceTypes := #[.long]
  staticTypes := #[(.object "java/lang/String"), (.array .long)]
  resolved := Array.replicate 108 none
  statics := none }

def pool3 : Array CpInfo := pool [(1, .methodref 2 3), (0, .class_ 4), (0, .nameAndType 5 6), (0, u "com/example/cartonmark/cartonmark/gs1/Sscc"), (0, u "numberOf"), (0, u "(Ljava/lang/CharSequence;)J"), (0, .methodref 2 8), (0, .nameAndType 9 10), (0, u "<init>"), (0, u "(J)V"), (0, .methodref 12 8), (0, .class_ 13), (0, u "com/example/cartonmark/cartonmark/gs1/SsccDigits"), (0, .string 15), (0, u "SSCC"), (0, .fieldref 2 17), (0, .nameAndType 18 19), (0, u "LENGTHS"), (0, u "[I"), (0, .methodref 21 22), (0, .class_ 23), (0, .nameAndType 24 25), (0, u "com/example/cartonmark/cartonmark/gs1/Gs1Digits"), (0, u "requireKey"), (0, u "(Ljava/lang/String;Ljava/lang/CharSequence;[I)V"), (0, .long 10), (1, .interfaceMethodref 29 30), (0, .class_ 31), (0, .nameAndType 32 33), (0, u "java/lang/CharSequence"), (0, u "charAt"), (0, u "(I)C"), (0, .long 48), (4, u "(Ljava/lang/String;)V"), (93, .fieldref 2 134), (0, .nameAndType 135 136), (0, u "number"), (0, u "J"), (4, u "LENGTH"), (0, u "I"), (2, u "AI"), (0, u "Ljava/lang/String;"), (0, u "MIN_PREFIX_LENGTH"), (1, u "MAX_PREFIX_LENGTH"), (12, u "equals"), (0, u "(Ljava/lang/Object;)Z")] 23

def k3c0 : Code := { maxStack := 3, maxLocals := 2, code := prog_13_method_1_code, exceptionTable := #[], attributes := #[] }
def k3m0 : Method := { name := "<init>", desc := "(Ljava/lang/String;)V", sig := { parameters := [(.object "java/lang/String")], returnType := none }, accessFlags := 1, code := some k3c0 }
def k3c1 : Code := { maxStack := 3, maxLocals := 3, code := prog_13_method_2_code, exceptionTable := #[], attributes := #[] }
def k3m1 : Method := { name := "<init>", desc := "(J)V", sig := { parameters := [.long], returnType := none }, accessFlags := 2, code := some k3c1 }
def k3c2 : Code := { maxStack := 4, maxLocals := 4, code := prog_13_method_5_code, exceptionTable := #[], attributes := #[] }
def k3m2 : Method := { name := "numberOf", desc := "(Ljava/lang/CharSequence;)J", sig := { parameters := [(.object "java/lang/CharSequence")], returnType := some .long }, accessFlags := 8, code := some k3c2 }
def k3c3 : Code := { maxStack := 4, maxLocals := 2, code := prog_13_method_13_code, exceptionTable := #[], attributes := #[] }
def k3m3 : Method := { name := "equals", desc := "(Ljava/lang/Object;)Z", sig := { parameters := [(.object "java/lang/Object")], returnType := some .boolean }, accessFlags := 1, code := some k3c3 }
/-- com/example/cartonmark/cartonmark/gs1/Sscc -/
def k3 : Class := { plain "com/example/cartonmark/cartonmark/gs1/Sscc" (some 2) with
  accessFlags := 49
  interfaces := #[]
  cf := some (fileOf pool3 2 #[] #[{ accessFlags := 1, nameIndex := 9, descriptorIndex := 39, attributes := #[] }, { accessFlags := 2, nameIndex := 9, descriptorIndex := 10, attributes := #[] }, { accessFlags := 8, nameIndex := 5, descriptorIndex := 6, attributes := #[] }, { accessFlags := 1, nameIndex := 162, descriptorIndex := 163, attributes := #[] }] 49 12 #[] #[{ accessFlags := 25, nameIndex := 141, descriptorIndex := 142, attributes := #[] }, { accessFlags := 26, nameIndex := 18, descriptorIndex := 19, attributes := #[] }, { accessFlags := 25, nameIndex := 145, descriptorIndex := 146, attributes := #[] }, { accessFlags := 24, nameIndex := 147, descriptorIndex := 142, attributes := #[] }, { accessFlags := 24, nameIndex := 149, descriptorIndex := 142, attributes := #[] }])
  fields := #[{ name := "LENGTH", type := .int, accessFlags := 25, slot := 0, constantValue := 0 }, { name := "LENGTHS", type := (.array .int), accessFlags := 26, slot := 1, constantValue := 0 }, { name := "AI", type := (.object "java/lang/String"), accessFlags := 25, slot := 2, constantValue := 0 }, { name := "MIN_PREFIX_LENGTH", type := .int, accessFlags := 24, slot := 3, constantValue := 0 }, { name := "MAX_PREFIX_LENGTH", type := .int, accessFlags := 24, slot := 4, constantValue := 0 }]
  methods := #[k3m0, k3m1, k3m2, k3m3]
  instanceTypes := #[.long]
  staticTypes := #[.int, (.array .int), (.object "java/lang/String"), .int, .int]
  resolved := Array.replicate 187 none
  statics := some 0 }

def pool4 : Array CpInfo := pool [(1, .class_ 2), (0, u "java/io/Serializable"), (0, .class_ 4), (0, u "java/lang/Object")] 2

/-- java/io/Serializable -/
def k4 : Class := { plain "java/io/Serializable" (some 0) with
  accessFlags := 1537
  interfaces := #[]
  cf := some (fileOf pool4 1 #[] #[] 1537 3 #[] #[])
  fields := #[]
  methods := #[]
  instanceTypes := #[]
  staticTypes := #[]
  resolved := Array.replicate 7 none
  statics := none }

def pool5 : Array CpInfo := pool [(1, .class_ 2), (0, u "java/lang/Comparable"), (0, .class_ 4), (0, u "java/lang/Object")] 7

/-- java/lang/Comparable -/
def k5 : Class := { plain "java/lang/Comparable" (some 0) with
  accessFlags := 1537
  interfaces := #[]
  cf := some (fileOf pool5 1 #[] #[] 1537 3 #[] #[])
  fields := #[]
  methods := #[]
  instanceTypes := #[]
  staticTypes := #[]
  resolved := Array.replicate 12 none
  statics := none }

def pool6 : Array CpInfo := pool [(2, .class_ 4), (1, u "java/lang/CharSequence"), (0, u "length"), (0, u "()I"), (38, u "charAt"), (0, u "(I)C"), (0, .class_ 48), (0, u "java/lang/CharSequence$1CodePointIterator"), (10, .class_ 60), (0, u "java/lang/CharSequence$1CharIterator"), (5, .class_ 67), (0, u "java/lang/Object")] 63

def k6m0 : Method := { name := "length", desc := "()I", sig := { parameters := [], returnType := some .int }, accessFlags := 1025, code := none }
def k6m1 : Method := { name := "charAt", desc := "(I)C", sig := { parameters := [.int], returnType := some .char }, accessFlags := 1025, code := none }
/-- java/lang/CharSequence -/
def k6 : Class := { plain "java/lang/CharSequence" (some 0) with
  accessFlags := 1537
  interfaces := #[]
  cf := some (fileOf pool6 2 #[.nestMembers #[47, 59]] #[{ accessFlags := 1025, nameIndex := 5, descriptorIndex := 6, attributes := #[] }, { accessFlags := 1025, nameIndex := 45, descriptorIndex := 46, attributes := #[] }] 1537 66 #[] #[])
  fields := #[]
  methods := #[k6m0, k6m1]
  instanceTypes := #[]
  staticTypes := #[]
  resolved := Array.replicate 131 none
  statics := none }

def pool7 : Array CpInfo := pool [(1, .class_ 2), (0, u "java/lang/constant/Constable"), (0, .class_ 4), (0, u "java/lang/Object")] 6

/-- java/lang/constant/Constable -/
def k7 : Class := { plain "java/lang/constant/Constable" (some 0) with
  accessFlags := 1537
  interfaces := #[]
  cf := some (fileOf pool7 1 #[] #[] 1537 3 #[] #[])
  fields := #[]
  methods := #[]
  instanceTypes := #[]
  staticTypes := #[]
  resolved := Array.replicate 11 none
  statics := none }

def pool8 : Array CpInfo := pool [(1, .class_ 2), (0, u "java/lang/constant/ConstantDesc"), (0, .class_ 4), (0, u "java/lang/Object")] 32

/-- java/lang/constant/ConstantDesc -/
def k8 : Class := { plain "java/lang/constant/ConstantDesc" (some 0) with
  accessFlags := 1537
  interfaces := #[]
  cf := some (fileOf pool8 1 #[] #[] 1537 3 #[] #[])
  fields := #[]
  methods := #[]
  instanceTypes := #[]
  staticTypes := #[]
  resolved := Array.replicate 37 none
  statics := none }

def pool9 : Array CpInfo := pool [(1, .methodref 2 3), (0, .class_ 4), (0, .nameAndType 5 6), (0, u "java/lang/Object"), (0, u "<init>"), (0, u "()V"), (2, .fieldref 10 11), (0, .class_ 12), (0, .nameAndType 13 14), (0, u "java/lang/String"), (0, u "value"), (0, u "[B"), (0, .fieldref 10 16), (0, .nameAndType 17 18), (0, u "coder"), (0, u "B"), (2, u "hash"), (0, u "I"), (2, u "hashIsZero"), (0, u "Z"), (0, .methodref 10 28), (0, .nameAndType 5 29), (0, u "([CIILjava/lang/Void;)V"), (8, .fieldref 10 39), (0, .nameAndType 40 26), (0, u "COMPACT_STRINGS"), (1, .class_ 44), (1, u "java/lang/StringUTF16"), (0, u "compress"), (1, .methodref 42 48), (0, .nameAndType 49 50), (0, u "coderFromArrayLen"), (0, u "([BI)B"), (56, .class_ 109), (1, u "java/lang/StringLatin1"), (32, u "()Z"), (34, .methodref 42 178), (0, .nameAndType 45 179), (0, u "([CII)[B"), (154, u "()I"), (0, .methodref 10 336), (0, .nameAndType 17 337), (0, u "()B"), (25, u "([BI)C"), (27, u "(II)V"), (35, u "(I)C"), (64, .methodref 10 493), (0, .nameAndType 494 142), (0, u "isLatin1"), (0, .methodref 107 496), (0, .nameAndType 497 363), (0, u "charAt"), (3, u "checkIndex"), (5, u "length"), (67, .class_ 576), (0, u "java/lang/CharSequence"), (22, u "CASE_INSENSITIVE_ORDER"), (0, u "Ljava/util/Comparator;"), (409, u "([C)V"), (42, .fieldref 1054 1055), (0, .class_ 1056), (0, .nameAndType 1057 1058), (0, u "jdk/internal/util/Preconditions"), (0, u "SIOOBE_FORMATTER"), (0, u "Ljava/util/function/BiFunction;"), (0, .methodref 1054 1060), (0, .nameAndType 501 1061), (0, u "(IILjava/util/function/BiFunction;)I"), (39, u "serialPersistentFields"), (0, u "[Ljava/io/ObjectStreamField;"), (0, .class_ 1104), (0, u "java/lang/String$CaseInsensitiveComparator"), (1, .class_ 1107), (0, u "java/io/Serializable"), (0, .class_ 1109), (0, u "java/lang/Comparable"), (0, .class_ 1111), (0, u "java/lang/constant/Constable"), (0, .class_ 1113), (0, u "java/lang/constant/ConstantDesc"), (2, u "serialVersionUID"), (0, u "J"), (3, u "REPL"), (0, u "C"), (2, u "LATIN1"), (1, u "UTF16")] 323

def k9m0 : Method := { name := "<init>", desc := "()V", sig := { parameters := [], returnType := none }, accessFlags := 1, code := none }
def k9c1 : Code := { maxStack := 5, maxLocals := 2, code := jdk_42_method_3_code, exceptionTable := #[], attributes := #[] }
def k9m1 : Method := { name := "<init>", desc := "([C)V", sig := { parameters := [(.array .char)], returnType := none }, accessFlags := 1, code := some k9c1 }
def k9c2 : Code := { maxStack := 2, maxLocals := 1, code := jdk_42_method_54_code, exceptionTable := #[], attributes := #[] }
def k9m2 : Method := { name := "length", desc := "()I", sig := { parameters := [], returnType := some .int }, accessFlags := 1, code := some k9c2 }
def k9c3 : Code := { maxStack := 2, maxLocals := 2, code := jdk_42_method_56_code, exceptionTable := #[], attributes := #[] }
def k9m3 : Method := { name := "charAt", desc := "(I)C", sig := { parameters := [.int], returnType := some .char }, accessFlags := 1, code := some k9c3 }
def k9c4 : Code := { maxStack := 4, maxLocals := 6, code := jdk_42_method_149_code, exceptionTable := #[], attributes := #[] }
def k9m4 : Method := { name := "<init>", desc := "([CIILjava/lang/Void;)V", sig := { parameters := [(.array .char), .int, .int, (.object "java/lang/Void")], returnType := none }, accessFlags := 2, code := some k9c4 }
def k9c5 : Code := { maxStack := 1, maxLocals := 1, code := jdk_42_method_152_code, exceptionTable := #[], attributes := #[] }
def k9m5 : Method := { name := "coder", desc := "()B", sig := { parameters := [], returnType := some .byte }, accessFlags := 0, code := some k9c5 }
def k9c6 : Code := { maxStack := 1, maxLocals := 1, code := jdk_42_method_154_code, exceptionTable := #[], attributes := #[] }
def k9m6 : Method := { name := "isLatin1", desc := "()Z", sig := { parameters := [], returnType := some .boolean }, accessFlags := 0, code := some k9c6 }
def k9c7 : Code := { maxStack := 3, maxLocals := 2, code := jdk_42_method_155_code, exceptionTable := #[], attributes := #[] }
def k9m7 : Method := { name := "checkIndex", desc := "(II)V", sig := { parameters := [.int, .int], returnType := none }, accessFlags := 8, code := some k9c7 }
/-- java/lang/String -/
def k9 : Class := { plain "java/lang/String" (some 0) with
  accessFlags := 49
  interfaces := #[4, 5, 6, 7, 8]
  cf := some (fileOf pool9 10 #[.nestMembers #[1103]] #[{ accessFlags := 1, nameIndex := 5, descriptorIndex := 6, attributes := #[] }, { accessFlags := 1, nameIndex := 5, descriptorIndex := 1010, attributes := #[] }, { accessFlags := 1, nameIndex := 507, descriptorIndex := 334, attributes := #[] }, { accessFlags := 1, nameIndex := 497, descriptorIndex := 427, attributes := #[] }, { accessFlags := 2, nameIndex := 5, descriptorIndex := 29, attributes := #[] }, { accessFlags := 0, nameIndex := 17, descriptorIndex := 337, attributes := #[] }, { accessFlags := 0, nameIndex := 494, descriptorIndex := 142, attributes := #[] }, { accessFlags := 8, nameIndex := 501, descriptorIndex := 391, attributes := #[] }] 49 2 #[1106, 1108, 575, 1110, 1112] #[{ accessFlags := 18, nameIndex := 13, descriptorIndex := 14, attributes := #[] }, { accessFlags := 18, nameIndex := 17, descriptorIndex := 18, attributes := #[] }, { accessFlags := 2, nameIndex := 21, descriptorIndex := 22, attributes := #[] }, { accessFlags := 2, nameIndex := 25, descriptorIndex := 26, attributes := #[] }, { accessFlags := 26, nameIndex := 1116, descriptorIndex := 1117, attributes := #[] }, { accessFlags := 24, nameIndex := 40, descriptorIndex := 26, attributes := #[] }, { accessFlags := 26, nameIndex := 1101, descriptorIndex := 1102, attributes := #[] }, { accessFlags := 26, nameIndex := 1121, descriptorIndex := 1122, attributes := #[] }, { accessFlags := 25, nameIndex := 599, descriptorIndex := 600, attributes := #[] }, { accessFlags := 24, nameIndex := 1125, descriptorIndex := 18, attributes := #[] }, { accessFlags := 24, nameIndex := 1127, descriptorIndex := 18, attributes := #[] }])
  fields := #[{ name := "value", type := (.array .byte), accessFlags := 18, slot := 0, constantValue := 0 }, { name := "coder", type := .byte, accessFlags := 18, slot := 1, constantValue := 0 }, { name := "hash", type := .int, accessFlags := 2, slot := 2, constantValue := 0 }, { name := "hashIsZero", type := .boolean, accessFlags := 2, slot := 3, constantValue := 0 }, { name := "serialVersionUID", type := .long, accessFlags := 26, slot := 0, constantValue := 0 }, { name := "COMPACT_STRINGS", type := .boolean, accessFlags := 24, slot := 1, constantValue := 0 }, { name := "serialPersistentFields", type := (.array (.object "java/io/ObjectStreamField")), accessFlags := 26, slot := 2, constantValue := 0 }, { name := "REPL", type := .char, accessFlags := 26, slot := 3, constantValue := 0 }, { name := "CASE_INSENSITIVE_ORDER", type := (.object "java/util/Comparator"), accessFlags := 25, slot := 4, constantValue := 0 }, { name := "LATIN1", type := .byte, accessFlags := 24, slot := 5, constantValue := 0 }, { name := "UTF16", type := .byte, accessFlags := 24, slot := 6, constantValue := 0 }]
  methods := #[k9m0, k9m1, k9m2, k9m3, k9m4, k9m5, k9m6, k9m7]
  instanceTypes := #[(.array .byte), .byte, .int, .boolean]
  staticTypes := #[.long, .boolean, (.array (.object "java/io/ObjectStreamField")), .char, (.object "java/util/Comparator"), .byte, .byte]
  resolved := Array.replicate 1451 none
  statics := some 1 }

def pool10 : Array CpInfo := pool [(6, .class_ 8), (1, u "java/lang/Object"), (0, u "<init>"), (0, u "()V"), (1, .class_ 14), (1, u "java/lang/StringUTF16"), (31, u "$assertionsDisabled"), (0, u "Z"), (13, u "HI_BYTE_SHIFT"), (0, u "I"), (2, u "LO_BYTE_SHIFT"), (49, .methodref 12 116), (0, .nameAndType 117 118), (0, u "compress"), (0, u "([CI[BII)I"), (3, u "([CII)[B"), (138, u "coderFromArrayLen"), (0, u "([BI)B"), (106, .class_ 371), (1, u "java/lang/StringUTF16$LinesSpliterator"), (58, u "MAX_LENGTH"), (196, .class_ 628), (0, u "java/lang/StringUTF16$CodePointsSpliterator"), (0, .class_ 630), (0, u "java/lang/StringUTF16$CharsSpliterator")] 4

def k10m0 : Method := { name := "<init>", desc := "()V", sig := { parameters := [], returnType := none }, accessFlags := 0, code := none }
def k10c1 : Code := { maxStack := 2, maxLocals := 2, code := jdk_52_method_15_code, exceptionTable := #[], attributes := #[] }
def k10m1 : Method := { name := "coderFromArrayLen", desc := "([BI)B", sig := { parameters := [(.array .byte), .int], returnType := some .byte }, accessFlags := 8, code := some k10c1 }
def k10c2 : Code := { maxStack := 5, maxLocals := 6, code := jdk_52_method_16_code, exceptionTable := #[], attributes := #[] }
def k10m2 : Method := { name := "compress", desc := "([CII)[B", sig := { parameters := [(.array .char), .int, .int], returnType := some (.array .byte) }, accessFlags := 9, code := some k10c2 }
def k10c3 : Code := { maxStack := 3, maxLocals := 7, code := jdk_52_method_21_code, exceptionTable := #[], attributes := #[] }
def k10m3 : Method := { name := "compress", desc := "([CI[BII)I", sig := { parameters := [(.array .char), .int, (.array .byte), .int, .int], returnType := some .int }, accessFlags := 9, code := some k10c3 }
/-- java/lang/StringUTF16 -/
def k10 : Class := { plain "java/lang/StringUTF16" (some 0) with
  accessFlags := 48
  interfaces := #[]
  cf := some (fileOf pool10 12 #[.nestMembers #[627, 629, 369]] #[{ accessFlags := 0, nameIndex := 9, descriptorIndex := 10, attributes := #[] }, { accessFlags := 8, nameIndex := 261, descriptorIndex := 262, attributes := #[] }, { accessFlags := 9, nameIndex := 117, descriptorIndex := 122, attributes := #[] }, { accessFlags := 9, nameIndex := 117, descriptorIndex := 118, attributes := #[] }] 48 6 #[] #[{ accessFlags := 26, nameIndex := 61, descriptorIndex := 62, attributes := #[] }, { accessFlags := 26, nameIndex := 65, descriptorIndex := 62, attributes := #[] }, { accessFlags := 24, nameIndex := 430, descriptorIndex := 62, attributes := #[] }, { accessFlags := 4120, nameIndex := 46, descriptorIndex := 47, attributes := #[] }])
  fields := #[{ name := "HI_BYTE_SHIFT", type := .int, accessFlags := 26, slot := 0, constantValue := 0 }, { name := "LO_BYTE_SHIFT", type := .int, accessFlags := 26, slot := 1, constantValue := 0 }, { name := "MAX_LENGTH", type := .int, accessFlags := 24, slot := 2, constantValue := 0 }, { name := "$assertionsDisabled", type := .boolean, accessFlags := 4120, slot := 3, constantValue := 0 }]
  methods := #[k10m0, k10m1, k10m2, k10m3]
  instanceTypes := #[]
  staticTypes := #[.int, .int, .int, .boolean]
  resolved := Array.replicate 635 none
  statics := none }

def pool11 : Array CpInfo := pool [(2, .class_ 4), (1, u "java/lang/Object"), (0, u "<init>"), (0, u "()V"), (0, .methodref 8 9), (0, .class_ 10), (0, .nameAndType 11 12), (0, u "java/util/Objects"), (0, u "requireNonNull"), (0, u "(Ljava/lang/Object;Ljava/lang/String;)Ljava/lang/Object;"), (0, .interfaceMethodref 14 15), (0, .class_ 16), (0, .nameAndType 17 18), (0, u "java/lang/CharSequence"), (0, u "length"), (0, u "()I"), (9, .interfaceMethodref 14 29), (0, .nameAndType 30 31), (0, u "charAt"), (0, u "(I)C"), (13, .methodref 46 47), (0, .class_ 48), (0, .nameAndType 49 50), (0, u "com/example/cartonmark/cartonmark/gs1/Gs1Digits"), (0, u "requireDigits"), (0, u "(Ljava/lang/String;Ljava/lang/CharSequence;)V"), (7, .methodref 46 59), (0, .nameAndType 60 61), (0, u "isOneOf"), (0, u "(I[I)Z"), (4, .methodref 46 67), (0, .nameAndType 68 69), (0, u "checkDigit"), (0, u "(Ljava/lang/CharSequence;I)I"), (7, .methodref 46 78), (0, .nameAndType 79 80), (0, u "nextWeight"), (0, u "(I)I"), (0, .methodref 46 82), (0, .nameAndType 83 80), (0, u "checkDigitOf"), (20, u "FIRST_WEIGHT"), (0, u "I"), (6, u "requireKey"), (0, u "(Ljava/lang/String;Ljava/lang/CharSequence;[I)V")] 27

def k11m0 : Method := { name := "<init>", desc := "()V", sig := { parameters := [], returnType := none }, accessFlags := 2, code := none }
def k11c1 : Code := { maxStack := 5, maxLocals := 4, code := prog_10_method_2_code, exceptionTable := #[], attributes := #[] }
def k11m1 : Method := { name := "requireDigits", desc := "(Ljava/lang/String;Ljava/lang/CharSequence;)V", sig := { parameters := [(.object "java/lang/String"), (.object "java/lang/CharSequence")], returnType := none }, accessFlags := 8, code := some k11c1 }
def k11c2 : Code := { maxStack := 6, maxLocals := 6, code := prog_10_method_4_code, exceptionTable := #[], attributes := #[] }
def k11m2 : Method := { name := "requireKey", desc := "(Ljava/lang/String;Ljava/lang/CharSequence;[I)V", sig := { parameters := [(.object "java/lang/String"), (.object "java/lang/CharSequence"), (.array .int)], returnType := none }, accessFlags := 136, code := some k11c2 }
def k11c3 : Code := { maxStack := 3, maxLocals := 5, code := prog_10_method_6_code, exceptionTable := #[], attributes := #[] }
def k11m3 : Method := { name := "checkDigit", desc := "(Ljava/lang/CharSequence;I)I", sig := { parameters := [(.object "java/lang/CharSequence"), .int], returnType := some .int }, accessFlags := 10, code := some k11c3 }
def k11c4 : Code := { maxStack := 2, maxLocals := 1, code := prog_10_method_8_code, exceptionTable := #[], attributes := #[] }
def k11m4 : Method := { name := "nextWeight", desc := "(I)I", sig := { parameters := [.int], returnType := some .int }, accessFlags := 10, code := some k11c4 }
def k11c5 : Code := { maxStack := 3, maxLocals := 1, code := prog_10_method_9_code, exceptionTable := #[], attributes := #[] }
def k11m5 : Method := { name := "checkDigitOf", desc := "(I)I", sig := { parameters := [.int], returnType := some .int }, accessFlags := 10, code := some k11c5 }
def k11c6 : Code := { maxStack := 2, maxLocals := 6, code := prog_10_method_11_code, exceptionTable := #[], attributes := #[] }
def k11m6 : Method := { name := "isOneOf", desc := "(I[I)Z", sig := { parameters := [.int, (.array .int)], returnType := some .boolean }, accessFlags := 10, code := some k11c6 }
/-- com/example/cartonmark/cartonmark/gs1/Gs1Digits -/
def k11 : Class := { plain "com/example/cartonmark/cartonmark/gs1/Gs1Digits" (some 0) with
  accessFlags := 49
  interfaces := #[]
  cf := some (fileOf pool11 46 #[] #[{ accessFlags := 2, nameIndex := 5, descriptorIndex := 6, attributes := #[] }, { accessFlags := 8, nameIndex := 49, descriptorIndex := 50, attributes := #[] }, { accessFlags := 136, nameIndex := 112, descriptorIndex := 113, attributes := #[] }, { accessFlags := 10, nameIndex := 68, descriptorIndex := 69, attributes := #[] }, { accessFlags := 10, nameIndex := 79, descriptorIndex := 80, attributes := #[] }, { accessFlags := 10, nameIndex := 83, descriptorIndex := 80, attributes := #[] }, { accessFlags := 10, nameIndex := 60, descriptorIndex := 61, attributes := #[] }] 49 2 #[] #[{ accessFlags := 26, nameIndex := 104, descriptorIndex := 105, attributes := #[] }])
  fields := #[{ name := "FIRST_WEIGHT", type := .int, accessFlags := 26, slot := 0, constantValue := 0 }]
  methods := #[k11m0, k11m1, k11m2, k11m3, k11m4, k11m5, k11m6]
  instanceTypes := #[]
  staticTypes := #[.int]
  resolved := Array.replicate 141 none
  statics := none }

def pool12 : Array CpInfo := pool [(2, .class_ 4), (1, u "java/lang/Object"), (0, u "<init>"), (0, u "()V"), (35, .class_ 44), (1, u "java/util/Objects"), (0, u "requireNonNull"), (48, u "(Ljava/lang/Object;Ljava/lang/String;)Ljava/lang/Object;")] 89

def k12m0 : Method := { name := "<init>", desc := "()V", sig := { parameters := [], returnType := none }, accessFlags := 2, code := none }
def k12c1 : Code := { maxStack := 3, maxLocals := 2, code := jdk_31_method_11_code, exceptionTable := #[], attributes := #[] }
def k12m1 : Method := { name := "requireNonNull", desc := "(Ljava/lang/Object;Ljava/lang/String;)Ljava/lang/Object;", sig := { parameters := [(.object "java/lang/Object"), (.object "java/lang/String")], returnType := some (.object "java/lang/Object") }, accessFlags := 9, code := some k12c1 }
/-- java/util/Objects -/
def k12 : Class := { plain "java/util/Objects" (some 0) with
  accessFlags := 49
  interfaces := #[]
  cf := some (fileOf pool12 42 #[] #[{ accessFlags := 2, nameIndex := 5, descriptorIndex := 6, attributes := #[] }, { accessFlags := 9, nameIndex := 45, descriptorIndex := 94, attributes := #[] }] 49 2 #[] #[])
  fields := #[]
  methods := #[k12m0, k12m1]
  instanceTypes := #[]
  staticTypes := #[]
  resolved := Array.replicate 184 none
  statics := none }

def pool13 : Array CpInfo := pool [(1, .class_ 2), (0, u "java/lang/String"), (1, .class_ 6), (1, u "java/lang/Object"), (0, u "<init>"), (0, u "()V"), (0, .methodref 1 10), (0, .nameAndType 11 12), (0, u "checkIndex"), (0, u "(II)V"), (1, .class_ 16), (1, u "java/lang/StringLatin1"), (36, u "([BI)C"), (67, u "$assertionsDisabled"), (0, u "Z"), (98, .class_ 223), (1, u "java/lang/StringLatin1$LinesSpliterator"), (28, u "charAt"), (137, .class_ 391), (0, u "java/lang/StringLatin1$CharsSpliterator")] 3

def k13m0 : Method := { name := "<init>", desc := "()V", sig := { parameters := [], returnType := none }, accessFlags := 0, code := none }
def k13c1 : Code := { maxStack := 2, maxLocals := 2, code := jdk_43_method_2_code, exceptionTable := #[], attributes := #[] }
def k13m1 : Method := { name := "charAt", desc := "([BI)C", sig := { parameters := [(.array .byte), .int], returnType := some .char }, accessFlags := 9, code := some k13c1 }
/-- java/lang/StringLatin1 -/
def k13 : Class := { plain "java/lang/StringLatin1" (some 0) with
  accessFlags := 48
  interfaces := #[]
  cf := some (fileOf pool13 14 #[.nestMembers #[390, 221]] #[{ accessFlags := 0, nameIndex := 7, descriptorIndex := 8, attributes := #[] }, { accessFlags := 9, nameIndex := 252, descriptorIndex := 53, attributes := #[] }] 48 4 #[] #[{ accessFlags := 4120, nameIndex := 121, descriptorIndex := 122, attributes := #[] }])
  fields := #[{ name := "$assertionsDisabled", type := .boolean, accessFlags := 4120, slot := 0, constantValue := 0 }]
  methods := #[k13m0, k13m1]
  instanceTypes := #[]
  staticTypes := #[.boolean]
  resolved := Array.replicate 395 none
  statics := none }

def pool14 : Array CpInfo := pool [(2, .class_ 4), (1, u "java/lang/Object"), (0, u "<init>"), (0, u "()V"), (17, .class_ 26), (1, u "jdk/internal/util/Preconditions"), (6, u "checkIndex"), (21, .class_ 56), (0, u "jdk/internal/util/Preconditions$4"), (57, .class_ 115), (0, u "jdk/internal/util/Preconditions$1"), (7, u "SIOOBE_FORMATTER"), (0, u "Ljava/util/function/BiFunction;"), (0, .class_ 126), (0, u "jdk/internal/util/Preconditions$2"), (3, u "AIOOBE_FORMATTER"), (0, .class_ 132), (0, u "jdk/internal/util/Preconditions$3"), (3, u "IOOBE_FORMATTER"), (41, u "(IILjava/util/function/BiFunction;)I")] 15

def k14m0 : Method := { name := "<init>", desc := "()V", sig := { parameters := [], returnType := none }, accessFlags := 1, code := none }
def k14c1 : Code := { maxStack := 3, maxLocals := 3, code := jdk_41_method_11_code, exceptionTable := #[], attributes := #[] }
def k14m1 : Method := { name := "checkIndex", desc := "(IILjava/util/function/BiFunction;)I", sig := { parameters := [.int, .int, (.object "java/util/function/BiFunction")], returnType := some .int }, accessFlags := 9, code := some k14c1 }
/-- jdk/internal/util/Preconditions -/
def k14 : Class := { plain "jdk/internal/util/Preconditions" (some 0) with
  accessFlags := 33
  interfaces := #[]
  cf := some (fileOf pool14 24 #[.nestMembers #[55, 131, 125, 114]] #[{ accessFlags := 1, nameIndex := 5, descriptorIndex := 6, attributes := #[] }, { accessFlags := 9, nameIndex := 33, descriptorIndex := 178, attributes := #[] }] 33 2 #[] #[{ accessFlags := 25, nameIndex := 123, descriptorIndex := 124, attributes := #[] }, { accessFlags := 25, nameIndex := 130, descriptorIndex := 124, attributes := #[] }, { accessFlags := 25, nameIndex := 136, descriptorIndex := 124, attributes := #[] }])
  fields := #[{ name := "SIOOBE_FORMATTER", type := (.object "java/util/function/BiFunction"), accessFlags := 25, slot := 0, constantValue := 0 }, { name := "AIOOBE_FORMATTER", type := (.object "java/util/function/BiFunction"), accessFlags := 25, slot := 1, constantValue := 0 }, { name := "IOOBE_FORMATTER", type := (.object "java/util/function/BiFunction"), accessFlags := 25, slot := 2, constantValue := 0 }]
  methods := #[k14m0, k14m1]
  instanceTypes := #[]
  staticTypes := #[(.object "java/util/function/BiFunction"), (.object "java/util/function/BiFunction"), (.object "java/util/function/BiFunction")]
  resolved := Array.replicate 194 none
  statics := some 2 }

def pool15 : Array CpInfo := pool [(1, .methodref 2 3), (0, .class_ 4), (0, .nameAndType 5 6), (0, u "com/example/cartonmark/cartonmark/gs1/SsccDigits"), (0, u "<init>"), (0, u "(J)V"), (6, .fieldref 14 15), (0, .class_ 16), (0, .nameAndType 17 18), (0, u "com/example/cartonmark/cartonmark/gs1/SsccReading"), (0, u "number"), (0, u "J"), (4, u "()V"), (4, u "set")] 4

def k15c0 : Code := { maxStack := 3, maxLocals := 1, code := prog_16_method_1_code, exceptionTable := #[], attributes := #[] }
def k15m0 : Method := { name := "<init>", desc := "()V", sig := { parameters := [], returnType := none }, accessFlags := 1, code := some k15c0 }
def k15c1 : Code := { maxStack := 3, maxLocals := 3, code := prog_16_method_3_code, exceptionTable := #[], attributes := #[] }
def k15m1 : Method := { name := "set", desc := "(J)V", sig := { parameters := [.long], returnType := none }, accessFlags := 1, code := some k15c1 }
/-- com/example/cartonmark/cartonmark/gs1/SsccReading -/
def k15 : Class := { plain "com/example/cartonmark/cartonmark/gs1/SsccReading" (some 2) with
  accessFlags := 49
  interfaces := #[]
  cf := some (fileOf pool15 14 #[] #[{ accessFlags := 1, nameIndex := 5, descriptorIndex := 23, attributes := #[] }, { accessFlags := 1, nameIndex := 28, descriptorIndex := 6, attributes := #[] }] 49 2 #[] #[])
  fields := #[]
  methods := #[k15m0, k15m1]
  instanceTypes := #[.long]
  staticTypes := #[]
  resolved := Array.replicate 33 none
  statics := none }

def pool16 : Array CpInfo := pool [(9, u "<init>"), (6, .class_ 18), (1, u "java/lang/Object"), (0, u "()V"), (1, .class_ 23), (1, u "jdk/internal/util/ArraysSupport"), (0, u "LOG2_ARRAY_LONG_INDEX_SCALE"), (0, u "I"), (2, u "U"), (0, u "Ljdk/internal/misc/Unsafe;"), (8, u "BIG_ENDIAN"), (0, u "Z"), (8, u "LOG2_BYTE_BIT_SIZE"), (4, u "LOG2_ARRAY_INT_INDEX_SCALE"), (54, u "JLA"), (0, u "Ljdk/internal/access/JavaLangAccess;"), (11, u "LOG2_ARRAY_BOOLEAN_INDEX_SCALE"), (9, u "LOG2_ARRAY_BYTE_INDEX_SCALE"), (5, u "LOG2_ARRAY_CHAR_INDEX_SCALE"), (5, u "LOG2_ARRAY_SHORT_INDEX_SCALE"), (18, u "LOG2_ARRAY_FLOAT_INDEX_SCALE"), (24, u "LOG2_ARRAY_DOUBLE_INDEX_SCALE"), (89, u "T_BOOLEAN"), (2, u "T_CHAR"), (1, u "T_FLOAT"), (1, u "T_DOUBLE"), (1, u "T_BYTE"), (1, u "T_SHORT"), (1, u "T_INT"), (1, u "T_LONG"), (1, u "SOFT_MAX_ARRAY_LENGTH")] 83

def k16m0 : Method := { name := "<init>", desc := "()V", sig := { parameters := [], returnType := none }, accessFlags := 2, code := none }
/-- jdk/internal/util/ArraysSupport -/
def k16 : Class := { plain "jdk/internal/util/ArraysSupport" (some 0) with
  accessFlags := 33
  interfaces := #[]
  cf := some (fileOf pool16 21 #[] #[{ accessFlags := 2, nameIndex := 9, descriptorIndex := 19, attributes := #[] }] 33 16 #[] #[{ accessFlags := 24, nameIndex := 28, descriptorIndex := 29, attributes := #[] }, { accessFlags := 26, nameIndex := 38, descriptorIndex := 39, attributes := #[] }, { accessFlags := 25, nameIndex := 121, descriptorIndex := 25, attributes := #[] }, { accessFlags := 25, nameIndex := 131, descriptorIndex := 25, attributes := #[] }, { accessFlags := 25, nameIndex := 137, descriptorIndex := 25, attributes := #[] }, { accessFlags := 25, nameIndex := 143, descriptorIndex := 25, attributes := #[] }, { accessFlags := 25, nameIndex := 53, descriptorIndex := 25, attributes := #[] }, { accessFlags := 25, nameIndex := 24, descriptorIndex := 25, attributes := #[] }, { accessFlags := 25, nameIndex := 162, descriptorIndex := 25, attributes := #[] }, { accessFlags := 25, nameIndex := 187, descriptorIndex := 25, attributes := #[] }, { accessFlags := 26, nameIndex := 48, descriptorIndex := 25, attributes := #[] }, { accessFlags := 25, nameIndex := 277, descriptorIndex := 25, attributes := #[] }, { accessFlags := 25, nameIndex := 280, descriptorIndex := 25, attributes := #[] }, { accessFlags := 25, nameIndex := 282, descriptorIndex := 25, attributes := #[] }, { accessFlags := 25, nameIndex := 284, descriptorIndex := 25, attributes := #[] }, { accessFlags := 25, nameIndex := 286, descriptorIndex := 25, attributes := #[] }, { accessFlags := 25, nameIndex := 288, descriptorIndex := 25, attributes := #[] }, { accessFlags := 25, nameIndex := 290, descriptorIndex := 25, attributes := #[] }, { accessFlags := 25, nameIndex := 292, descriptorIndex := 25, attributes := #[] }, { accessFlags := 26, nameIndex := 108, descriptorIndex := 109, attributes := #[] }, { accessFlags := 25, nameIndex := 294, descriptorIndex := 25, attributes := #[] }])
  fields := #[{ name := "U", type := (.object "jdk/internal/misc/Unsafe"), accessFlags := 24, slot := 0, constantValue := 0 }, { name := "BIG_ENDIAN", type := .boolean, accessFlags := 26, slot := 1, constantValue := 0 }, { name := "LOG2_ARRAY_BOOLEAN_INDEX_SCALE", type := .int, accessFlags := 25, slot := 2, constantValue := 0 }, { name := "LOG2_ARRAY_BYTE_INDEX_SCALE", type := .int, accessFlags := 25, slot := 3, constantValue := 0 }, { name := "LOG2_ARRAY_CHAR_INDEX_SCALE", type := .int, accessFlags := 25, slot := 4, constantValue := 0 }, { name := "LOG2_ARRAY_SHORT_INDEX_SCALE", type := .int, accessFlags := 25, slot := 5, constantValue := 0 }, { name := "LOG2_ARRAY_INT_INDEX_SCALE", type := .int, accessFlags := 25, slot := 6, constantValue := 0 }, { name := "LOG2_ARRAY_LONG_INDEX_SCALE", type := .int, accessFlags := 25, slot := 7, constantValue := 0 }, { name := "LOG2_ARRAY_FLOAT_INDEX_SCALE", type := .int, accessFlags := 25, slot := 8, constantValue := 0 }, { name := "LOG2_ARRAY_DOUBLE_INDEX_SCALE", type := .int, accessFlags := 25, slot := 9, constantValue := 0 }, { name := "LOG2_BYTE_BIT_SIZE", type := .int, accessFlags := 26, slot := 10, constantValue := 0 }, { name := "T_BOOLEAN", type := .int, accessFlags := 25, slot := 11, constantValue := 0 }, { name := "T_CHAR", type := .int, accessFlags := 25, slot := 12, constantValue := 0 }, { name := "T_FLOAT", type := .int, accessFlags := 25, slot := 13, constantValue := 0 }, { name := "T_DOUBLE", type := .int, accessFlags := 25, slot := 14, constantValue := 0 }, { name := "T_BYTE", type := .int, accessFlags := 25, slot := 15, constantValue := 0 }, { name := "T_SHORT", type := .int, accessFlags := 25, slot := 16, constantValue := 0 }, { name := "T_INT", type := .int, accessFlags := 25, slot := 17, constantValue := 0 }, { name := "T_LONG", type := .int, accessFlags := 25, slot := 18, constantValue := 0 }, { name := "JLA", type := (.object "jdk/internal/access/JavaLangAccess"), accessFlags := 26, slot := 19, constantValue := 0 }, { name := "SOFT_MAX_ARRAY_LENGTH", type := .int, accessFlags := 25, slot := 20, constantValue := 0 }]
  methods := #[k16m0]
  instanceTypes := #[]
  staticTypes := #[(.object "jdk/internal/misc/Unsafe"), .boolean, .int, .int, .int, .int, .int, .int, .int, .int, .int, .int, .int, .int, .int, .int, .int, .int, .int, (.object "jdk/internal/access/JavaLangAccess"), .int]
  resolved := Array.replicate 378 none
  statics := none }

def pool17 : Array CpInfo := pool [(1, u "java/lang/Cloneable"), (0, .class_ 1), (0, u "java/lang/Object"), (0, .class_ 3)] 3

/-- java/lang/Cloneable -/
def k17 : Class := { plain "java/lang/Cloneable" (some 0) with
  accessFlags := 1537
  interfaces := #[]
  cf := some (fileOf pool17 2 #[] #[] 1537 4 #[] #[])
  fields := #[]
  methods := #[]
  instanceTypes := #[]
  staticTypes := #[]
  resolved := Array.replicate 8 none
  statics := none }

/-- the primitive byte -/
def k18 : Class := { plain "byte" none with kind := .primitive 'B', accessFlags := 0x411 }
/-- [B -/
def k19 : Class := { plain "[B" (some 0) with kind := .array 18 .byte, interfaces := #[17, 4], accessFlags := 1041 }

/-- the primitive char -/
def k20 : Class := { plain "char" none with kind := .primitive 'C', accessFlags := 0x411 }
/-- [C -/
def k21 : Class := { plain "[C" (some 0) with kind := .array 20 .char, interfaces := #[17, 4], accessFlags := 1041 }

/-- the primitive int -/
def k22 : Class := { plain "int" none with kind := .primitive 'I', accessFlags := 0x411 }
/-- [I -/
def k23 : Class := { plain "[I" (some 0) with kind := .array 22 .int, interfaces := #[17, 4], accessFlags := 1041 }

def heap : Heap := #[{ cls := 3, slots := #[.int 0, .ref 3, .null, .int 0, .int 0], vm := .statics 3 },
  { cls := 9, slots := #[.long 0, .int 1, .null, .int 0, .null, .int 0, .int 0], vm := .statics 9 },
  { cls := 14, slots := #[.null, .null, .null], vm := .statics 14 },
  { cls := 23, slots := #[.int 18], vm := .none }]
def classes : Array Class := #[k0, k1, k2, k3, k4, k5, k6, k7, k8, k9, k10, k11, k12, k13, k14, k15, k16, k17, k18, k19, k20, k21, k22, k23]
def interned : List (Array UInt16 × Addr) := []
def slotsUsed : Nat := 16
def theMethod : MethodId := ⟨1, 1⟩
def args0 : Array Value := #[.long 5, .long 6, .int 1]
def aboutOver (below : List Frame) : State where
  vm := { classes := classes, interned := interned.toArray }
  heap := heap
  slotsUsed := slotsUsed
  threads := #[{ frames := .invoking theMethod args0 :: below }]
def below0 : List Frame := [.native { method := ⟨0, 0⟩, args := #[] }]
def about1 : State := aboutOver below0
def p0 : Program := .bare "" "" ""
def e0 : Env := launch0.env 0 0 0
theorem w_frames : about1.frames = Frame.invoking theMethod args0 :: below0 := rfl
set_option maxRecDepth 65536 in
theorem w_args : argsFit about1.vm theMethod args0 = true := by decide +kernel
set_option maxRecDepth 65536 in
theorem w_heap : heapFits about1 = true := by decide +kernel
set_option maxRecDepth 65536 in
theorem w_runnable : about1.curStatus? = some .runnable := by decide +kernel
set_option maxRecDepth 65536 in
theorem w_alone : about1.alone = true := by decide +kernel
set_option maxRecDepth 65536 in
theorem w_named : about1.methodNamed? x = some theMethod := by decide +kernel
set_option maxRecDepth 65536 in
theorem w_hears : about1.hears theMethod below0 = true := by decide +kernel
set_option maxRecDepth 65536 in
theorem w_ripe : about1.ripe theMethod args0 below0 = true := by decide +kernel
theorem w_running : about1.status = .running := rfl
set_option maxRecDepth 65536 in
theorem w_room : about1.hasRoom e0.platform room_1 = true :=
  launch0.hasRoom_least _ room_1 (by decide +kernel) (by decide +kernel) (by decide +kernel) (by decide +kernel) (by decide +kernel) (by decide +kernel)
theorem allAtoms_all (ts : List Jvm.Cond) (a : Array Jvm.Value) (st : Jvm.State) : (allAtoms ts).before a st = ts.all (fun c => c.before a st) := by
  induction ts with
  | nil => rfl
  | cons c t ih =>
    show (Jvm.Cond.and c (allAtoms t)).before a st = _
    rw [Jvm.Cond.before_and, ih, List.all_cons]
def words1 : List Jvm.Cond := Jvm.Cond.code x code maxLocals ret :: tables_1
/-- a 'code' word, met by the world's own term for the bytes: nothing is compared byte by byte -/
theorem code_word {y : MethodName} {bytes : ByteArray} {mx : Nat} {rt : Option FieldType} {a : Array Value} {s : State} {m : MethodId} {meth : Method} {c : Code} (h1 : s.methodNamed? y = some m) (h2 : s.vm.method? m = some meth) (h3 : meth.code = some c) (h4 : c.code = bytes)
    (h5 : (c.maxLocals == mx && c.exceptionTable.isEmpty && decide (c.maxStack ≤ mostOperands) && decide (meth.sig.returnType = rt) && !meth.locks && decide (parseMethodDescriptor y.desc = some meth.sig)) = true) : (Jvm.Cond.code y bytes mx rt).before a s = true := by
  simp only [Bool.and_eq_true, beq_iff_eq, Bool.not_eq_true', decide_eq_true_eq] at h5
  obtain ⟨⟨⟨⟨⟨g1, g2⟩, g3⟩, g4⟩, g5⟩, g6⟩ := h5
  simp [Cond.before, Cond.holds, Cond.value, h1, h2, h3, h4, g1, g2, g3, g4, g5, g6]
def isCode : Jvm.Cond → Bool
  | .code _ _ _ _ => true
  | _ => false
theorem all_split {L : List Jvm.Cond} {P : Jvm.Cond → Bool} (h1 : L.all (fun c => isCode c || P c) = true) (h2 : ∀ c ∈ L.filter isCode, P c = true) : L.all P = true := by
  refine List.all_eq_true.mpr fun c hc => ?_
  have h := List.all_eq_true.mp h1 c hc
  rcases Bool.eq_false_or_eq_true (isCode c) with hi | hi
  · exact h2 c (List.mem_filter.mpr ⟨hc, hi⟩)
  · simpa [hi] using h
set_option maxRecDepth 65536 in
theorem w_c0 : (Jvm.Cond.code x code maxLocals ret).before args0 about1 = true := code_word (m := ⟨1, 1⟩) (meth := k1m1) (c := k1c1) (by decide +kernel) rfl rfl rfl (by decide +kernel)
set_option maxRecDepth 65536 in
theorem w_c1 : (Jvm.Cond.code ({ cls := "com/example/cartonmark/cartonmark/gs1/SsccEqualsPinLaw", name := "check", desc := "(J)I" } : Jvm.MethodName) method_4_code (4 : Nat) (Option.some Jvm.ClassFile.FieldType.int)).before args0 about1 = true := code_word (m := ⟨1, 3⟩) (meth := k1m3) (c := k1c3) (by decide +kernel) rfl rfl rfl (by decide +kernel)
set_option maxRecDepth 65536 in
theorem w_c2 : (Jvm.Cond.code ({ cls := "com/example/cartonmark/cartonmark/gs1/SsccEqualsPinLaw", name := "d", desc := "(JJ)I" } : Jvm.MethodName) method_3_code (4 : Nat) (Option.some Jvm.ClassFile.FieldType.int)).before args0 about1 = true := code_word (m := ⟨1, 2⟩) (meth := k1m2) (c := k1c2) (by decide +kernel) rfl rfl rfl (by decide +kernel)
set_option maxRecDepth 65536 in
theorem w_c3 : (Jvm.Cond.code ({ cls := "com/example/cartonmark/cartonmark/gs1/SsccEqualsPinLaw", name := "chars", desc := "(J)[C" } : Jvm.MethodName) method_5_code (3 : Nat) (Option.some (Jvm.ClassFile.FieldType.array Jvm.ClassFile.FieldType.char))).before args0 about1 = true := code_word (m := ⟨1, 4⟩) (meth := k1m4) (c := k1c4) (by decide +kernel) rfl rfl rfl (by decide +kernel)
set_option maxRecDepth 65536 in
theorem w_c4 : (Jvm.Cond.code ({ cls := "java/lang/String", name := "<init>", desc := "([C)V" } : Jvm.MethodName) jdk_42_method_3_code (2 : Nat) (Option.none : Option Jvm.ClassFile.FieldType)).before args0 about1 = true := code_word (m := ⟨9, 1⟩) (meth := k9m1) (c := k9c1) (by decide +kernel) rfl rfl rfl (by decide +kernel)
set_option maxRecDepth 65536 in
theorem w_c5 : (Jvm.Cond.code ({ cls := "java/lang/String", name := "<init>", desc := "([CIILjava/lang/Void;)V" } : Jvm.MethodName) jdk_42_method_149_code (6 : Nat) (Option.none : Option Jvm.ClassFile.FieldType)).before args0 about1 = true := code_word (m := ⟨9, 4⟩) (meth := k9m4) (c := k9c4) (by decide +kernel) rfl rfl rfl (by decide +kernel)
set_option maxRecDepth 65536 in
theorem w_c6 : (Jvm.Cond.code ({ cls := "java/lang/Object", name := "<init>", desc := "()V" } : Jvm.MethodName) object_method_1_code (1 : Nat) (Option.none : Option Jvm.ClassFile.FieldType)).before args0 about1 = true := code_word (m := ⟨0, 0⟩) (meth := k0m0) (c := k0c0) (by decide +kernel) rfl rfl rfl (by decide +kernel)
set_option maxRecDepth 65536 in
theorem w_c7 : (Jvm.Cond.code ({ cls := "java/lang/StringUTF16", name := "compress", desc := "([CII)[B" } : Jvm.MethodName) jdk_52_method_16_code (6 : Nat) (Option.some (Jvm.ClassFile.FieldType.array Jvm.ClassFile.FieldType.byte))).before args0 about1 = true := code_word (m := ⟨10, 2⟩) (meth := k10m2) (c := k10c2) (by decide +kernel) rfl rfl rfl (by decide +kernel)
set_option maxRecDepth 65536 in
theorem w_c8 : (Jvm.Cond.code ({ cls := "java/lang/StringUTF16", name := "compress", desc := "([CI[BII)I" } : Jvm.MethodName) jdk_52_method_21_code (7 : Nat) (Option.some Jvm.ClassFile.FieldType.int)).before args0 about1 = true := code_word (m := ⟨10, 3⟩) (meth := k10m3) (c := k10c3) (by decide +kernel) rfl rfl rfl (by decide +kernel)
set_option maxRecDepth 65536 in
theorem w_c9 : (Jvm.Cond.code ({ cls := "java/lang/StringUTF16", name := "coderFromArrayLen", desc := "([BI)B" } : Jvm.MethodName) jdk_52_method_15_code (2 : Nat) (Option.some Jvm.ClassFile.FieldType.byte)).before args0 about1 = true := code_word (m := ⟨10, 1⟩) (meth := k10m1) (c := k10c1) (by decide +kernel) rfl rfl rfl (by decide +kernel)
set_option maxRecDepth 65536 in
theorem w_c10 : (Jvm.Cond.code ({ cls := "com/example/cartonmark/cartonmark/gs1/Sscc", name := "<init>", desc := "(Ljava/lang/String;)V" } : Jvm.MethodName) prog_13_method_1_code (2 : Nat) (Option.none : Option Jvm.ClassFile.FieldType)).before args0 about1 = true := code_word (m := ⟨3, 0⟩) (meth := k3m0) (c := k3c0) (by decide +kernel) rfl rfl rfl (by decide +kernel)
set_option maxRecDepth 65536 in
theorem w_c11 : (Jvm.Cond.code ({ cls := "com/example/cartonmark/cartonmark/gs1/Sscc", name := "numberOf", desc := "(Ljava/lang/CharSequence;)J" } : Jvm.MethodName) prog_13_method_5_code (4 : Nat) (Option.some Jvm.ClassFile.FieldType.long)).before args0 about1 = true := code_word (m := ⟨3, 2⟩) (meth := k3m2) (c := k3c2) (by decide +kernel) rfl rfl rfl (by decide +kernel)
set_option maxRecDepth 65536 in
theorem w_c12 : (Jvm.Cond.code ({ cls := "com/example/cartonmark/cartonmark/gs1/Gs1Digits", name := "requireKey", desc := "(Ljava/lang/String;Ljava/lang/CharSequence;[I)V" } : Jvm.MethodName) prog_10_method_4_code (6 : Nat) (Option.none : Option Jvm.ClassFile.FieldType)).before args0 about1 = true := code_word (m := ⟨11, 2⟩) (meth := k11m2) (c := k11c2) (by decide +kernel) rfl rfl rfl (by decide +kernel)
set_option maxRecDepth 65536 in
theorem w_c13 : (Jvm.Cond.code ({ cls := "com/example/cartonmark/cartonmark/gs1/Gs1Digits", name := "requireDigits", desc := "(Ljava/lang/String;Ljava/lang/CharSequence;)V" } : Jvm.MethodName) prog_10_method_2_code (4 : Nat) (Option.none : Option Jvm.ClassFile.FieldType)).before args0 about1 = true := code_word (m := ⟨11, 1⟩) (meth := k11m1) (c := k11c1) (by decide +kernel) rfl rfl rfl (by decide +kernel)
set_option maxRecDepth 65536 in
theorem w_c14 : (Jvm.Cond.code ({ cls := "java/util/Objects", name := "requireNonNull", desc := "(Ljava/lang/Object;Ljava/lang/String;)Ljava/lang/Object;" } : Jvm.MethodName) jdk_31_method_11_code (2 : Nat) (Option.some (Jvm.ClassFile.FieldType.object "java/lang/Object"))).before args0 about1 = true := code_word (m := ⟨12, 1⟩) (meth := k12m1) (c := k12c1) (by decide +kernel) rfl rfl rfl (by decide +kernel)
set_option maxRecDepth 65536 in
theorem w_c15 : (Jvm.Cond.code ({ cls := "java/lang/String", name := "length", desc := "()I" } : Jvm.MethodName) jdk_42_method_54_code (1 : Nat) (Option.some Jvm.ClassFile.FieldType.int)).before args0 about1 = true := code_word (m := ⟨9, 2⟩) (meth := k9m2) (c := k9c2) (by decide +kernel) rfl rfl rfl (by decide +kernel)
set_option maxRecDepth 65536 in
theorem w_c16 : (Jvm.Cond.code ({ cls := "java/lang/String", name := "coder", desc := "()B" } : Jvm.MethodName) jdk_42_method_152_code (1 : Nat) (Option.some Jvm.ClassFile.FieldType.byte)).before args0 about1 = true := code_word (m := ⟨9, 5⟩) (meth := k9m5) (c := k9c5) (by decide +kernel) rfl rfl rfl (by decide +kernel)
set_option maxRecDepth 65536 in
theorem w_c17 : (Jvm.Cond.code ({ cls := "java/lang/String", name := "charAt", desc := "(I)C" } : Jvm.MethodName) jdk_42_method_56_code (2 : Nat) (Option.some Jvm.ClassFile.FieldType.char)).before args0 about1 = true := code_word (m := ⟨9, 3⟩) (meth := k9m3) (c := k9c3) (by decide +kernel) rfl rfl rfl (by decide +kernel)
set_option maxRecDepth 65536 in
theorem w_c18 : (Jvm.Cond.code ({ cls := "java/lang/String", name := "isLatin1", desc := "()Z" } : Jvm.MethodName) jdk_42_method_154_code (1 : Nat) (Option.some Jvm.ClassFile.FieldType.boolean)).before args0 about1 = true := code_word (m := ⟨9, 6⟩) (meth := k9m6) (c := k9c6) (by decide +kernel) rfl rfl rfl (by decide +kernel)
set_option maxRecDepth 65536 in
theorem w_c19 : (Jvm.Cond.code ({ cls := "java/lang/StringLatin1", name := "charAt", desc := "([BI)C" } : Jvm.MethodName) jdk_43_method_2_code (2 : Nat) (Option.some Jvm.ClassFile.FieldType.char)).before args0 about1 = true := code_word (m := ⟨13, 1⟩) (meth := k13m1) (c := k13c1) (by decide +kernel) rfl rfl rfl (by decide +kernel)
set_option maxRecDepth 65536 in
theorem w_c20 : (Jvm.Cond.code ({ cls := "java/lang/String", name := "checkIndex", desc := "(II)V" } : Jvm.MethodName) jdk_42_method_155_code (2 : Nat) (Option.none : Option Jvm.ClassFile.FieldType)).before args0 about1 = true := code_word (m := ⟨9, 7⟩) (meth := k9m7) (c := k9c7) (by decide +kernel) rfl rfl rfl (by decide +kernel)
set_option maxRecDepth 65536 in
theorem w_c21 : (Jvm.Cond.code ({ cls := "jdk/internal/util/Preconditions", name := "checkIndex", desc := "(IILjava/util/function/BiFunction;)I" } : Jvm.MethodName) jdk_41_method_11_code (3 : Nat) (Option.some Jvm.ClassFile.FieldType.int)).before args0 about1 = true := code_word (m := ⟨14, 1⟩) (meth := k14m1) (c := k14c1) (by decide +kernel) rfl rfl rfl (by decide +kernel)
set_option maxRecDepth 65536 in
theorem w_c22 : (Jvm.Cond.code ({ cls := "com/example/cartonmark/cartonmark/gs1/Gs1Digits", name := "isOneOf", desc := "(I[I)Z" } : Jvm.MethodName) prog_10_method_11_code (6 : Nat) (Option.some Jvm.ClassFile.FieldType.boolean)).before args0 about1 = true := code_word (m := ⟨11, 6⟩) (meth := k11m6) (c := k11c6) (by decide +kernel) rfl rfl rfl (by decide +kernel)
set_option maxRecDepth 65536 in
theorem w_c23 : (Jvm.Cond.code ({ cls := "com/example/cartonmark/cartonmark/gs1/Gs1Digits", name := "checkDigit", desc := "(Ljava/lang/CharSequence;I)I" } : Jvm.MethodName) prog_10_method_6_code (5 : Nat) (Option.some Jvm.ClassFile.FieldType.int)).before args0 about1 = true := code_word (m := ⟨11, 3⟩) (meth := k11m3) (c := k11c3) (by decide +kernel) rfl rfl rfl (by decide +kernel)
set_option maxRecDepth 65536 in
theorem w_c24 : (Jvm.Cond.code ({ cls := "com/example/cartonmark/cartonmark/gs1/Gs1Digits", name := "nextWeight", desc := "(I)I" } : Jvm.MethodName) prog_10_method_8_code (1 : Nat) (Option.some Jvm.ClassFile.FieldType.int)).before args0 about1 = true := code_word (m := ⟨11, 4⟩) (meth := k11m4) (c := k11c4) (by decide +kernel) rfl rfl rfl (by decide +kernel)
set_option maxRecDepth 65536 in
theorem w_c25 : (Jvm.Cond.code ({ cls := "com/example/cartonmark/cartonmark/gs1/Gs1Digits", name := "checkDigitOf", desc := "(I)I" } : Jvm.MethodName) prog_10_method_9_code (1 : Nat) (Option.some Jvm.ClassFile.FieldType.int)).before args0 about1 = true := code_word (m := ⟨11, 5⟩) (meth := k11m5) (c := k11c5) (by decide +kernel) rfl rfl rfl (by decide +kernel)
set_option maxRecDepth 65536 in
theorem w_c26 : (Jvm.Cond.code ({ cls := "com/example/cartonmark/cartonmark/gs1/Sscc", name := "<init>", desc := "(J)V" } : Jvm.MethodName) prog_13_method_2_code (3 : Nat) (Option.none : Option Jvm.ClassFile.FieldType)).before args0 about1 = true := code_word (m := ⟨3, 1⟩) (meth := k3m1) (c := k3c1) (by decide +kernel) rfl rfl rfl (by decide +kernel)
set_option maxRecDepth 65536 in
theorem w_c27 : (Jvm.Cond.code ({ cls := "com/example/cartonmark/cartonmark/gs1/SsccDigits", name := "<init>", desc := "(J)V" } : Jvm.MethodName) prog_14_method_1_code (3 : Nat) (Option.none : Option Jvm.ClassFile.FieldType)).before args0 about1 = true := code_word (m := ⟨2, 0⟩) (meth := k2m0) (c := k2c0) (by decide +kernel) rfl rfl rfl (by decide +kernel)
set_option maxRecDepth 65536 in
theorem w_c28 : (Jvm.Cond.code ({ cls := "com/example/cartonmark/cartonmark/gs1/SsccReading", name := "<init>", desc := "()V" } : Jvm.MethodName) prog_16_method_1_code (1 : Nat) (Option.none : Option Jvm.ClassFile.FieldType)).before args0 about1 = true := code_word (m := ⟨15, 0⟩) (meth := k15m0) (c := k15c0) (by decide +kernel) rfl rfl rfl (by decide +kernel)
set_option maxRecDepth 65536 in
theorem w_c29 : (Jvm.Cond.code ({ cls := "com/example/cartonmark/cartonmark/gs1/SsccReading", name := "set", desc := "(J)V" } : Jvm.MethodName) prog_16_method_3_code (3 : Nat) (Option.none : Option Jvm.ClassFile.FieldType)).before args0 about1 = true := code_word (m := ⟨15, 1⟩) (meth := k15m1) (c := k15c1) (by decide +kernel) rfl rfl rfl (by decide +kernel)
set_option maxRecDepth 65536 in
theorem w_c30 : (Jvm.Cond.code ({ cls := "com/example/cartonmark/cartonmark/gs1/Sscc", name := "equals", desc := "(Ljava/lang/Object;)Z" } : Jvm.MethodName) prog_13_method_13_code (2 : Nat) (Option.some Jvm.ClassFile.FieldType.boolean)).before args0 about1 = true := code_word (m := ⟨3, 3⟩) (meth := k3m3) (c := k3c3) (by decide +kernel) rfl rfl rfl (by decide +kernel)
def codes1 : List Jvm.Cond := [Jvm.Cond.code x code maxLocals ret, Jvm.Cond.code ({ cls := "com/example/cartonmark/cartonmark/gs1/SsccEqualsPinLaw", name := "check", desc := "(J)I" } : Jvm.MethodName) method_4_code (4 : Nat) (Option.some Jvm.ClassFile.FieldType.int), Jvm.Cond.code ({ cls := "com/example/cartonmark/cartonmark/gs1/SsccEqualsPinLaw", name := "d", desc := "(JJ)I" } : Jvm.MethodName) method_3_code (4 : Nat) (Option.some Jvm.ClassFile.FieldType.int), Jvm.Cond.code ({ cls := "com/example/cartonmark/cartonmark/gs1/SsccEqualsPinLaw", name := "chars", desc := "(J)[C" } : Jvm.MethodName) method_5_code (3 : Nat) (Option.some (Jvm.ClassFile.FieldType.array Jvm.ClassFile.FieldType.char)), Jvm.Cond.code ({ cls := "java/lang/String", name := "<init>", desc := "([C)V" } : Jvm.MethodName) jdk_42_method_3_code (2 : Nat) (Option.none : Option Jvm.ClassFile.FieldType), Jvm.Cond.code ({ cls := "java/lang/String", name := "<init>", desc := "([CIILjava/lang/Void;)V" } : Jvm.MethodName) jdk_42_method_149_code (6 : Nat) (Option.none : Option Jvm.ClassFile.FieldType), Jvm.Cond.code ({ cls := "java/lang/Object", name := "<init>", desc := "()V" } : Jvm.MethodName) object_method_1_code (1 : Nat) (Option.none : Option Jvm.ClassFile.FieldType), Jvm.Cond.code ({ cls := "java/lang/StringUTF16", name := "compress", desc := "([CII)[B" } : Jvm.MethodName) jdk_52_method_16_code (6 : Nat) (Option.some (Jvm.ClassFile.FieldType.array Jvm.ClassFile.FieldType.byte)), Jvm.Cond.code ({ cls := "java/lang/StringUTF16", name := "compress", desc := "([CI[BII)I" } : Jvm.MethodName) jdk_52_method_21_code (7 : Nat) (Option.some Jvm.ClassFile.FieldType.int), Jvm.Cond.code ({ cls := "java/lang/StringUTF16", name := "coderFromArrayLen", desc := "([BI)B" } : Jvm.MethodName) jdk_52_method_15_code (2 : Nat) (Option.some Jvm.ClassFile.FieldType.byte), Jvm.Cond.code ({ cls := "com/example/cartonmark/cartonmark/gs1/Sscc", name := "<init>", desc := "(Ljava/lang/String;)V" } : Jvm.MethodName) prog_13_method_1_code (2 : Nat) (Option.none : Option Jvm.ClassFile.FieldType), Jvm.Cond.code ({ cls := "com/example/cartonmark/cartonmark/gs1/Sscc", name := "numberOf", desc := "(Ljava/lang/CharSequence;)J" } : Jvm.MethodName) prog_13_method_5_code (4 : Nat) (Option.some Jvm.ClassFile.FieldType.long), Jvm.Cond.code ({ cls := "com/example/cartonmark/cartonmark/gs1/Gs1Digits", name := "requireKey", desc := "(Ljava/lang/String;Ljava/lang/CharSequence;[I)V" } : Jvm.MethodName) prog_10_method_4_code (6 : Nat) (Option.none : Option Jvm.ClassFile.FieldType), Jvm.Cond.code ({ cls := "com/example/cartonmark/cartonmark/gs1/Gs1Digits", name := "requireDigits", desc := "(Ljava/lang/String;Ljava/lang/CharSequence;)V" } : Jvm.MethodName) prog_10_method_2_code (4 : Nat) (Option.none : Option Jvm.ClassFile.FieldType), Jvm.Cond.code ({ cls := "java/util/Objects", name := "requireNonNull", desc := "(Ljava/lang/Object;Ljava/lang/String;)Ljava/lang/Object;" } : Jvm.MethodName) jdk_31_method_11_code (2 : Nat) (Option.some (Jvm.ClassFile.FieldType.object "java/lang/Object")), Jvm.Cond.code ({ cls := "java/lang/String", name := "length", desc := "()I" } : Jvm.MethodName) jdk_42_method_54_code (1 : Nat) (Option.some Jvm.ClassFile.FieldType.int), Jvm.Cond.code ({ cls := "java/lang/String", name := "coder", desc := "()B" } : Jvm.MethodName) jdk_42_method_152_code (1 : Nat) (Option.some Jvm.ClassFile.FieldType.byte), Jvm.Cond.code ({ cls := "java/lang/String", name := "charAt", desc := "(I)C" } : Jvm.MethodName) jdk_42_method_56_code (2 : Nat) (Option.some Jvm.ClassFile.FieldType.char), Jvm.Cond.code ({ cls := "java/lang/String", name := "isLatin1", desc := "()Z" } : Jvm.MethodName) jdk_42_method_154_code (1 : Nat) (Option.some Jvm.ClassFile.FieldType.boolean), Jvm.Cond.code ({ cls := "java/lang/StringLatin1", name := "charAt", desc := "([BI)C" } : Jvm.MethodName) jdk_43_method_2_code (2 : Nat) (Option.some Jvm.ClassFile.FieldType.char), Jvm.Cond.code ({ cls := "java/lang/String", name := "checkIndex", desc := "(II)V" } : Jvm.MethodName) jdk_42_method_155_code (2 : Nat) (Option.none : Option Jvm.ClassFile.FieldType), Jvm.Cond.code ({ cls := "jdk/internal/util/Preconditions", name := "checkIndex", desc := "(IILjava/util/function/BiFunction;)I" } : Jvm.MethodName) jdk_41_method_11_code (3 : Nat) (Option.some Jvm.ClassFile.FieldType.int), Jvm.Cond.code ({ cls := "com/example/cartonmark/cartonmark/gs1/Gs1Digits", name := "isOneOf", desc := "(I[I)Z" } : Jvm.MethodName) prog_10_method_11_code (6 : Nat) (Option.some Jvm.ClassFile.FieldType.boolean), Jvm.Cond.code ({ cls := "com/example/cartonmark/cartonmark/gs1/Gs1Digits", name := "checkDigit", desc := "(Ljava/lang/CharSequence;I)I" } : Jvm.MethodName) prog_10_method_6_code (5 : Nat) (Option.some Jvm.ClassFile.FieldType.int), Jvm.Cond.code ({ cls := "com/example/cartonmark/cartonmark/gs1/Gs1Digits", name := "nextWeight", desc := "(I)I" } : Jvm.MethodName) prog_10_method_8_code (1 : Nat) (Option.some Jvm.ClassFile.FieldType.int), Jvm.Cond.code ({ cls := "com/example/cartonmark/cartonmark/gs1/Gs1Digits", name := "checkDigitOf", desc := "(I)I" } : Jvm.MethodName) prog_10_method_9_code (1 : Nat) (Option.some Jvm.ClassFile.FieldType.int), Jvm.Cond.code ({ cls := "com/example/cartonmark/cartonmark/gs1/Sscc", name := "<init>", desc := "(J)V" } : Jvm.MethodName) prog_13_method_2_code (3 : Nat) (Option.none : Option Jvm.ClassFile.FieldType), Jvm.Cond.code ({ cls := "com/example/cartonmark/cartonmark/gs1/SsccDigits", name := "<init>", desc := "(J)V" } : Jvm.MethodName) prog_14_method_1_code (3 : Nat) (Option.none : Option Jvm.ClassFile.FieldType), Jvm.Cond.code ({ cls := "com/example/cartonmark/cartonmark/gs1/SsccReading", name := "<init>", desc := "()V" } : Jvm.MethodName) prog_16_method_1_code (1 : Nat) (Option.none : Option Jvm.ClassFile.FieldType), Jvm.Cond.code ({ cls := "com/example/cartonmark/cartonmark/gs1/SsccReading", name := "set", desc := "(J)V" } : Jvm.MethodName) prog_16_method_3_code (3 : Nat) (Option.none : Option Jvm.ClassFile.FieldType), Jvm.Cond.code ({ cls := "com/example/cartonmark/cartonmark/gs1/Sscc", name := "equals", desc := "(Ljava/lang/Object;)Z" } : Jvm.MethodName) prog_13_method_13_code (2 : Nat) (Option.some Jvm.ClassFile.FieldType.boolean)]
set_option maxRecDepth 65536 in
theorem codes_eq : words1.filter isCode = codes1 := rfl
theorem w_codes : ∀ c ∈ words1.filter isCode, c.before args0 about1 = true := by
  rw [codes_eq]
  intro c hc
  simp only [codes1, List.mem_cons, List.not_mem_nil, or_false] at hc
  rcases hc with rfl | rfl | rfl | rfl | rfl | rfl | rfl | rfl | rfl | rfl | rfl | rfl | rfl | rfl | rfl | rfl | rfl | rfl | rfl | rfl | rfl | rfl | rfl | rfl | rfl | rfl | rfl | rfl | rfl | rfl | rfl
  · exact w_c0
  · exact w_c1
  · exact w_c2
  · exact w_c3
  · exact w_c4
  · exact w_c5
  · exact w_c6
  · exact w_c7
  · exact w_c8
  · exact w_c9
  · exact w_c10
  · exact w_c11
  · exact w_c12
  · exact w_c13
  · exact w_c14
  · exact w_c15
  · exact w_c16
  · exact w_c17
  · exact w_c18
  · exact w_c19
  · exact w_c20
  · exact w_c21
  · exact w_c22
  · exact w_c23
  · exact w_c24
  · exact w_c25
  · exact w_c26
  · exact w_c27
  · exact w_c28
  · exact w_c29
  · exact w_c30
set_option maxRecDepth 65536 in
theorem w_t1 : (words1.take 24).all (fun c => isCode c || c.before args0 about1) = true := by decide +kernel
set_option maxRecDepth 65536 in
theorem w_t2 : ((words1.drop 24).take 24).all (fun c => isCode c || c.before args0 about1) = true := by decide +kernel
set_option maxRecDepth 65536 in
theorem w_t3 : (((words1.drop 24).drop 24).take 24).all (fun c => isCode c || c.before args0 about1) = true := by decide +kernel
set_option maxRecDepth 65536 in
theorem w_t4 : ((((words1.drop 24).drop 24).drop 24).take 24).all (fun c => isCode c || c.before args0 about1) = true := by decide +kernel
set_option maxRecDepth 65536 in
theorem w_t5 : (((((words1.drop 24).drop 24).drop 24).drop 24).take 24).all (fun c => isCode c || c.before args0 about1) = true := by decide +kernel
set_option maxRecDepth 65536 in
theorem w_t6 : ((((((words1.drop 24).drop 24).drop 24).drop 24).drop 24).take 24).all (fun c => isCode c || c.before args0 about1) = true := by decide +kernel
set_option maxRecDepth 65536 in
theorem w_t7 : (((((((words1.drop 24).drop 24).drop 24).drop 24).drop 24).drop 24).take 24).all (fun c => isCode c || c.before args0 about1) = true := by decide +kernel
set_option maxRecDepth 65536 in
theorem w_t8 : (((((((words1.drop 24).drop 24).drop 24).drop 24).drop 24).drop 24).drop 24).all (fun c => isCode c || c.before args0 about1) = true := by decide +kernel
theorem w_tables : (allAtoms (Jvm.Cond.code x code maxLocals ret :: tables_1)).before args0 about1 = true := by
  rw [allAtoms_all]
  show words1.all (fun c => c.before args0 about1) = true
  refine all_split ?_ w_codes
  rw [← List.take_append_drop 24 words1, List.all_append, w_t1, ← List.take_append_drop 24 (words1.drop 24), List.all_append, w_t2, ← List.take_append_drop 24 ((words1.drop 24).drop 24), List.all_append, w_t3, ← List.take_append_drop 24 (((words1.drop 24).drop 24).drop 24), List.all_append, w_t4, ← List.take_append_drop 24 ((((words1.drop 24).drop 24).drop 24).drop 24), List.all_append, w_t5, ← List.take_append_drop 24 (((((words1.drop 24).drop 24).drop 24).drop 24).drop 24), List.all_append, w_t6, ← List.take_append_drop 24 ((((((words1.drop 24).drop 24).drop 24).drop 24).drop 24).drop 24), List.all_append, w_t7, w_t8]
  rfl
set_option maxRecDepth 65536 in
theorem w_rest : rest_1_c.before args0 about1 = true := by decide +kernel
set_option maxRecDepth 65536 in
theorem w_case : (Jvm.Cond.and given_1 narrow_1).before args0 about1 = true := by decide +kernel
theorem w_applies : (headSpec (Jvm.Cond.code x code maxLocals ret :: tables_1) room_1).applies x e0.platform about1 = true :=
  (Spec.applies_iff w_frames).mpr ⟨w_running, w_runnable, w_alone, w_named, w_hears, w_ripe, w_room, w_tables⟩
theorem atStart : AtStart classFile x code maxLocals ret World_1 tables_1 room_1 Calls_1 rest_1 Pre_1 launch0 p0 e0 about1 theMethod args0 below0 :=
  ⟨lists_1, trivial, launch0.admits_env _ _ _, launch0.least_env, fairChoices_fair.cas, fairChoices_fair.clock, w_frames, w_args, w_heap, w_applies, trivial, w_rest, w_case⟩
end start1
theorem witness_1 : WitnessClaimed_1 := ⟨start1.p0, start1.e0, start1.about1, start1.theMethod, start1.args0, start1.below0, start1.atStart⟩
end Jvm.Pilot.@@N@@
