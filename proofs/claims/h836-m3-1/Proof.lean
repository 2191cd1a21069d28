import JvmDerived
import JvmDerived.Pilot.@@N@@Statement
import JvmDerived.Pilot.@@N@@Code
set_option linter.unusedVariables false
set_option linter.unusedSimpArgs false

namespace Jvm.OwnW
open Sem ClassFile Op Lib Jvm.Stand Jvm.Free Jvm.LawKit Jvm.RoadKit
/-! THE LAYER: a walk's state is (cells, slots, what is known of the new cells, pc, locals, stack); 'Go' says that from there the body returns with Q. -/
abbrev Fds := List (String × String × String × Value)
abbrev Desc := (String × Fds) ⊕ (FieldType × List Value)
abbrev Mem := List (Addr × Desc)
abbrev Bdy := MethodName × ByteArray × Nat × Option FieldType × Room
abbrev ob (a : Addr) (C : String) (fs : Fds) : Addr × Desc := (a, .inl (C, fs))
abbrev ar (a : Addr) (ty : FieldType) (vs : List Value) : Addr × Desc := (a, .inr (ty, vs))
def Holds (Z : State) (a0 : Array Value) (h : Heap) (a : Addr) : Desc → Prop
  | .inl (C, fs) => Exa Z h a C ∧ (∀ f ∈ fs, Fld Z h a f.1 f.2.1 f.2.2.1 f.2.2.2 ∧ Laid Z a0 C f.1 f.2.1 f.2.2.1 ∧ ∃ ty, parseFieldDescriptor f.2.2.1 = some ty) ∧ (fs.map (·.2.1)).Nodup
  | .inr (ty, vs) => ∃ c : Cell, Arr Z h a c ty ∧ c.slots.toList = vs ∧ (∀ C, ty = .object C → Ovr Z c.cls C)
/-- an array of no element: it can't be written, so it may be an old one -/
def Emp : Desc → Prop
  | .inl _ => False
  | .inr (_, vs) => vs = []
def Mo (Z : State) (a0 : Array Value) (h0 : Heap) (ds : Mem) (h : Heap) : Prop :=
  Ext h0 h ∧ (∀ q ∈ ds, (h0.size ≤ q.1 ∨ Emp q.2) ∧ Holds Z a0 h q.1 q.2) ∧ ds.Pairwise (fun q r => q.1 ≠ r.1)
section Facts
variable {Z : State} {a0 : Array Value} {h h' h0 : Heap} {a b : Addr} {D D' : Desc} {ds : Mem} {i : Nat} {sl : Nat} {v : Value}
theorem Holds.lt (H : Holds Z a0 h a D) : a < h.size := by
  rcases D with ⟨C, fs⟩ | ⟨ty, vs⟩
  · exact H.1.lt
  · obtain ⟨c, A, -⟩ := H; exact A.lt
theorem Holds.ext (E : Ext h h') (H : Holds Z a0 h a D) : Holds Z a0 h' a D := by
  rcases D with ⟨C, fs⟩ | ⟨ty, vs⟩
  · exact ⟨H.1.ext E, fun f hf => ⟨(H.2.1 f hf).1.ext E, (H.2.1 f hf).2⟩, H.2.2⟩
  · obtain ⟨c, A, r⟩ := H; exact ⟨c, A.ext E, r⟩
theorem Holds.other (W : Wr h h' a sl v) (H : Holds Z a0 h b D) (q : b ≠ a) : Holds Z a0 h' b D := by
  rcases D with ⟨C, fs⟩ | ⟨ty, vs⟩
  · exact ⟨H.1.wr W, fun f hf => ⟨(H.2.1 f hf).1.other W (Or.inl q), (H.2.1 f hf).2⟩, H.2.2⟩
  · obtain ⟨c, A, r⟩ := H; exact ⟨c, A.other W q, r⟩
theorem Holds.frame {as : List Addr} (K : ∀ (x : Addr) (c : Cell), h[x]? = some c → x ∉ as → h'[x]? = some c) (q : a ∉ as) (H : Holds Z a0 h a D) : Holds Z a0 h' a D := by
  rcases D with ⟨C, fs⟩ | ⟨ty, vs⟩
  · obtain ⟨⟨cell, k, h1, r⟩, F, nd⟩ := H
    refine ⟨⟨cell, k, K _ _ h1 q, r⟩, fun f hf => ?_, nd⟩
    obtain ⟨⟨cell, cf, k, i, f', g1, g⟩, L⟩ := F f hf
    exact ⟨⟨cell, cf, k, i, f', K _ _ g1 q, g⟩, L⟩
  · obtain ⟨c, A, r⟩ := H; exact ⟨c, ⟨K _ _ A.1 q, A.2⟩, r⟩
theorem Ext.refl (h : Heap) : Ext h h := ⟨Nat.le_refl _, fun _ _ q => q⟩
theorem Ext.trans {h1 h2 h3 : Heap} (E : Ext h1 h2) (F : Ext h2 h3) : Ext h1 h3 := ⟨Nat.le_trans E.1 F.1, fun x c q => F.2 x c (E.2 x c q)⟩
theorem Mo.start (Z : State) (a0 : Array Value) (h : Heap) : Mo Z a0 h [] h := ⟨Ext.refl h, fun _ q => (nomatch q), List.Pairwise.nil⟩
theorem Mo.ext (M : Mo Z a0 h0 ds h) (E : Ext h h') : Mo Z a0 h0 ds h' := ⟨Ext.trans M.1 E, fun q hq => ⟨(M.2.1 q hq).1, (M.2.1 q hq).2.ext E⟩, M.2.2⟩
theorem Mo.add (M : Mo Z a0 h0 ds h) (E : Ext h h') (H : Holds Z a0 h' h.size D) : Mo Z a0 h0 (ds ++ [(h.size, D)]) h' := by
  have M' := M.ext E
  refine ⟨M'.1, fun q hq => ?_, List.pairwise_append.mpr ⟨M.2.2, List.pairwise_singleton _ _, fun q hq r hr => ?_⟩⟩
  · rcases List.mem_append.mp hq with hq | hq
    · exact M'.2.1 q hq
    · cases List.mem_singleton.mp hq; exact ⟨Or.inl M.1.1, H⟩
  · cases List.mem_singleton.mp hr
    exact Nat.ne_of_lt (M.2.1 q hq).2.lt
theorem Mo.at (M : Mo Z a0 h0 ds h) (hi : ds[i]? = some (a, D)) : Holds Z a0 h a D := (M.2.1 _ (List.mem_of_getElem? hi)).2
theorem Mo.new (M : Mo Z a0 h0 ds h) (hi : ds[i]? = some (a, D)) (hn : ¬ Emp D) : h0.size ≤ a := (M.2.1 _ (List.mem_of_getElem? hi)).1.resolve_right hn
theorem nemp {ty : FieldType} {vs : List Value} {j : Nat} (hl : j < vs.length) : ¬ Emp (.inr (ty, vs)) := fun q => by rw [show vs = [] from q] at hl; cases hl
theorem Mo.ne (M : Mo Z a0 h0 ds h) {j : Nat} (hi : ds[i]? = some (a, D)) (hj : ds[j]? = some (b, D')) (q : i ≠ j) : a ≠ b := by
  obtain ⟨li, ei⟩ := List.getElem?_eq_some_iff.mp hi
  obtain ⟨lj, ej⟩ := List.getElem?_eq_some_iff.mp hj
  have P := List.pairwise_iff_getElem.mp M.2.2
  rcases Nat.lt_or_gt_of_ne q with q | q
  · have := P i j li lj q; rw [ei, ej] at this; exact this
  · have := P j i lj li q; rw [ei, ej] at this; exact this.symm
theorem Mo.exa {C : String} {fs : Fds} (hi : ds[i]? = some (a, .inl (C, fs))) : ∀ h, Mo Z a0 h0 ds h → Exa Z h a C := fun h M => (M.at hi).1
theorem Mo.wr (M : Mo Z a0 h0 ds h) (hi : ds[i]? = some (a, D)) (hn : ¬ Emp D) (W : Wr h h' a sl v) (H : Holds Z a0 h' a D') : Mo Z a0 h0 (ds.set i (a, D')) h' := by
  have n0 := M.new hi hn
  refine ⟨⟨by rw [W.size]; exact M.1.1, fun x c q => ?_⟩, fun q hq => ?_, ?_⟩
  · obtain ⟨c', e1, -, -, -, e5, -⟩ := wr_at W (M.1.2 x c q)
    rw [← e5 (Nat.ne_of_lt (Nat.lt_of_lt_of_le (Array.getElem?_eq_some_iff.mp q).1 n0))]; exact e1
  · obtain ⟨j, hj⟩ := List.getElem?_of_mem hq
    by_cases e : i = j
    · subst e
      rw [List.getElem?_set_self (List.getElem?_eq_some_iff.mp hi).1] at hj
      cases hj; exact ⟨Or.inl n0, H⟩
    · rw [List.getElem?_set_ne e] at hj
      exact ⟨(M.2.1 _ (List.mem_of_getElem? hj)).1, (M.at hj).other W (M.ne hj hi (Ne.symm e))⟩
  · refine List.pairwise_iff_getElem.mpr fun j j' l1 l2 q => ?_
    rw [List.length_set] at l1 l2
    have P := List.pairwise_iff_getElem.mp M.2.2 j j' l1 l2 q
    obtain ⟨li, ei⟩ := List.getElem?_eq_some_iff.mp hi
    rw [List.getElem_set, List.getElem_set]
    split
    · rename_i e; subst e
      rw [if_neg (Nat.ne_of_lt q)]
      rw [ei] at P; exact P
    · split
      · rename_i e; subst e; rw [ei] at P; exact P
      · exact P
/-- what has been touched since hs: of its cells at most those in 'as' -/
def Tr (hs : Heap) (as : List Addr) (ds : Mem) (h : Heap) : Prop :=
  hs.size ≤ h.size ∧ (∀ (x : Addr) (c : Cell), hs[x]? = some c → x ∉ as → h[x]? = some c) ∧ ∀ q ∈ ds, q.1 ∈ as ∨ hs.size ≤ q.1
theorem Tr.start (h : Heap) (ds : Mem) : Tr h (ds.map (·.1)) ds h := ⟨Nat.le_refl _, fun _ _ q _ => q, fun q hq => Or.inl (List.mem_map.mpr ⟨q, hq, rfl⟩)⟩
section Trs
variable {hs : Heap} {as : List Addr}
theorem Tr.ext (R : Tr hs as ds h) (E : Ext h h') : Tr hs as ds h' := ⟨Nat.le_trans R.1 E.1, fun x c q r => E.2 x c (R.2.1 x c q r), R.2.2⟩
theorem Tr.add (R : Tr hs as ds h) (E : Ext h h') : Tr hs as (ds ++ [(h.size, D)]) h' := ⟨Nat.le_trans R.1 E.1, fun x c q r => E.2 x c (R.2.1 x c q r), fun q hq => by
  rcases List.mem_append.mp hq with hq | hq
  · exact R.2.2 q hq
  · cases List.mem_singleton.mp hq; exact Or.inr R.1⟩
theorem Tr.out (R : Tr hs as ds h) {q : Addr × Desc} (hq : q ∈ ds) {x : Addr} {c : Cell} (hx : hs[x]? = some c) (hn : x ∉ as) : x ≠ q.1 := fun e => by
  rcases R.2.2 q hq with r | r
  · exact hn (e ▸ r)
  · exact absurd (Array.getElem?_eq_some_iff.mp hx).1 (Nat.not_lt.mpr (e ▸ r))
theorem Tr.wr (R : Tr hs as ds h) (hi : ds[i]? = some (a, D)) (W : Wr h h' a sl v) : Tr hs as (ds.set i (a, D')) h' := by
  refine ⟨by rw [W.size]; exact R.1, fun x c q r => ?_, fun q hq => ?_⟩
  · obtain ⟨c', e1, -, -, -, e5, -⟩ := wr_at W (R.2.1 x c q r)
    rw [← e5 (R.out (List.mem_of_getElem? hi) q r)]; exact e1
  · obtain ⟨j, hj⟩ := List.getElem?_of_mem hq
    by_cases e : i = j
    · subst e
      rw [List.getElem?_set_self (List.getElem?_eq_some_iff.mp hi).1] at hj
      cases hj; exact R.2.2 (a, D) (List.mem_of_getElem? hi)
    · rw [List.getElem?_set_ne e] at hj; exact R.2.2 _ (List.mem_of_getElem? hj)
theorem Tr.call {ds' : Mem} (R : Tr hs as ds h) (R' : Tr h (ds.map (·.1)) ds' h') : Tr hs as ds' h' := by
  refine ⟨Nat.le_trans R.1 R'.1, fun x c q r => R'.2.1 x c (R.2.1 x c q r) fun m => ?_, fun q hq => ?_⟩
  · obtain ⟨e, he, rfl⟩ := List.mem_map.mp m; exact R.out he q r rfl
  · rcases R'.2.2 q hq with m | m
    · obtain ⟨e, he, e2⟩ := List.mem_map.mp m; rw [← e2]; exact R.2.2 e he
    · exact Or.inr (Nat.le_trans R.1 m)
end Trs
end Facts
def LaidL (Z : State) (a0 : Array Value) (C : String) : Fds → Prop
  | [] => True
  | f :: r => (Laid Z a0 C f.1 f.2.1 f.2.2.1 ∧ ∃ ty, parseFieldDescriptor f.2.2.1 = some ty ∧ defaultValue ty = f.2.2.2) ∧ LaidL Z a0 C r
theorem LaidL.mem {Z : State} {a0 : Array Value} {C : String} : ∀ {fs : Fds}, LaidL Z a0 C fs → ∀ f ∈ fs, Laid Z a0 C f.1 f.2.1 f.2.2.1 ∧ ∃ ty, parseFieldDescriptor f.2.2.1 = some ty ∧ defaultValue ty = f.2.2.2
  | [], _, _, hf => (nomatch hf)
  | g :: r, H, f, hf => by
    rcases List.mem_cons.mp hf with rfl | hf
    · exact H.1
    · exact LaidL.mem H.2 f hf
theorem wd {ws : List Jvm.Cond} {a0 : Array Value} {Z : State} (hw : ∀ d ∈ ws, d.before a0 Z = true) (i : Nat) {d : Jvm.Cond} (h : ws[i]? = some d) : d.before a0 Z = true := hw d (List.mem_of_getElem? h)
def Cx (B : Bdy) (Z : State) (p : Program) (s : State) (m : MethodId) (meth : Method) (c : Code) : Prop :=
  p.tables.exec = Jvm.exec ∧ Z.Warmed39 s.vm ∧ c.code = B.2.1 ∧ c.maxLocals = B.2.2.1 ∧ s.vm.findClass B.1.cls = some m.cls ∧ meth.sig.returnType = B.2.2.2.1 ∧ meth.locks = false ∧ meth.name = B.1.name
def Ends (B : Bdy) (Z : State) (a0 : Array Value) (h0 : Heap) (hs : Heap) (as : List Addr) (Q : Option Value → Mem → Prop) (p : Program) (e : Env) (below : List Frame) (s u : State) : Prop :=
  ∃ s₂ v L ds, Steps p.tables e below u s₂ ∧ s₂.status = .running ∧ Ended s₂ below (.returned v) ∧ Mo Z a0 h0 ds s₂.heap ∧ Tr hs as ds s₂.heap ∧ Q v ds ∧ Fr h0.size L ∧ FrameEnd s (.returned v) s₂ L B.2.2.2.2.cells B.2.2.2.2.slots
def Go (B : Bdy) (Z : State) (a0 : Array Value) (h0 : Heap) (Q : Option Value → Mem → Prop) (k n : Nat) (ds : Mem) (pc : Nat) (ls : Array Slot) (st : List Value) : Prop :=
  ∀ (p : Program) (l : Launch) (e : Env) (s : State) (m : MethodId) (args : Array Value) (below : List Frame) (meth : Method) (c : Code) (T : State) (locs : List Loc) (hs : Heap) (as : List Addr),
    Cx B Z p s m meth c → Stand p l e B.2.2.2.2 s m args below meth c T locs k n → Fr h0.size locs → Mo Z a0 h0 ds T.heap → Tr hs as ds T.heap → Ends B Z a0 h0 hs as Q p e below s (T.setTop (mkF m pc ls st))
/-- a callee's answer: this value, this memory -/
def Ret (v0 : Option Value) (ds0 : Mem) (v : Option Value) (ds : Mem) : Prop := v = v0 ∧ ds0 = ds
/-- a yes or no, the memory as it was -/
def Qz (P : Prop) (ds0 : Mem) (v : Option Value) (ds : Mem) : Prop := ∃ z : Int32, v = some (.int z) ∧ ds0 = ds ∧ (z.toInt = 1 ∧ P ∨ z.toInt = 0 ∧ ¬ P)
def MQ (Z : State) (a0 : Array Value) (h0 h : Heap) (as : List Addr) (Q : Option Value → Mem → Prop) (v : Option Value) (h' : Heap) (L : List Loc) : Prop := Fr h0.size L ∧ ∃ ds', Mo Z a0 h0 ds' h' ∧ Tr h as ds' h' ∧ Q v ds'
def Met (B : Bdy) (Z : State) (a0 : Array Value) (h0 : Heap) (as : Array Value) (ds : Mem) (Q : Option Value → Mem → Prop) : Prop :=
  ∀ (l : Launch) (ws : List Jvm.Cond) (h : Heap), Mo Z a0 h0 ds h → MetFree l B.1 (head1 (Jvm.Cond.code B.1 B.2.1 B.2.2.1 B.2.2.2.1 :: ws) B.2.2.2.2) (fun a U => a = as ∧ Z.Warmed39 U.vm ∧ U.heap = h) (fun _ _ _ _ _ => True)
    (fun _ U o U' => ∃ v L, o = .returned v ∧ MQ Z a0 h0 h (ds.map (·.1)) Q v U'.heap L ∧ FrameEnd U o U' L B.2.2.2.2.cells B.2.2.2.2.slots)
section Start
variable {args : Array Value} {s : State} {t : Term}
theorem eqI_v {k : Int32} {idx : List Nat} (h : (Jvm.Cond.eq t (.int k)).value args s none s idx = some true) : t.eval args s none idx s = some (.int k) := by
  have e : (Term.int k).eval args s none idx s = some (.int k) := rfl
  simp only [Cond.value, e] at h
  cases ht : t.eval args s none idx s with
  | none => simp [ht] at h
  | some x => cases x <;> simp [ht] at h ⊢; exact h
theorem eqJ_v {k : Int64} {idx : List Nat} (h : (Jvm.Cond.eq t (.long k)).value args s none s idx = some true) : t.eval args s none idx s = some (.long k) := by
  have e : (Term.long k).eval args s none idx s = some (.long k) := rfl
  simp only [Cond.value, e] at h
  cases ht : t.eval args s none idx s with
  | none => simp [ht] at h
  | some x => cases x <;> simp [ht] at h ⊢; exact h
theorem elem_ix {a : Addr} {cl : Cell} {i : Nat} (ev : ∀ idx, t.eval args s none idx s = some (.ref a)) (ha : s.arrayAt? a = some cl) (hi : i < 2 ^ 31) : (Term.elem t (.index 0)).eval args s none [i] s = cl.slots[i]? := by
  have q : i.toInt32.toInt = i := len_toInt hi
  have q2 : i.toInt32.toNatClampNeg = i := by simp only [Int32.toNatClampNeg, q]; rfl
  rw [elem_f (ev _) (j := i.toInt32) rfl ha (by rw [Int32.lt_iff_toInt_lt, q]; exact Int.not_lt.mpr (Int.natCast_nonneg i)), q2]
theorem eq_ix {a : Addr} {cl : Cell} {i : Nat} {v : Int32} (ev : ∀ idx, t.eval args s none idx s = some (.ref a)) (ha : s.arrayAt? a = some cl) (hi : i < 2 ^ 31) (h : (Jvm.Cond.eq (.elem t (.index 0)) (.int v)).value args s none s [i] = some true) : cl.slots[i]? = some (.int v) :=
  (elem_ix ev ha hi).symm.trans (eqI_v h)
theorem or_ix {G X : Jvm.Cond} {P : Prop} [Decidable P] {i : Nat} (h : (Jvm.Cond.or G X).value args s none s [i] = some true) (hG : G.value args s none s [i] = some (decide P)) (hp : ¬ P) : X.value args s none s [i] = some true := by
  rwa [Cond.or_of_right (nay hG hp)] at h
theorem le_ix {i : Nat} {k : Int32} : (Jvm.Cond.le (.int k) (.index 0)).value args s none s [i] = some (decide (k ≤ i.toInt32)) := by simp [Cond.value, Term.eval]
theorem lt_ix {i : Nat} {k : Int32} : (Jvm.Cond.lt (.index 0) (.int k)).value args s none s [i] = some (decide (i.toInt32 < k)) := by simp [Cond.value, Term.eval]
theorem one_ix {a : Addr} {cl : Cell} {k v : Int32} {i : Nat} (ev : t.eval args s none [] s = some (.ref a)) (hc : s.heap[a]? = some cl) (hi : k.toNatClampNeg = i) (h : (Jvm.Cond.eq (.elem t (.int k)) (.int v)).value args s none s [] = some true) : cl.slots[i]? = some (.int v) := by
  have q := (elem_in (eqI_v h) ev rfl hc).2
  rwa [hi] at q
theorem oneJ_ix {a : Addr} {cl : Cell} {k : Int32} {v : Int64} {i : Nat} (ev : t.eval args s none [] s = some (.ref a)) (hc : s.heap[a]? = some cl) (hi : k.toNatClampNeg = i) (h : (Jvm.Cond.eq (.elem t (.int k)) (.long v)).value args s none s [] = some true) : cl.slots[i]? = some (.long v) := by
  have q := (elem_in (eqJ_v h) ev rfl hc).2
  rwa [hi] at q
theorem len_ix {a : Addr} {cl : Cell} {k : Int32} (ev : t.eval args s none [] s = some (.ref a)) (ha : s.arrayAt? a = some cl) (hk : ¬ k < 0) (h : (Jvm.Cond.eq (.length t) (.int k)).value args s none s [] = some true) : cl.slots.size = k.toNatClampNeg ∧ cl.slots.size < 2 ^ 31 := by
  have q := eqI_v h
  simp only [Term.eval, ev, ha, Option.bind_eq_bind, Option.bind_some] at q
  split at q
  · rename_i hl
    have e : cl.slots.size.toInt32 = k := by simpa using q
    have l : cl.slots.size < 2 ^ 31 := by simpa using hl
    refine ⟨?_, l⟩
    rw [← e]; simp only [Int32.toNatClampNeg, len_toInt l]; rfl
  · simp at q
end Start
theorem cat1 {v : Value} (h : v.isRef = true) : v.category = 1 := by rcases ref_cases h with rfl | ⟨x, rfl⟩ <;> rfl
theorem mvR {Z s : State} {a0 args : Array Value} {cls : String} {idx : Nat} {y : MethodName} (hZ : Z.Warmed39 s.vm) (hy : y.cls ≠ "java/lang/invoke/MethodHandle" ∧ y.cls ≠ "java/lang/invoke/VarHandle") (wi : (Jvm.Cond.instanceMethod y).before a0 Z = true) (w : (Jvm.Cond.methodRef cls idx y).before a0 Z = true) : (Jvm.Cond.methodRef cls idx y).before args s = true := by
  obtain ⟨obj, methO, hnO, -⟩ := Jvm.Cond.instanceMethod_spec wi
  have h := Jvm.Cond.methodRef_warmed39 hZ hnO hy w
  have e : (Jvm.Cond.methodRef cls idx y).before a0 (Z.setVm s.vm) = (Jvm.Cond.methodRef cls idx y).before args (s.setVm s.vm) := rfl
  exact e.symm.trans h
theorem initRefArgs {tb : Tables} [Ours tb] {e : Env} {below : List Frame} {s U : State} {mm : MethodId} {cc : Code} (h : At U mm cc below) (hexec : tb.exec = Jvm.exec) (hW : s.WarmedH U.vm)
    {own : String} (hown : s.vm.findClass own = some mm.cls) {idx : Nat} {t : MethodName} (ht1 : t.name = "<init>")
    (hnot : t.cls ≠ "java/lang/invoke/MethodHandle" ∧ t.cls ≠ "java/lang/invoke/VarHandle") {args : Array Value} {bytes : ByteArray} {maxL : Nat}
    (href : (Jvm.Cond.methodRef own idx t).before args s = true) (hinst : (Jvm.Cond.instanceMethod t).before args s = true) (hcode : (Jvm.Cond.code t bytes maxL none).before args s = true)
    {f : JFrame} (hf : f.method = mm) {a : Addr} {argsL rest : List Value} (hlen : ∀ sig, parseMethodDescriptor t.desc = some sig → argsL.length = sig.parameters.length) (hstack : f.stack = argsL.reverse ++ .ref a :: rest) (hd : decode cc.code f.pc = .ok (.invokespecial idx, 3)) :
    ∃ tm, s.methodNamed? t = some tm ∧ ∀ target, (∀ acts, Steps tb e below (doInvoke e (U.setTop { f with stack := rest }) acts tm (.ref a :: argsL).toArray).1 target) → Steps tb e below (U.setTop f) target := by
  subst hf
  obtain ⟨obj, methO, hnO, hmO, hstO, habO⟩ := Jvm.Cond.instanceMethod_spec hinst
  obtain ⟨methO', cO, hmO', hcO, hbO, hlO, -, hlockO, -, hsigO⟩ := Jvm.Cond.code_spec hnO hcode
  cases hmO.symm.trans hmO'
  obtain ⟨kO, hkO, hnameO⟩ := className_of_methodNamed hnO
  obtain ⟨hnameMO, hdescO⟩ := name_of_methodNamed hnO hmO
  have hr2 := Jvm.Cond.methodRef_warmed hW hnO hnot href
  have hown2 : (s.setVm U.vm).vm.findClass own = some f.method.cls := by show U.vm.findClass own = _; rw [hW.alike.findClass]; exact hown
  obtain ⟨m2, c2, hf2, hready, hfind2, hnamed⟩ := Jvm.Cond.methodRef_named e hown2 hr2
  have hf3 : (s.setVm U.vm).methodFound? t.cls t.name t.desc = s.methodFound? t.cls t.name t.desc := State.methodFound?_setVm_of_named hW.alike hnO hnot
  cases ((State.methodFound?_of_named hnO hnot).symm.trans hf3.symm).trans hf2
  have hc2 : c2 = obj.cls := by
    have q : U.vm.findClass t.cls = some c2 := hfind2
    rw [hW.alike.findClass, findClass_of_methodNamed hnO] at q
    exact (Option.some.inj q).symm
  subst hc2
  obtain ⟨kO₂, hkO₂, heO₂⟩ := hW.alike.2.2 _ _ hkO
  have hmO₂ : U.vm.method? obj = some methO := by rw [hW.alike.method?]; exact hmO
  have hfound : lookupSpecial U.vm obj.cls "<init>" methO.desc = .method obj := by
    rw [hW.alike.lookupSpecial, hdescO, ← ht1]; exact lookupSpecial_of_named hnO hmO hstO
  refine ⟨obj, hnO, fun target hrest => ?_⟩
  jvm_step h [hexec, hd, 
    invokespecial.wp_init (e := e) (s := U) (k := kO₂) (meth := methO) (m := obj) (a := a) (args := argsL) (rest := rest) (f := f)
      h.top hnamed hready hkO₂ hmO₂ (by rw [hnameMO]; exact ht1) hstO habO hfound (hlen _ hsigO) hstack]
  exact hrest
theorem specialBackR {p : Program} {l : Launch} {e : Env} {R : Room} {s : State} {m : MethodId} {args : Array Value} {below : List Frame} {meth : Method} {c : Code} {T : State} {locs : List Loc} {cells slots : Nat} (X : Stand p l e R s m args below meth c T locs cells slots) (hexec : p.tables.exec = Jvm.exec) {own : String} {index : Nat} {y : MethodName} (hy1 : y.name = "<init>")
    (hown : s.vm.findClass own = some m.cls) (hlink : (Jvm.Cond.methodRef own index y).before args s = true) (hinst : (Jvm.Cond.instanceMethod y).before args s = true)
    {bytes : ByteArray} {maxL : Nat} (hcode : (Jvm.Cond.code y bytes maxL none).before args s = true)
    (hy : y.cls ≠ "java/lang/invoke/MethodHandle" ∧ y.cls ≠ "java/lang/invoke/VarHandle")
    {W : Nat} {Pre : Pt → Array Value → Prop} {Post : Pt → Array Value → Option Value → Pt → Prop} (hK : Back l R p e below s args y 3 W Pre Post)
    {g : JFrame} (hg : g.method = m) (hsize : g.locals.size = c.maxLocals) {s₀ : State} (hcome : Steps p.tables e below s₀ (T.setTop g)) {a : Addr} {argsL rest : List Value}
    (hlen : ∀ sig, parseMethodDescriptor y.desc = some sig → argsL.length = sig.parameters.length) (hstack : g.stack = argsL.reverse ++ .ref a :: rest) (hW : 2 * g.monitorRoom + (rest.map fun v => v.category).sum ≤ W)
    (hdg : decode c.code g.pc = .ok (.invokespecial index, 3)) (hpre : ∀ vm₁, s.WarmedH vm₁ → Pre ⟨T.setVm vm₁, locs, cells, slots⟩ (.ref a :: argsL).toArray) :
    ∃ (v : Option Value) (vm₁ : Vm) (B : Pt), s.WarmedH vm₁ ∧ Stand p l e R s m args below meth c B.U B.locs B.cells B.slots ∧ Post ⟨T.setVm vm₁, locs, cells, slots⟩ (.ref a :: argsL).toArray v B ∧
      Steps p.tables e below s₀ (B.U.setTop { g with pc := g.pc + 3, stack := v.toList ++ rest }) := by
  obtain ⟨mk, hnamed, hstep₁⟩ := initRefArgs (e := e) X.here hexec X.warmed hown hy1 hy hlink hinst hcode (f := g) hg hlen hstack hdg
  obtain ⟨v, B, X', hpost, hsteps⟩ := hK m meth c ⟨T.setVm T.vm, locs, cells, slots⟩ { g with stack := rest } (.invokespecial index) mk (.ref a :: argsL).toArray X hg hsize hdg hW (X.named hnamed) (hpre T.vm X.warmed)
  exact ⟨v, T.vm, B, X.warmed, X', hpost, (hcome.trans (hstep₁ _ fun acts => by rw [doInvoke_state]; exact Steps.refl _)).trans hsteps⟩
section Core
variable {B : Bdy} {Z : State} {a0 : Array Value} {h0 : Heap} {Q : Option Value → Mem → Prop} {k n : Nat} {ds : Mem} {pc : Nat} {ls : Array Slot} {st : List Value}
theorem Ends.back {hs : Heap} {as : List Addr} {p : Program} {e : Env} {below : List Frame} {s u u' : State} (F : Ends B Z a0 h0 hs as Q p e below s u') (hst : ∀ t, Steps p.tables e below u' t → Steps p.tables e below u t) : Ends B Z a0 h0 hs as Q p e below s u := by
  obtain ⟨s₂, v, L, ds, h1, r⟩ := F; exact ⟨s₂, v, L, ds, hst _ h1, r⟩
theorem Go.step {pc' : Nat} {ls' : Array Slot} {st' : List Value} (H : Go B Z a0 h0 Q k n ds pc' ls' st')
    (hs : ∀ {p : Program} {l : Launch} {e : Env} {s : State} {m : MethodId} {args : Array Value} {below : List Frame} {meth : Method} {c : Code} {T : State} {locs : List Loc}, Cx B Z p s m meth c → Stand p l e B.2.2.2.2 s m args below meth c T locs k n → Mo Z a0 h0 ds T.heap → ∀ t, Steps p.tables e below (T.setTop (mkF m pc' ls' st')) t → Steps p.tables e below (T.setTop (mkF m pc ls st)) t) :
    Go B Z a0 h0 Q k n ds pc ls st := fun p l e s m args below meth c T locs h1 as C X N M R => (H p l e s m args below meth c T locs h1 as C X N M R).back (hs C X M)
theorem Go.mono {Q' : Option Value → Mem → Prop} (H : Go B Z a0 h0 Q k n ds pc ls st) (hq : ∀ v ds', Q v ds' → Q' v ds') : Go B Z a0 h0 Q' k n ds pc ls st := fun p l e s m args below meth c T locs hs as C X N M R => by
  obtain ⟨s₂, v, L, ds', h1, h2, h3, h4, h4', h5, r⟩ := H p l e s m args below meth c T locs hs as C X N M R
  exact ⟨s₂, v, L, ds', h1, h2, h3, h4, h4', hq _ _ h5, r⟩
/-- what holds of every heap that the memory describes may be used -/
theorem Go.know {P : Prop} (hP : ∀ h, Mo Z a0 h0 ds h → P) (H : P → Go B Z a0 h0 Q k n ds pc ls st) : Go B Z a0 h0 Q k n ds pc ls st := fun p l e s m args below meth c T locs hs as C X N M R => H (hP _ M) p l e s m args below meth c T locs hs as C X N M R
theorem Go.more {k' n' : Nat} (H : Go B Z a0 h0 Q k' n' ds pc ls st) (hk : k ≤ k') (hn : n ≤ n') : Go B Z a0 h0 Q k n ds pc ls st := fun p l e s m args below meth c T locs hs as C X N M R => H p l e s m args below meth c T locs hs as C (X.more hk hn) N M R
theorem Go.sub {ds' : Mem} (hs : List.Sublist ds' ds) (H : Go B Z a0 h0 Q k n ds' pc ls st) : Go B Z a0 h0 Q k n ds pc ls st := fun p l e s m args below meth c T locs h1 as C X N M R =>
  H p l e s m args below meth c T locs h1 as C X N ⟨M.1, fun q hq => M.2.1 q (hs.subset hq), M.2.2.sublist hs⟩ ⟨R.1, R.2.1, fun q hq => R.2.2 q (hs.subset hq)⟩
theorem Mo.perm {ds' : Mem} {h : Heap} (hp : List.Perm ds' ds) (M : Mo Z a0 h0 ds h) : Mo Z a0 h0 ds' h := ⟨M.1, fun q hq => M.2.1 q (hp.mem_iff.mp hq), (hp.pairwise_iff (fun {a b} q => Ne.symm q)).mpr M.2.2⟩
theorem Go.perm {ds' : Mem} (hp : List.Perm ds' ds) (H : Go B Z a0 h0 Q k n ds' pc ls st) : Go B Z a0 h0 Q k n ds pc ls st := fun p l e s m args below meth c T locs hs as C X N M R =>
  H p l e s m args below meth c T locs hs as C X N (M.perm hp) ⟨R.1, R.2.1, fun q hq => R.2.2 q (hp.mem_iff.mp hq)⟩
/-- entry i to the front -/
theorem Go.front (i : Nat) (hi : i < ds.length) (H : Go B Z a0 h0 Q k n (ds[i] :: ds.eraseIdx i) pc ls st) : Go B Z a0 h0 Q k n ds pc ls st := Go.perm (by
  have e : ds = ds.take i ++ ds[i] :: ds.drop (i + 1) := by rw [List.getElem_cons_drop, List.take_append_drop]
  rw [List.eraseIdx_eq_take_drop_succ]
  exact (List.perm_middle.symm).trans (by rw [← e])) H
theorem Met.of {as : Array Value} (hp : plainFor B.1 = true) (he : ∀ m, entryFrame m as B.2.2.1 = mkF m 0 ls []) (H : Go B Z a0 h0 Q 0 0 ds 0 ls []) : Met B Z a0 h0 as ds Q := by
  intro l ws h M
  refine MetFree.of_bodySF hp hisR ?_
  intro p e s m args below meth c s₁ Bd hml hP _
  obtain ⟨rfl, hZ, hh⟩ := hP
  have hown : s.vm.findClass B.1.cls = some m.cls := findClass_of_methodNamed Bd.named
  have hnm := (name_of_methodNamed Bd.named Bd.method).1
  have e0 : s₁.heap = h := by rw [← hh, Bd.state]; rfl
  obtain ⟨s₂, v, L, ds', h1, h2, h3, h4, h4', h5, h6, h7⟩ := H p l e s m args below meth c s₁ [] h (ds.map (·.1)) ⟨Bd.exec, hZ, Bd.bytes, hml, hown, Bd.returns, Bd.notSynchronized, hnm⟩ (Stand.of_body Bd) (Fr.nil _) (by rw [e0]; exact M) (by rw [e0]; exact Tr.start h ds)
  exact ⟨s₂, _, castTop (he m) h1, h2, h3, v, L, rfl, ⟨h6, ds', h4, h4', h5⟩, h7⟩
theorem Met.mono {as : Array Value} {Q' : Option Value → Mem → Prop} (H : Met B Z a0 h0 as ds Q) (hq : ∀ v ds', Q v ds' → Q' v ds') : Met B Z a0 h0 as ds Q' := by
  intro l ws h M p e h1 h2 h3 s m args below h4 h5 h6 h7
  obtain ⟨n, o, g1, g2, g3, v, L, g4, ⟨g5, ds', g6, g6', g7⟩, g8⟩ := H l ws h M p e h1 h2 h3 s m args below h4 h5 h6 h7
  exact ⟨n, o, g1, g2, g3, v, L, g4, ⟨g5, ds', g6, g6', hq _ _ g7⟩, g8⟩
/-- the frame rule: what the callee doesn't know it leaves as it is -/
theorem Met.frame {as : Array Value} (rest : Mem) (H : Met B Z a0 h0 as ds Q) : Met B Z a0 h0 as (ds ++ rest) (fun v D => ∃ ds', Q v ds' ∧ D = ds' ++ rest) := by
  intro l ws h M p e h1 h2 h3 s m args below h4 h5 h6 h7
  have M1 : Mo Z a0 h0 ds h := ⟨M.1, fun q hq => M.2.1 q (List.mem_append_left _ hq), (List.pairwise_append.mp M.2.2).1⟩
  obtain ⟨n, o, g1, g2, g3, v, L, g4, ⟨g5, ds', g6, g6', g7⟩, g8⟩ := H l ws h M1 p e h1 h2 h3 s m args below h4 h5 h6 h7
  have nin : ∀ q ∈ rest, q.1 ∉ ds.map (·.1) := fun q hq m => by
    obtain ⟨r, hr, e⟩ := List.mem_map.mp m
    exact (List.pairwise_append.mp M.2.2).2.2 r hr q hq e
  refine ⟨n, o, g1, g2, g3, v, L, g4, ⟨g5, ds' ++ rest, ⟨g6.1, fun q hq => ?_, List.pairwise_append.mpr ⟨g6.2.2, (List.pairwise_append.mp M.2.2).2.1, fun q hq r hr => ?_⟩⟩, ⟨g6'.1, fun x c q r => g6'.2.1 x c q fun m => r ?_, fun q hq => ?_⟩, ds', g7, rfl⟩, g8⟩
  · rcases List.mem_append.mp hq with hq | hq
    · exact g6.2.1 q hq
    · obtain ⟨m1, m2⟩ := M.2.1 q (List.mem_append_right _ hq)
      exact ⟨m1, m2.frame g6'.2.1 (nin q hq)⟩
  · intro e
    rcases g6'.2.2 q hq with m | m
    · exact nin r hr (e ▸ m)
    · exact absurd (M.2.1 r (List.mem_append_right _ hr)).2.lt (Nat.not_lt.mpr (e ▸ m))
  · rw [List.map_append]; exact List.mem_append_left _ m
  · rcases List.mem_append.mp hq with hq | hq
    · rcases g6'.2.2 q hq with m | m
      · exact Or.inl (by rw [List.map_append]; exact List.mem_append_left _ m)
      · exact Or.inr m
    · exact Or.inl (List.mem_map.mpr ⟨q, List.mem_append_right _ hq, rfl⟩)
theorem Met.know {as : Array Value} {P : Prop} (hP : ∀ h, Mo Z a0 h0 ds h → P) (H : P → Met B Z a0 h0 as ds Q) : Met B Z a0 h0 as ds Q := fun l ws h M => H (hP h M) l ws h M
/-! the returns -/
theorem go_end {v : Option Value} (hk : k ≤ B.2.2.2.2.cells) (hn : n ≤ B.2.2.2.2.slots) (hv : B.2.2.2.1 = none → v = none) (HQ : Q v ds)
    (hs : ∀ {p : Program} {l : Launch} {e : Env} {s : State} {m : MethodId} {args : Array Value} {below : List Frame} {meth : Method} {c : Code} {T : State} {locs : List Loc}, Cx B Z p s m meth c → Stand p l e B.2.2.2.2 s m args below meth c T locs k n → ∀ {fs : List Frame}, (∀ (f : JFrame) (acts : List Action), f.method = m → f.locked = none → f.entered = [] → (doReturn e (T.setTop f) acts v).1 = T.setFrames fs) → Steps p.tables e below (T.setTop (mkF m pc ls st)) (T.setFrames fs)) :
    Go B Z a0 h0 Q k n ds pc ls st := by
  intro p l e s m args below meth c T locs h1 as C X N M R
  obtain ⟨fs, hr, hrun, hended, hW, hsame⟩ := X.leave (v := v) (fun q => hv (C.2.2.2.2.2.1.symm.trans q)) C.2.2.2.2.2.2.1
  exact ⟨_, v, locs, ds, hs C X hr, hrun, hended, M, R, HQ, N, ⟨_, rfl⟩, hW, hsame.mono hk hn⟩
theorem go_return (hd : decode B.2.1 pc = .ok (.return_, 1)) (hret : B.2.2.2.1 = none) (hst : st = []) (hk : k ≤ B.2.2.2.2.cells) (hn : n ≤ B.2.2.2.2.slots) (HQ : Q none ds) : Go B Z a0 h0 Q k n ds pc ls st := by
  subst hst
  exact go_end hk hn (fun _ => rfl) HQ fun C X _ hr => X.returnOut C.1 (C.2.2.2.2.2.1.trans hret) (hb C.2.2.1 hd) hr
theorem go_ireturn {z : Int32} {rest : List Value} {t : FieldType} (hd : decode B.2.1 pc = .ok (.ireturn, 1)) (hret : B.2.2.2.1 = some t) (ht : t = .int ∨ t = .boolean ∨ t = .byte ∨ t = .char ∨ t = .short) (hst : st = .int z :: rest) (hz : narrow t (.int z) = .int z) (hk : k ≤ B.2.2.2.2.cells) (hn : n ≤ B.2.2.2.2.slots) (HQ : Q (some (.int z)) ds) : Go B Z a0 h0 Q k n ds pc ls st := by
  subst hst
  exact go_end hk hn (fun q => by rw [hret] at q; cases q) HQ fun C X _ hr => retOut X C.1 (C.2.2.2.2.2.1.trans hret) hz (Or.inl ⟨rfl, ht, _, rfl⟩) (hb C.2.2.1 hd) hr
theorem go_lreturn {z : Int64} {rest : List Value} (hd : decode B.2.1 pc = .ok (.lreturn, 1)) (hret : B.2.2.2.1 = some .long) (hst : st = .long z :: rest) (hk : k ≤ B.2.2.2.2.cells) (hn : n ≤ B.2.2.2.2.slots) (HQ : Q (some (.long z)) ds) : Go B Z a0 h0 Q k n ds pc ls st := by
  subst hst
  exact go_end hk hn (fun q => by rw [hret] at q; cases q) HQ fun C X _ hr => retOut X C.1 (C.2.2.2.2.2.1.trans hret) rfl (Or.inr (Or.inl ⟨rfl, rfl, _, rfl⟩)) (hb C.2.2.1 hd) hr
theorem go_areturn {w : Value} {rest : List Value} {t : FieldType} (hd : decode B.2.1 pc = .ok (.areturn, 1)) (hret : B.2.2.2.1 = some t) (ht : t.isReference = true) (hw : w.isRef = true) (hst : st = w :: rest) (hk : k ≤ B.2.2.2.2.cells) (hn : n ≤ B.2.2.2.2.slots) (HQ : Q (some w) ds) : Go B Z a0 h0 Q k n ds pc ls st := by
  subst hst
  have hz : narrow t w = w := by rcases ref_cases hw with rfl | ⟨x, rfl⟩ <;> cases t <;> rfl
  exact go_end hk hn (fun q => by rw [hret] at q; cases q) HQ fun C X _ hr => retOut X C.1 (C.2.2.2.2.2.1.trans hret) hz (Or.inr (Or.inr (Or.inr (Or.inr ⟨rfl, ht, hw⟩)))) (hb C.2.2.1 hd) hr
/-! branches -/
def cmpP : ClassFile.Cond → Int32 → Int32 → Prop
  | .eq, x, y => x.toInt = y.toInt
  | .ne, x, y => x.toInt ≠ y.toInt
  | .lt, x, y => x.toInt < y.toInt
  | .ge, x, y => y.toInt ≤ x.toInt
  | .gt, x, y => y.toInt < x.toInt
  | .le, x, y => x.toInt ≤ y.toInt
def cmpZ : ClassFile.Cond → Int32 → Prop
  | .eq, x => x.toInt = 0
  | .ne, x => x.toInt ≠ 0
  | .lt, x => x.toInt < 0
  | .ge, x => 0 ≤ x.toInt
  | .gt, x => 0 < x.toInt
  | .le, x => x.toInt ≤ 0
theorem cmpP_iff (cd : ClassFile.Cond) (x y : Int32) : if_icmp.holds cd x y = true ↔ cmpP cd x y := by
  cases cd <;> simp [if_icmp.holds, cmpP, Int32.lt_iff_toInt_lt, Int32.le_iff_toInt_le, Int32.toInt_inj]
theorem cmpZ_iff (cd : ClassFile.Cond) (x : Int32) : ifCond.holds cd x = true ↔ cmpZ cd x := by
  have h0 : (0 : Int32).toInt = 0 := rfl
  cases cd <;> simp only [ifCond.holds, cmpZ, Int32.lt_iff_toInt_lt, Int32.le_iff_toInt_le, ← Int32.toInt_inj, h0, decide_eq_true_eq, beq_iff_eq, bne_iff_ne, ne_eq, gt_iff_lt, ge_iff_le]
theorem go_if {cd : ClassFile.Cond} {x : Int32} {rest : List Value} {o : Int} (q1 q2 : Nat) (hp : pc + 3 = q2) (ho : 0 ≤ (pc : Int) + o) (hq : ((pc : Int) + o).toNat = q1) (hd : decode B.2.1 pc = .ok (.ifCond cd o, 3)) (hst : st = .int x :: rest)
    (H1 : cmpZ cd x → Go B Z a0 h0 Q k n ds q1 ls rest) (H2 : ¬ cmpZ cd x → Go B Z a0 h0 Q k n ds q2 ls rest) : Go B Z a0 h0 Q k n ds pc ls st := by
  subst hst hp
  cases hc : ifCond.holds cd x
  · exact (H2 fun q => by rw [(cmpZ_iff cd x).mpr q] at hc; cases hc).step fun C X _ t hr => XS.ifNo X.here C.1 rfl (hb C.2.2.1 hd) rfl hc hr
  · exact (H1 ((cmpZ_iff cd x).mp hc)).step fun C X _ t hr => XS.ifYes X.here C.1 rfl rfl (hb C.2.2.1 hd) rfl hc ho hq hr
theorem go_icmp {cd : ClassFile.Cond} {x y : Int32} {rest : List Value} {o : Int} (q1 q2 : Nat) (hp : pc + 3 = q2) (ho : 0 ≤ (pc : Int) + o) (hq : ((pc : Int) + o).toNat = q1) (hd : decode B.2.1 pc = .ok (.if_icmp cd o, 3)) (hst : st = .int y :: .int x :: rest)
    (H1 : cmpP cd x y → Go B Z a0 h0 Q k n ds q1 ls rest) (H2 : ¬ cmpP cd x y → Go B Z a0 h0 Q k n ds q2 ls rest) : Go B Z a0 h0 Q k n ds pc ls st := by
  subst hst hp
  cases hc : if_icmp.holds cd x y
  · exact (H2 fun q => by rw [(cmpP_iff cd x y).mpr q] at hc; cases hc).step fun C X _ t hr => XS.icmpNo X.here C.1 rfl (hb C.2.2.1 hd) rfl hc hr
  · exact (H1 ((cmpP_iff cd x y).mp hc)).step fun C X _ t hr => XS.icmpYes X.here C.1 rfl rfl (hb C.2.2.1 hd) rfl hc ho hq hr
def acP : ACond → Value → Value → Prop
  | .eq, x, y => x = y
  | .ne, x, y => x ≠ y
theorem acP_iff (cd : ACond) (x y : Value) : acV cd (decide (x = y)) = true ↔ acP cd x y := by cases cd <;> simp [acV, acP]
theorem go_acmp {cd : ACond} {x y : Value} {rest : List Value} {o : Int} (q1 q2 : Nat) (hp : pc + 3 = q2) (ho : 0 ≤ (pc : Int) + o) (hq : ((pc : Int) + o).toNat = q1) (hd : decode B.2.1 pc = .ok (.if_acmp cd o, 3)) (hst : st = y :: x :: rest) (hx : x.isRef = true) (hy : y.isRef = true)
    (H1 : acP cd x y → Go B Z a0 h0 Q k n ds q1 ls rest) (H2 : ¬ acP cd x y → Go B Z a0 h0 Q k n ds q2 ls rest) : Go B Z a0 h0 Q k n ds pc ls st := by
  subst hst hp
  cases hc : acV cd (decide (x = y))
  · exact (H2 fun q => by rw [(acP_iff cd x y).mpr q] at hc; cases hc).step fun C X _ t hr => RoadKit.acmp X C.1 rfl hx hy rfl (hb C.2.2.1 hd) rfl rfl ho (by rw [hc]; rfl) hr
  · exact (H1 ((acP_iff cd x y).mp hc)).step fun C X _ t hr => RoadKit.acmp X C.1 rfl hx hy rfl (hb C.2.2.1 hd) rfl rfl ho (by rw [hc]; exact hq.symm) hr
theorem go_ifnullY {rest : List Value} {o : Int} (q1 : Nat) (ho : 0 ≤ (pc : Int) + o) (hq : ((pc : Int) + o).toNat = q1) (hd : decode B.2.1 pc = .ok (.ifnull o, 3)) (hst : st = .null :: rest) (H : Go B Z a0 h0 Q k n ds q1 ls rest) : Go B Z a0 h0 Q k n ds pc ls st := by
  subst hst; exact H.step fun C X _ t hr => XS.ifnullYes X.here C.1 rfl rfl (hb C.2.2.1 hd) rfl ho hq hr
theorem go_ifnullN {b : Addr} {rest : List Value} {o : Int} (q2 : Nat) (hp : pc + 3 = q2) (hd : decode B.2.1 pc = .ok (.ifnull o, 3)) (hst : st = .ref b :: rest) (H : Go B Z a0 h0 Q k n ds q2 ls rest) : Go B Z a0 h0 Q k n ds pc ls st := by
  subst hst hp; exact H.step fun C X _ t hr => XS.ifnullNo X.here C.1 rfl (hb C.2.2.1 hd) rfl hr
theorem go_ifnonnullY {b : Addr} {rest : List Value} {o : Int} (q1 : Nat) (ho : 0 ≤ (pc : Int) + o) (hq : ((pc : Int) + o).toNat = q1) (hd : decode B.2.1 pc = .ok (.ifnonnull o, 3)) (hst : st = .ref b :: rest) (H : Go B Z a0 h0 Q k n ds q1 ls rest) : Go B Z a0 h0 Q k n ds pc ls st := by
  subst hst; exact H.step fun C X _ t hr => XS.ifnonnullYes X.here C.1 rfl rfl (hb C.2.2.1 hd) rfl ho hq hr
theorem go_ifnonnullN {rest : List Value} {o : Int} (q2 : Nat) (hp : pc + 3 = q2) (hd : decode B.2.1 pc = .ok (.ifnonnull o, 3)) (hst : st = .null :: rest) (H : Go B Z a0 h0 Q k n ds q2 ls rest) : Go B Z a0 h0 Q k n ds pc ls st := by
  subst hst hp; exact H.step fun C X _ t hr => XS.ifnonnullNo X.here C.1 rfl (hb C.2.2.1 hd) rfl hr
theorem go_goto {o : Int} (q : Nat) (ho : 0 ≤ (pc : Int) + o) (hq : ((pc : Int) + o).toNat = q) (hd : decode B.2.1 pc = .ok (.goto o, 3)) (H : Go B Z a0 h0 Q k n ds q ls st) : Go B Z a0 h0 Q k n ds pc ls st :=
  H.step fun C X _ t hr => XS.goto X.here C.1 rfl rfl (hb C.2.2.1 hd) ho hq hr
/-! constants of the pool -/
theorem go_ldc {idx : Nat} {v : Int32} (q : Nat) (hp : pc + 2 = q) (hd : decode B.2.1 pc = .ok (.ldc idx, 2)) (w : (Jvm.Cond.constant B.1.cls idx v).before a0 Z = true) (H : Go B Z a0 h0 Q k n ds q ls (.int v :: st)) : Go B Z a0 h0 Q k n ds pc ls st := by
  subst hp; exact H.step fun C X _ t hr => X.ldcInt C.1 C.2.2.2.2.1 (mvT C.2.1 w) (g := mkF _ pc ls st) rfl (hb C.2.2.1 hd) t hr
theorem go_ldc2 {idx : Nat} {v : Int64} (q : Nat) (hp : pc + 3 = q) (hd : decode B.2.1 pc = .ok (.ldc2_w idx, 3)) (w : (Jvm.Cond.constantLong B.1.cls idx v).before a0 Z = true) (H : Go B Z a0 h0 Q k n ds q ls (.long v :: st)) : Go B Z a0 h0 Q k n ds pc ls st := by
  subst hp; exact H.step fun C X _ t hr => X.ldc2Long C.1 C.2.2.2.2.1 (mvT C.2.1 w) (g := mkF _ pc ls st) rfl (hb C.2.2.1 hd) t hr
/-! the heap -/
theorem go_new {C : String} {idx sz : Nat} (q : Nat) (hp : pc + 3 = q) (hd : decode B.2.1 pc = .ok (.new idx, 3)) (w : (Jvm.Cond.classLink B.1.cls idx C).before a0 Z = true) (wi : (Jvm.Cond.instantiable C sz).before a0 Z = true) (wz : (Jvm.Cond.initialized C).before a0 Z = true)
    (hk : k + 1 ≤ B.2.2.2.2.cells) (hn : n + sz ≤ B.2.2.2.2.slots) (fs : Fds) (hfs : LaidL Z a0 C fs) (hnd : (fs.map (·.2.1)).Nodup) (H : ∀ a, Go B Z a0 h0 Q (k + 1) (n + sz) (ds ++ [ob a C fs]) q ls (.ref a :: st)) : Go B Z a0 h0 Q k n ds pc ls st := by
  subst hp
  intro p l e s m args below meth c T locs hs as Cc X N M R
  obtain ⟨T', h', X', e', E', A', D', -, st'⟩ := newO X Cc.1 Cc.2.1 Cc.2.2.2.2.1 w wi wz rfl (g := mkF m pc ls st) rfl (hb Cc.2.2.1 hd) hk hn
  refine (H T.heap.size p l e s m args below meth c T' locs hs as Cc X' N ?_ (by rw [e']; exact R.add E')).back st'
  rw [e']
  refine M.add E' ⟨A', fun f hf => ?_, hnd⟩
  obtain ⟨L, ty, h1, h2⟩ := hfs.mem f hf
  exact ⟨h2 ▸ D' L h1, L, ty, h1⟩
theorem go_newarr {aty : ArrayType} {x : Int32} {rest : List Value} (q : Nat) (hp : pc + 2 = q) (hd : decode B.2.1 pc = .ok (.newarray aty, 2)) (hst : st = .int x :: rest) (w : (Jvm.Cond.arrayClass (newarray.typeOf aty)).before a0 Z = true) (hx : ¬ x < 0) (cap : Nat) (hcap : x.toNatClampNeg ≤ cap) (hbb : cap * 8 ≤ 536870912)
    (hk : k + 1 ≤ B.2.2.2.2.cells) (hn : n + cap ≤ B.2.2.2.2.slots) (H : ∀ a, Go B Z a0 h0 Q (k + 1) (n + cap) (ds ++ [ar a (newarray.typeOf aty) (List.replicate x.toNatClampNeg (defaultValue (newarray.typeOf aty)))]) q ls (.ref a :: rest)) : Go B Z a0 h0 Q k n ds pc ls st := by
  subst hp hst
  intro p l e s m args below meth c T locs hs as Cc X N M R
  obtain ⟨T', h', cA, X', e', E', A', st'⟩ := newP X Cc.1 Cc.2.1 w rfl (g := mkF m pc ls (.int x :: rest)) rfl (hb Cc.2.2.1 hd) rfl hx hcap hbb hk hn
  refine (H T.heap.size p l e s m args below meth c T' locs hs as Cc X' N ?_ (by rw [e']; exact R.add E')).back st'
  rw [e']
  exact M.add E' ⟨_, A', by simp [newA], fun C q => by cases aty <;> cases q⟩
theorem go_anewarr {C : String} {idx : Nat} {x : Int32} {rest : List Value} (q : Nat) (hp : pc + 3 = q) (hd : decode B.2.1 pc = .ok (.anewarray idx, 3)) (hst : st = .int x :: rest) (w : (Jvm.Cond.classLink B.1.cls idx C).before a0 Z = true) (w2 : (Jvm.Cond.arrayOver (.object C)).before a0 Z = true) (hx : ¬ x < 0) (cap : Nat) (hcap : x.toNatClampNeg ≤ cap) (hbb : cap * 8 ≤ 536870912)
    (hk : k + 1 ≤ B.2.2.2.2.cells) (hn : n + cap ≤ B.2.2.2.2.slots) (H : ∀ a, Go B Z a0 h0 Q (k + 1) (n + cap) (ds ++ [ar a (.object C) (List.replicate x.toNatClampNeg .null)]) q ls (.ref a :: rest)) : Go B Z a0 h0 Q k n ds pc ls st := by
  subst hp hst
  intro p l e s m args below meth c T locs hs as Cc X N M R
  obtain ⟨T', h', cA, X', e', E', A', O', st'⟩ := newR X Cc.1 Cc.2.1 Cc.2.2.2.2.1 w w2 rfl (g := mkF m pc ls (.int x :: rest)) rfl (hb Cc.2.2.1 hd) rfl hx hcap hbb hk hn
  refine (H T.heap.size p l e s m args below meth c T' locs hs as Cc X' N ?_ (by rw [e']; exact R.add E')).back st'
  rw [e']
  exact M.add E' ⟨_, A', by simp [newA, defaultValue], fun C' q => by cases q; exact O'⟩
theorem go_getG {a : Addr} {O R0 nm d : String} {v : Value} {idx : Nat} {rest : List Value} (q : Nat) (hp : pc + 3 = q) (hd : decode B.2.1 pc = .ok (.getfield idx, 3)) (hst : st = .ref a :: rest) (w : (Jvm.Cond.fieldLink B.1.cls idx R0 nm d).before a0 Z = true) (via : Via Z R0 O nm d) (hF : ∀ h, Mo Z a0 h0 ds h → Fld Z h a O nm d v)
    (H : Go B Z a0 h0 Q k n ds q ls (v :: rest)) : Go B Z a0 h0 Q k n ds pc ls st := by
  subst hp hst
  intro p l e s m args below meth c T locs hs as Cc X N M R
  obtain ⟨T', X', e', st'⟩ := getF X Cc.1 Cc.2.1 Cc.2.2.2.2.1 (host := "") (Or.inl w) via rfl (hF _ M) (g := mkF m pc ls (.ref a :: rest)) rfl rfl (hb Cc.2.2.1 hd)
  exact (H p l e s m args below meth c T' locs hs as Cc X' N (by rw [e']; exact M) (by rw [e']; exact R)).back st'
theorem go_get {a : Addr} {C O nm d : String} {fs : Fds} {v : Value} {idx : Nat} {rest : List Value} (i j q : Nat) (hp : pc + 3 = q) (hd : decode B.2.1 pc = .ok (.getfield idx, 3)) (hst : st = .ref a :: rest) (hi : ds[i]? = some (ob a C fs)) (hj : fs[j]? = some (O, nm, d, v)) (w : (Jvm.Cond.fieldLink B.1.cls idx O nm d).before a0 Z = true)
    (H : Go B Z a0 h0 Q k n ds q ls (v :: rest)) : Go B Z a0 h0 Q k n ds pc ls st :=
  go_getG q hp hd hst w Via.refl (fun h M => ((M.at hi).2.1 _ (List.mem_of_getElem? hj)).1) H
theorem go_put {a : Addr} {C O nm d : String} {fs : Fds} {v old : Value} {idx kk : Nat} {rest : List Value} {ty : FieldType} (i j q : Nat) (hp : pc + 3 = q) (hd : decode B.2.1 pc = .ok (.putfield idx, 3)) (hst : st = v :: .ref a :: rest) (hi : ds[i]? = some (ob a C fs)) (hj : fs[j]? = some (O, nm, d, old))
    (w : (Jvm.Cond.fieldLink B.1.cls idx O nm d).before a0 Z = true) (L : (Jvm.Cond.lays C O nm d).before a0 Z = true ∨ ((Jvm.Cond.laysFinal C O nm d).before a0 Z = true ∧ B.1.cls = O ∧ B.1.name = "<init>")) (wi : (Jvm.Cond.instantiable C kk).before a0 Z = true)
    (hty : parseFieldDescriptor d = some ty) (hnn : narrow ty v = v) (hf : fits ty v = true) (H : Go B Z a0 h0 Q k n (ds.set i (ob a C (fs.set j (O, nm, d, v)))) q ls rest) : Go B Z a0 h0 Q k n ds pc ls st := by
  subst hp hst
  intro p l e s m args below meth c T locs hs as Cc X N M R
  have HA := M.at hi
  obtain ⟨F, La, -⟩ := HA.2.1 _ (List.mem_of_getElem? hj)
  have hown : s.vm.findClass B.1.cls = some m.cls := Cc.2.2.2.2.1
  obtain ⟨T', h', X', e', W', st'⟩ := putF X Cc.1 Cc.2.1 hown (host := "") (Or.inl w) Via.refl rfl F HA.1 (L.imp id fun q => ⟨q.1, q.2.1, Cc.2.2.2.2.2.2.2.trans q.2.2⟩) wi hty hnn hf (g := mkF m pc ls (v :: .ref a :: rest)) rfl rfl (hb Cc.2.2.1 hd)
  refine (H p l e s m args below meth c T' _ hs as Cc X' (Fr.snoc X' N (M.new hi id)) ?_ (by rw [e']; exact R.wr hi W')).back st'
  rw [e']
  refine M.wr hi id W' ⟨HA.1.wr W', fun f hf => ?_, ?_⟩
  · obtain ⟨j', hj'⟩ := List.getElem?_of_mem hf
    by_cases e : j = j'
    · subst e
      rw [List.getElem?_set_self (List.getElem?_eq_some_iff.mp hj).1] at hj'
      cases hj'; exact ⟨F.same W', La, ty, hty⟩
    · rw [List.getElem?_set_ne e] at hj'
      obtain ⟨F1, L1, ty1, ht1⟩ := HA.2.1 f (List.mem_of_getElem? hj')
      refine ⟨F1.other W' (Or.inr (slot_ne L1 La (fun q => ?_) ht1 hty)), L1, ty1, ht1⟩
      have P := List.pairwise_iff_getElem.mp HA.2.2
      obtain ⟨l1, e1⟩ := List.getElem?_eq_some_iff.mp hj
      obtain ⟨l2, e2⟩ := List.getElem?_eq_some_iff.mp hj'
      rcases Nat.lt_or_gt_of_ne e with r | r
      · have z := P j j' (by simpa using l1) (by simpa using l2) r
        simp only [List.getElem_map, e1, e2] at z; exact z q.symm
      · have z := P j' j (by simpa using l2) (by simpa using l1) r
        simp only [List.getElem_map, e1, e2] at z; exact z q
  · rw [List.map_set]
    have : (fs.map (·.2.1)).set j nm = fs.map (·.2.1) := by
      apply List.ext_getElem?
      intro t
      by_cases e : j = t
      · subst e; rw [List.getElem?_set_self (by simpa using (List.getElem?_eq_some_iff.mp hj).1)]; simp [hj]
      · rw [List.getElem?_set_ne e]
    show ((fs.map (·.2.1)).set j nm).Nodup
    rw [this]; exact HA.2.2
theorem go_getS {O nm d : String} {v : Value} {idx : Nat} (q : Nat) (hp : pc + 3 = q) (hd : decode B.2.1 pc = .ok (.getstatic idx, 3)) (w : (Jvm.Cond.fieldLink B.1.cls idx O nm d).before a0 Z = true) (F : Sta Z h0 O nm d v) (H : Go B Z a0 h0 Q k n ds q ls (v :: st)) : Go B Z a0 h0 Q k n ds pc ls st := by
  subst hp
  intro p l e s m args below meth c T locs hs as Cc X N M R
  obtain ⟨T', X', e', st'⟩ := getS X Cc.1 Cc.2.1 (host := "") Cc.2.2.2.2.1 w Via.refl rfl (F.ext M.1) (g := mkF m pc ls st) rfl (hb Cc.2.2.1 hd)
  exact (H p l e s m args below meth c T' locs hs as Cc X' N (by rw [e']; exact M) (by rw [e']; exact R)).back st'
/-! arrays -/
theorem Holds.arr {h : Heap} {a : Addr} {ty : FieldType} {vs : List Value} (H : Holds Z a0 h a (.inr (ty, vs))) : ∃ c : Cell, Arr Z h a c ty ∧ c.slots = vs.toArray ∧ (∀ C, ty = .object C → Ovr Z c.cls C) := by
  obtain ⟨c, A, e, r⟩ := H; exact ⟨c, A, by rw [← e], r⟩
theorem inb {c : Cell} {vs : List Value} {j : Int32} {v : Value} (e : c.slots = vs.toArray) (hj : ¬ j < 0) (hv : vs[j.toNatClampNeg]? = some v) : ¬ (j < 0 ∨ c.slots.size ≤ j.toNatClampNeg) ∧ c.slots[j.toNatClampNeg]? = some v := by
  have l1 := (List.getElem?_eq_some_iff.mp hv).1
  rw [e]; exact ⟨fun q => q.elim hj fun q => by simp at q; omega, by simpa using hv⟩
theorem go_alenG {a : Addr} {z : Int32} {ty : FieldType} {rest : List Value} (q : Nat) (hp : pc + 1 = q) (hd : decode B.2.1 pc = .ok (.arraylength, 1)) (hst : st = .ref a :: rest) (hA : ∀ h, Mo Z a0 h0 ds h → ∃ c : Cell, Arr Z h a c ty ∧ c.slots.size.toInt32 = z) (H : Go B Z a0 h0 Q k n ds q ls (.int z :: rest)) : Go B Z a0 h0 Q k n ds pc ls st := by
  subst hp hst
  refine H.step fun C X M t hr => ?_
  obtain ⟨cl, A, e⟩ := hA _ M
  exact X.arraylength C.1 A.1 (State.isArrayOf_alike C.2.1.alike A.2.1) (g := mkF _ pc ls (.ref a :: rest)) rfl rfl (hb C.2.2.1 hd) t (by rw [e]; exact hr)
theorem go_alen {a : Addr} {ty : FieldType} {vs : List Value} {rest : List Value} (i q : Nat) (hp : pc + 1 = q) (hd : decode B.2.1 pc = .ok (.arraylength, 1)) (hst : st = .ref a :: rest) (hi : ds[i]? = some (ar a ty vs)) (H : Go B Z a0 h0 Q k n ds q ls (.int vs.length.toInt32 :: rest)) : Go B Z a0 h0 Q k n ds pc ls st :=
  go_alenG q hp hd hst (fun h M => by obtain ⟨c, A, e, -⟩ := (M.at hi).arr; exact ⟨c, A, by rw [e]; simp⟩) H
def El (Z : State) (h : Heap) (a : Addr) (ty : FieldType) (j : Int32) (v : Value) : Prop := ∃ c : Cell, Arr Z h a c ty ∧ ¬ (j < 0 ∨ c.slots.size ≤ j.toNatClampNeg) ∧ c.slots[j.toNatClampNeg]? = some v
theorem El.ext {h h' : Heap} {a : Addr} {ty : FieldType} {j : Int32} {v : Value} (E : Ext h h') (F : El Z h a ty j v) : El Z h' a ty j v := by obtain ⟨c, A, r⟩ := F; exact ⟨c, A.ext E, r⟩
theorem Mo.el {a : Addr} {ty : FieldType} {vs : List Value} {i : Nat} {j : Int32} {v : Value} (hi : ds[i]? = some (ar a ty vs)) (hj : ¬ j < 0) (hv : vs[j.toNatClampNeg]? = some v) : ∀ h, Mo Z a0 h0 ds h → El Z h a ty j v := fun h M => by
  obtain ⟨c, A, e, -⟩ := (M.at hi).arr; exact ⟨c, A, inb e hj hv⟩
theorem go_iaload {a : Addr} {j : Int32} {v : Value} {rest : List Value} (q : Nat) (hp : pc + 1 = q) (hd : decode B.2.1 pc = .ok (.iaload, 1)) (hst : st = .int j :: .ref a :: rest) (hA : ∀ h, Mo Z a0 h0 ds h → El Z h a .int j v) (H : Go B Z a0 h0 Q k n ds q ls (v :: rest)) : Go B Z a0 h0 Q k n ds pc ls st := by
  subst hp hst
  refine H.step fun C X M t hr => ?_
  obtain ⟨cl, A, h1, h2⟩ := hA _ M
  exact X.iaload C.1 A.1 (State.isArrayOf_alike C.2.1.alike A.2.1) A.2.2 h1 h2 (g := mkF _ pc ls (.int j :: .ref a :: rest)) rfl rfl (hb C.2.2.1 hd) t hr
theorem go_laload {a : Addr} {j : Int32} {v : Value} {rest : List Value} (q : Nat) (hp : pc + 1 = q) (hd : decode B.2.1 pc = .ok (.laload, 1)) (hst : st = .int j :: .ref a :: rest) (hA : ∀ h, Mo Z a0 h0 ds h → El Z h a .long j v) (H : Go B Z a0 h0 Q k n ds q ls (v :: rest)) : Go B Z a0 h0 Q k n ds pc ls st := by
  subst hp hst
  refine H.step fun C X M t hr => ?_
  obtain ⟨cl, A, h1, h2⟩ := hA _ M
  exact X.laload C.1 A.1 (State.isArrayOf_alike C.2.1.alike A.2.1) A.2.2 h1 h2 (g := mkF _ pc ls (.int j :: .ref a :: rest)) rfl rfl (hb C.2.2.1 hd) t hr
theorem go_caload {a : Addr} {j : Int32} {v : Value} {rest : List Value} (q : Nat) (hp : pc + 1 = q) (hd : decode B.2.1 pc = .ok (.caload, 1)) (hst : st = .int j :: .ref a :: rest) (hA : ∀ h, Mo Z a0 h0 ds h → El Z h a .char j v) (H : Go B Z a0 h0 Q k n ds q ls (v :: rest)) : Go B Z a0 h0 Q k n ds pc ls st := by
  subst hp hst
  refine H.step fun C X M t hr => ?_
  obtain ⟨cl, A, h1, h2⟩ := hA _ M
  exact X.caload C.1 A.1 (State.isArrayOf_alike C.2.1.alike A.2.1) A.2.2 h1 h2 (g := mkF _ pc ls (.int j :: .ref a :: rest)) rfl rfl (hb C.2.2.1 hd) t hr
theorem go_saload {a : Addr} {j : Int32} {v : Value} {rest : List Value} (q : Nat) (hp : pc + 1 = q) (hd : decode B.2.1 pc = .ok (.saload, 1)) (hst : st = .int j :: .ref a :: rest) (hA : ∀ h, Mo Z a0 h0 ds h → El Z h a .short j v) (H : Go B Z a0 h0 Q k n ds q ls (v :: rest)) : Go B Z a0 h0 Q k n ds pc ls st := by
  subst hp hst
  refine H.step fun C X M t hr => ?_
  obtain ⟨cl, A, h1, h2⟩ := hA _ M
  exact X.saload C.1 A.1 (State.isArrayOf_alike C.2.1.alike A.2.1) A.2.2 h1 h2 (g := mkF _ pc ls (.int j :: .ref a :: rest)) rfl rfl (hb C.2.2.1 hd) t hr
theorem go_baload {a : Addr} {j : Int32} {v : Value} {rest : List Value} (q : Nat) (hp : pc + 1 = q) (hd : decode B.2.1 pc = .ok (.baload, 1)) (hst : st = .int j :: .ref a :: rest) (hA : ∀ h, Mo Z a0 h0 ds h → El Z h a .byte j v) (H : Go B Z a0 h0 Q k n ds q ls (v :: rest)) : Go B Z a0 h0 Q k n ds pc ls st := by
  subst hp hst
  refine H.step fun C X M t hr => ?_
  obtain ⟨cl, A, h1, h2⟩ := hA _ M
  exact X.baloadBytes C.1 A.1 (State.isArrayOf_alike C.2.1.alike A.2.1) A.2.2 h1 h2 (g := mkF _ pc ls (.int j :: .ref a :: rest)) rfl rfl (hb C.2.2.1 hd) t hr
theorem go_zaload {a : Addr} {j : Int32} {v : Value} {rest : List Value} (q : Nat) (hp : pc + 1 = q) (hd : decode B.2.1 pc = .ok (.baload, 1)) (hst : st = .int j :: .ref a :: rest) (hA : ∀ h, Mo Z a0 h0 ds h → El Z h a .boolean j v) (H : Go B Z a0 h0 Q k n ds q ls (v :: rest)) : Go B Z a0 h0 Q k n ds pc ls st := by
  subst hp hst
  refine H.step fun C X M t hr => ?_
  obtain ⟨cl, A, h1, h2⟩ := hA _ M
  exact X.baloadBooleans C.1 A.1 (State.isArrayOf_alike C.2.1.alike A.2.1) A.2.2 h1 h2 (g := mkF _ pc ls (.int j :: .ref a :: rest)) rfl rfl (hb C.2.2.1 hd) t hr
theorem go_aaload {a : Addr} {j : Int32} {v : Value} {ty : FieldType} {rest : List Value} (q : Nat) (hp : pc + 1 = q) (hd : decode B.2.1 pc = .ok (.aaload, 1)) (hst : st = .int j :: .ref a :: rest) (hty : ty.isReference = true) (hA : ∀ h, Mo Z a0 h0 ds h → El Z h a ty j v) (H : Go B Z a0 h0 Q k n ds q ls (v :: rest)) : Go B Z a0 h0 Q k n ds pc ls st := by
  subst hp hst
  refine H.step fun C X M t hr => ?_
  obtain ⟨cl, A, h1, h2⟩ := hA _ M
  exact X.aaload C.1 A.1 (State.isArrayOf_alike C.2.1.alike A.2.1) hty A.2.2 h1 h2 (g := mkF _ pc ls (.int j :: .ref a :: rest)) rfl rfl (hb C.2.2.1 hd) t hr
theorem Holds.set {h h' : Heap} {a : Addr} {ty : FieldType} {vs : List Value} {c : Cell} {j : Int32} {v : Value} (A : Arr Z h a c ty) (e : c.slots = vs.toArray) (O : ∀ C, ty = .object C → Ovr Z c.cls C) (W : Wr h h' a j.toNatClampNeg v) : Holds Z a0 h' a (.inr (ty, vs.set j.toNatClampNeg v)) :=
  ⟨_, A.same W, by simp [Cell.setSlot, e], O⟩
theorem go_iastore {a : Addr} {j : Int32} {x : Int32} {vs rest : List Value} (i q : Nat) (hp : pc + 1 = q) (hd : decode B.2.1 pc = .ok (.iastore, 1)) (hst : st = .int x :: .int j :: .ref a :: rest) (hi : ds[i]? = some (ar a .int vs)) (hj : ¬ j < 0) (hl : j.toNatClampNeg < vs.length) (H : Go B Z a0 h0 Q k n (ds.set i (ar a .int (vs.set j.toNatClampNeg (.int x)))) q ls rest) : Go B Z a0 h0 Q k n ds pc ls st := by
  subst hp hst
  intro p l e s m args below meth c T locs hs as Cc X N M R
  obtain ⟨cl, A, ee, O⟩ := (M.at hi).arr
  obtain ⟨T', h', X', e', W', st'⟩ := stI X Cc.1 Cc.2.1 rfl A (inb ee hj (List.getElem?_eq_getElem hl)).1 (g := mkF m pc ls (.int x :: .int j :: .ref a :: rest)) rfl rfl (hb Cc.2.2.1 hd)
  refine (H p l e s m args below meth c T' _ hs as Cc X' (Fr.snoc X' N (M.new hi (nemp hl))) ?_ (by rw [e']; exact R.wr hi W')).back st'
  rw [e']; exact M.wr hi (nemp hl) W' (Holds.set A ee O W')
theorem go_lastore {a : Addr} {j : Int32} {x : Int64} {vs rest : List Value} (i q : Nat) (hp : pc + 1 = q) (hd : decode B.2.1 pc = .ok (.lastore, 1)) (hst : st = .long x :: .int j :: .ref a :: rest) (hi : ds[i]? = some (ar a .long vs)) (hj : ¬ j < 0) (hl : j.toNatClampNeg < vs.length) (H : Go B Z a0 h0 Q k n (ds.set i (ar a .long (vs.set j.toNatClampNeg (.long x)))) q ls rest) : Go B Z a0 h0 Q k n ds pc ls st := by
  subst hp hst
  intro p l e s m args below meth c T locs hs as Cc X N M R
  obtain ⟨cl, A, ee, O⟩ := (M.at hi).arr
  obtain ⟨T', h', X', e', W', st'⟩ := stJ X Cc.1 Cc.2.1 rfl A (inb ee hj (List.getElem?_eq_getElem hl)).1 (g := mkF m pc ls (.long x :: .int j :: .ref a :: rest)) rfl rfl (hb Cc.2.2.1 hd)
  refine (H p l e s m args below meth c T' _ hs as Cc X' (Fr.snoc X' N (M.new hi (nemp hl))) ?_ (by rw [e']; exact R.wr hi W')).back st'
  rw [e']; exact M.wr hi (nemp hl) W' (Holds.set A ee O W')
theorem go_castore {a : Addr} {j : Int32} {x : Int32} {vs rest : List Value} (i q : Nat) (hp : pc + 1 = q) (hd : decode B.2.1 pc = .ok (.castore, 1)) (hst : st = .int x :: .int j :: .ref a :: rest) (hi : ds[i]? = some (ar a .char vs)) (hj : ¬ j < 0) (hl : j.toNatClampNeg < vs.length) (H : Go B Z a0 h0 Q k n (ds.set i (ar a .char (vs.set j.toNatClampNeg (.int (nar .char x))))) q ls rest) : Go B Z a0 h0 Q k n ds pc ls st := by
  subst hp hst
  intro p l e s m args below meth c T locs hs as Cc X N M R
  obtain ⟨cl, A, ee, O⟩ := (M.at hi).arr
  obtain ⟨T', h', X', e', W', st'⟩ := stC X Cc.1 Cc.2.1 rfl A (inb ee hj (List.getElem?_eq_getElem hl)).1 (g := mkF m pc ls (.int x :: .int j :: .ref a :: rest)) rfl rfl (hb Cc.2.2.1 hd)
  refine (H p l e s m args below meth c T' _ hs as Cc X' (Fr.snoc X' N (M.new hi (nemp hl))) ?_ (by rw [e']; exact R.wr hi W')).back st'
  rw [e']; exact M.wr hi (nemp hl) W' (Holds.set A ee O W')
theorem go_sastore {a : Addr} {j : Int32} {x : Int32} {vs rest : List Value} (i q : Nat) (hp : pc + 1 = q) (hd : decode B.2.1 pc = .ok (.sastore, 1)) (hst : st = .int x :: .int j :: .ref a :: rest) (hi : ds[i]? = some (ar a .short vs)) (hj : ¬ j < 0) (hl : j.toNatClampNeg < vs.length) (H : Go B Z a0 h0 Q k n (ds.set i (ar a .short (vs.set j.toNatClampNeg (.int (nar .short x))))) q ls rest) : Go B Z a0 h0 Q k n ds pc ls st := by
  subst hp hst
  intro p l e s m args below meth c T locs hs as Cc X N M R
  obtain ⟨cl, A, ee, O⟩ := (M.at hi).arr
  obtain ⟨T', h', X', e', W', st'⟩ := stS X Cc.1 Cc.2.1 rfl A (inb ee hj (List.getElem?_eq_getElem hl)).1 (g := mkF m pc ls (.int x :: .int j :: .ref a :: rest)) rfl rfl (hb Cc.2.2.1 hd)
  refine (H p l e s m args below meth c T' _ hs as Cc X' (Fr.snoc X' N (M.new hi (nemp hl))) ?_ (by rw [e']; exact R.wr hi W')).back st'
  rw [e']; exact M.wr hi (nemp hl) W' (Holds.set A ee O W')
theorem go_bastore {a : Addr} {j : Int32} {x : Int32} {vs rest : List Value} (i q : Nat) (hp : pc + 1 = q) (hd : decode B.2.1 pc = .ok (.bastore, 1)) (hst : st = .int x :: .int j :: .ref a :: rest) (hi : ds[i]? = some (ar a .byte vs)) (hj : ¬ j < 0) (hl : j.toNatClampNeg < vs.length) (H : Go B Z a0 h0 Q k n (ds.set i (ar a .byte (vs.set j.toNatClampNeg (.int (nar .byte x))))) q ls rest) : Go B Z a0 h0 Q k n ds pc ls st := by
  subst hp hst
  intro p l e s m args below meth c T locs hs as Cc X N M R
  obtain ⟨cl, A, ee, O⟩ := (M.at hi).arr
  obtain ⟨T', h', X', e', W', st'⟩ := stB X Cc.1 Cc.2.1 rfl A (inb ee hj (List.getElem?_eq_getElem hl)).1 (g := mkF m pc ls (.int x :: .int j :: .ref a :: rest)) rfl rfl (hb Cc.2.2.1 hd)
  refine (H p l e s m args below meth c T' _ hs as Cc X' (Fr.snoc X' N (M.new hi (nemp hl))) ?_ (by rw [e']; exact R.wr hi W')).back st'
  rw [e']; exact M.wr hi (nemp hl) W' (Holds.set A ee O W')
theorem go_zastore {a : Addr} {j : Int32} {x : Int32} {vs rest : List Value} (i q : Nat) (hp : pc + 1 = q) (hd : decode B.2.1 pc = .ok (.bastore, 1)) (hst : st = .int x :: .int j :: .ref a :: rest) (hi : ds[i]? = some (ar a .boolean vs)) (hj : ¬ j < 0) (hl : j.toNatClampNeg < vs.length) (H : Go B Z a0 h0 Q k n (ds.set i (ar a .boolean (vs.set j.toNatClampNeg (.int (nar .boolean x))))) q ls rest) : Go B Z a0 h0 Q k n ds pc ls st := by
  subst hp hst
  intro p l e s m args below meth c T locs hs as Cc X N M R
  obtain ⟨cl, A, ee, O⟩ := (M.at hi).arr
  obtain ⟨T', h', X', e', W', st'⟩ := stZ X Cc.1 Cc.2.1 rfl A (inb ee hj (List.getElem?_eq_getElem hl)).1 (g := mkF m pc ls (.int x :: .int j :: .ref a :: rest)) rfl rfl (hb Cc.2.2.1 hd)
  refine (H p l e s m args below meth c T' _ hs as Cc X' (Fr.snoc X' N (M.new hi (nemp hl))) ?_ (by rw [e']; exact R.wr hi W')).back st'
  rw [e']; exact M.wr hi (nemp hl) W' (Holds.set A ee O W')
theorem go_aastore {a : Addr} {j : Int32} {v : Value} {ty : FieldType} {vs rest : List Value} (i q : Nat) (hp : pc + 1 = q) (hd : decode B.2.1 pc = .ok (.aastore, 1)) (hst : st = v :: .int j :: .ref a :: rest) (hi : ds[i]? = some (ar a ty vs)) (hty : ty.isReference = true) (hj : ¬ j < 0) (hl : j.toNatClampNeg < vs.length) (hS : ∀ h, Mo Z a0 h0 ds h → Sto Z h a v) (H : Go B Z a0 h0 Q k n (ds.set i (ar a ty (vs.set j.toNatClampNeg v))) q ls rest) : Go B Z a0 h0 Q k n ds pc ls st := by
  subst hp hst
  intro p l e s m args below meth c T locs hs as Cc X N M R
  obtain ⟨cl, A, ee, O⟩ := (M.at hi).arr
  obtain ⟨T', h', X', e', W', st'⟩ := stR X Cc.1 Cc.2.1 rfl A (inb ee hj (List.getElem?_eq_getElem hl)).1 hty (hS _ M) (g := mkF m pc ls (v :: .int j :: .ref a :: rest)) rfl rfl (hb Cc.2.2.1 hd)
  refine (H p l e s m args below meth c T' _ hs as Cc X' (Fr.snoc X' N (M.new hi (nemp hl))) ?_ (by rw [e']; exact R.wr hi W')).back st'
  rw [e']; exact M.wr hi (nemp hl) W' (Holds.set A ee O W')
theorem Mo.sto {a y : Addr} {C : String} {vs : List Value} {i : Nat} (hi : ds[i]? = some (ar a (.object C) vs)) (hI : ∀ h, Mo Z a0 h0 ds h → Ins Z h y C true) : ∀ h, Mo Z a0 h0 ds h → Sto Z h a (.ref y) := fun h M => by
  obtain ⟨c, A, -, O⟩ := (M.at hi).arr; exact Sto.of A (O C rfl) (hI h M)
/-! the plain steps -/
theorem go_iloadN {j : Fin 4} {v : Int32} (q : Nat) (hp : pc + 1 = q) (hd : decode B.2.1 pc = .ok (.iload_n j, 1)) (hl : ls[j.val]? = some (.val (.int v))) (H : Go B Z a0 h0 Q k n ds q ls (.int v :: st)) : Go B Z a0 h0 Q k n ds pc ls st := by
  subst hp; exact H.step fun C X _ t hr => XS.iloadN X.here C.1 rfl (hb C.2.2.1 hd) hl hr
theorem go_iload {j : Nat} {v : Int32} (q : Nat) (hp : pc + 2 = q) (hd : decode B.2.1 pc = .ok (.iload j, 2)) (hl : ls[j]? = some (.val (.int v))) (H : Go B Z a0 h0 Q k n ds q ls (.int v :: st)) : Go B Z a0 h0 Q k n ds pc ls st := by
  subst hp; exact H.step fun C X _ t hr => XS.iload X.here C.1 rfl (hb C.2.2.1 hd) hl hr
theorem go_istoreN {j : Fin 4} {x : Int32} {rest : List Value} (l' : Array Slot) (q : Nat) (hp : pc + 1 = q) (hd : decode B.2.1 pc = .ok (.istore_n j, 1)) (hst : st = .int x :: rest) (hl : storeLocals ls j.val (.int x) = some l') (H : Go B Z a0 h0 Q k n ds q l' (rest)) : Go B Z a0 h0 Q k n ds pc ls st := by
  subst hp hst; exact H.step fun C X _ t hr => XS.istoreN X.here C.1 rfl (hb C.2.2.1 hd) rfl hl hr
theorem go_istore {j : Nat} {x : Int32} {rest : List Value} (l' : Array Slot) (q : Nat) (hp : pc + 2 = q) (hd : decode B.2.1 pc = .ok (.istore j, 2)) (hst : st = .int x :: rest) (hl : storeLocals ls j (.int x) = some l') (H : Go B Z a0 h0 Q k n ds q l' (rest)) : Go B Z a0 h0 Q k n ds pc ls st := by
  subst hp hst; exact H.step fun C X _ t hr => XS.istore X.here C.1 rfl (hb C.2.2.1 hd) rfl hl hr
theorem go_lloadN {j : Fin 4} {v : Int64} (q : Nat) (hp : pc + 1 = q) (hd : decode B.2.1 pc = .ok (.lload_n j, 1)) (hl : ls[j.val]? = some (.val (.long v))) (H : Go B Z a0 h0 Q k n ds q ls (.long v :: st)) : Go B Z a0 h0 Q k n ds pc ls st := by
  subst hp; exact H.step fun C X _ t hr => XS.lloadN X.here C.1 rfl (hb C.2.2.1 hd) hl hr
theorem go_lload {j : Nat} {v : Int64} (q : Nat) (hp : pc + 2 = q) (hd : decode B.2.1 pc = .ok (.lload j, 2)) (hl : ls[j]? = some (.val (.long v))) (H : Go B Z a0 h0 Q k n ds q ls (.long v :: st)) : Go B Z a0 h0 Q k n ds pc ls st := by
  subst hp; exact H.step fun C X _ t hr => XS.lload X.here C.1 rfl (hb C.2.2.1 hd) hl hr
theorem go_lstoreN {j : Fin 4} {x : Int64} {rest : List Value} (l' : Array Slot) (q : Nat) (hp : pc + 1 = q) (hd : decode B.2.1 pc = .ok (.lstore_n j, 1)) (hst : st = .long x :: rest) (hl : storeLocals ls j.val (.long x) = some l') (H : Go B Z a0 h0 Q k n ds q l' (rest)) : Go B Z a0 h0 Q k n ds pc ls st := by
  subst hp hst; exact H.step fun C X _ t hr => XS.lstoreN X.here C.1 rfl (hb C.2.2.1 hd) rfl hl hr
theorem go_lstore {j : Nat} {x : Int64} {rest : List Value} (l' : Array Slot) (q : Nat) (hp : pc + 2 = q) (hd : decode B.2.1 pc = .ok (.lstore j, 2)) (hst : st = .long x :: rest) (hl : storeLocals ls j (.long x) = some l') (H : Go B Z a0 h0 Q k n ds q l' (rest)) : Go B Z a0 h0 Q k n ds pc ls st := by
  subst hp hst; exact H.step fun C X _ t hr => XS.lstore X.here C.1 rfl (hb C.2.2.1 hd) rfl hl hr
theorem go_aloadN {j : Fin 4} {v : Value} (q : Nat) (hp : pc + 1 = q) (hd : decode B.2.1 pc = .ok (.aload_n j, 1)) (hl : ls[j.val]? = some (.val v)) (hv : v.isRef = true) (H : Go B Z a0 h0 Q k n ds q ls (v :: st)) : Go B Z a0 h0 Q k n ds pc ls st := by
  subst hp; exact H.step fun C X _ t hr => XS.aloadN X.here C.1 rfl (hb C.2.2.1 hd) hl hv hr
theorem go_aload {j : Nat} {v : Value} (q : Nat) (hp : pc + 2 = q) (hd : decode B.2.1 pc = .ok (.aload j, 2)) (hl : ls[j]? = some (.val v)) (hv : v.isRef = true) (H : Go B Z a0 h0 Q k n ds q ls (v :: st)) : Go B Z a0 h0 Q k n ds pc ls st := by
  subst hp; exact H.step fun C X _ t hr => XS.aload X.here C.1 rfl (hb C.2.2.1 hd) hl hv hr
theorem go_astoreN {j : Fin 4} {x : Value} {rest : List Value} (l' : Array Slot) (q : Nat) (hp : pc + 1 = q) (hd : decode B.2.1 pc = .ok (.astore_n j, 1)) (hst : st = x :: rest) (hv : x.isRef = true) (hl : storeLocals ls j.val x = some l') (H : Go B Z a0 h0 Q k n ds q l' (rest)) : Go B Z a0 h0 Q k n ds pc ls st := by
  subst hp hst; exact H.step fun C X _ t hr => XS.astoreN X.here C.1 rfl (hb C.2.2.1 hd) rfl hv hl hr
theorem go_astore {j : Nat} {x : Value} {rest : List Value} (l' : Array Slot) (q : Nat) (hp : pc + 2 = q) (hd : decode B.2.1 pc = .ok (.astore j, 2)) (hst : st = x :: rest) (hv : x.isRef = true) (hl : storeLocals ls j x = some l') (H : Go B Z a0 h0 Q k n ds q l' (rest)) : Go B Z a0 h0 Q k n ds pc ls st := by
  subst hp hst; exact H.step fun C X _ t hr => XS.astore X.here C.1 rfl (hb C.2.2.1 hd) rfl hv hl hr
theorem go_iconst {i : Int} (v : Int32) (q : Nat) (hp : pc + 1 = q) (hd : decode B.2.1 pc = .ok (.iconst i, 1)) (hv : Int32.ofInt i = v) (H : Go B Z a0 h0 Q k n ds q ls (.int v :: st)) : Go B Z a0 h0 Q k n ds pc ls st := by
  subst hp hv; exact H.step fun C X _ t hr => XS.iconst X.here C.1 rfl (hb C.2.2.1 hd) hr
theorem go_bipush {i : Int} (v : Int32) (q : Nat) (hp : pc + 2 = q) (hd : decode B.2.1 pc = .ok (.bipush i, 2)) (hv : (Int8.ofInt i).toInt32 = v) (H : Go B Z a0 h0 Q k n ds q ls (.int v :: st)) : Go B Z a0 h0 Q k n ds pc ls st := by
  subst hp hv; exact H.step fun C X _ t hr => XS.bipush X.here C.1 rfl (hb C.2.2.1 hd) hr
theorem go_sipush {i : Int} (v : Int32) (q : Nat) (hp : pc + 3 = q) (hd : decode B.2.1 pc = .ok (.sipush i, 3)) (hv : (Int16.ofInt i).toInt32 = v) (H : Go B Z a0 h0 Q k n ds q ls (.int v :: st)) : Go B Z a0 h0 Q k n ds pc ls st := by
  subst hp hv; exact H.step fun C X _ t hr => XS.sipush X.here C.1 rfl (hb C.2.2.1 hd) hr
theorem go_lconst {i : Fin 2} (v : Int64) (q : Nat) (hp : pc + 1 = q) (hd : decode B.2.1 pc = .ok (.lconst i, 1)) (hv : Int64.ofNat i.val = v) (H : Go B Z a0 h0 Q k n ds q ls (.long v :: st)) : Go B Z a0 h0 Q k n ds pc ls st := by
  subst hp hv; exact H.step fun C X _ t hr => XS.lconst X.here C.1 rfl (hb C.2.2.1 hd) hr
theorem go_aconstNull  (q : Nat) (hp : pc + 1 = q) (hd : decode B.2.1 pc = .ok (.aconst_null, 1)) (H : Go B Z a0 h0 Q k n ds q ls (.null :: st)) : Go B Z a0 h0 Q k n ds pc ls st := by
  subst hp; exact H.step fun C X _ t hr => XS.aconstNull X.here C.1 rfl (hb C.2.2.1 hd)  hr
theorem go_iadd {x y : Int32} {rest : List Value} (q : Nat) (hp : pc + 1 = q) (hd : decode B.2.1 pc = .ok (.iadd, 1)) (hst : st = .int y :: .int x :: rest) (H : Go B Z a0 h0 Q k n ds q ls (.int (x + y) :: rest)) : Go B Z a0 h0 Q k n ds pc ls st := by
  subst hp hst; exact H.step fun C X _ t hr => XS.iadd X.here C.1 rfl (hb C.2.2.1 hd) rfl hr
theorem go_isub {x y : Int32} {rest : List Value} (q : Nat) (hp : pc + 1 = q) (hd : decode B.2.1 pc = .ok (.isub, 1)) (hst : st = .int y :: .int x :: rest) (H : Go B Z a0 h0 Q k n ds q ls (.int (x - y) :: rest)) : Go B Z a0 h0 Q k n ds pc ls st := by
  subst hp hst; exact H.step fun C X _ t hr => XS.isub X.here C.1 rfl (hb C.2.2.1 hd) rfl hr
theorem go_imul {x y : Int32} {rest : List Value} (q : Nat) (hp : pc + 1 = q) (hd : decode B.2.1 pc = .ok (.imul, 1)) (hst : st = .int y :: .int x :: rest) (H : Go B Z a0 h0 Q k n ds q ls (.int (x * y) :: rest)) : Go B Z a0 h0 Q k n ds pc ls st := by
  subst hp hst; exact H.step fun C X _ t hr => XS.imul X.here C.1 rfl (hb C.2.2.1 hd) rfl hr
theorem go_iand {x y : Int32} {rest : List Value} (q : Nat) (hp : pc + 1 = q) (hd : decode B.2.1 pc = .ok (.iand, 1)) (hst : st = .int y :: .int x :: rest) (H : Go B Z a0 h0 Q k n ds q ls (.int (x &&& y) :: rest)) : Go B Z a0 h0 Q k n ds pc ls st := by
  subst hp hst; exact H.step fun C X _ t hr => XS.iand X.here C.1 rfl (hb C.2.2.1 hd) rfl hr
theorem go_ior {x y : Int32} {rest : List Value} (q : Nat) (hp : pc + 1 = q) (hd : decode B.2.1 pc = .ok (.ior, 1)) (hst : st = .int y :: .int x :: rest) (H : Go B Z a0 h0 Q k n ds q ls (.int (x ||| y) :: rest)) : Go B Z a0 h0 Q k n ds pc ls st := by
  subst hp hst; exact H.step fun C X _ t hr => XS.ior X.here C.1 rfl (hb C.2.2.1 hd) rfl hr
theorem go_ixor {x y : Int32} {rest : List Value} (q : Nat) (hp : pc + 1 = q) (hd : decode B.2.1 pc = .ok (.ixor, 1)) (hst : st = .int y :: .int x :: rest) (H : Go B Z a0 h0 Q k n ds q ls (.int (x ^^^ y) :: rest)) : Go B Z a0 h0 Q k n ds pc ls st := by
  subst hp hst; exact H.step fun C X _ t hr => XS.ixor X.here C.1 rfl (hb C.2.2.1 hd) rfl hr
theorem go_ishl {x y : Int32} {rest : List Value} (q : Nat) (hp : pc + 1 = q) (hd : decode B.2.1 pc = .ok (.ishl, 1)) (hst : st = .int y :: .int x :: rest) (H : Go B Z a0 h0 Q k n ds q ls (.int (x <<< (y &&& 31)) :: rest)) : Go B Z a0 h0 Q k n ds pc ls st := by
  subst hp hst; exact H.step fun C X _ t hr => XS.ishl X.here C.1 rfl (hb C.2.2.1 hd) rfl hr
theorem go_ishr {x y : Int32} {rest : List Value} (q : Nat) (hp : pc + 1 = q) (hd : decode B.2.1 pc = .ok (.ishr, 1)) (hst : st = .int y :: .int x :: rest) (H : Go B Z a0 h0 Q k n ds q ls (.int (x >>> (y &&& 31)) :: rest)) : Go B Z a0 h0 Q k n ds pc ls st := by
  subst hp hst; exact H.step fun C X _ t hr => XS.ishr X.here C.1 rfl (hb C.2.2.1 hd) rfl hr
theorem go_iushr {x y : Int32} {rest : List Value} (q : Nat) (hp : pc + 1 = q) (hd : decode B.2.1 pc = .ok (.iushr, 1)) (hst : st = .int y :: .int x :: rest) (H : Go B Z a0 h0 Q k n ds q ls (.int ((x.toUInt32 >>> (y &&& 31).toUInt32).toInt32) :: rest)) : Go B Z a0 h0 Q k n ds pc ls st := by
  subst hp hst; exact H.step fun C X _ t hr => XS.iushr X.here C.1 rfl (hb C.2.2.1 hd) rfl hr
theorem go_ladd {x y : Int64} {rest : List Value} (q : Nat) (hp : pc + 1 = q) (hd : decode B.2.1 pc = .ok (.ladd, 1)) (hst : st = .long y :: .long x :: rest) (H : Go B Z a0 h0 Q k n ds q ls (.long (x + y) :: rest)) : Go B Z a0 h0 Q k n ds pc ls st := by
  subst hp hst; exact H.step fun C X _ t hr => XS.ladd X.here C.1 rfl (hb C.2.2.1 hd) rfl hr
theorem go_lsub {x y : Int64} {rest : List Value} (q : Nat) (hp : pc + 1 = q) (hd : decode B.2.1 pc = .ok (.lsub, 1)) (hst : st = .long y :: .long x :: rest) (H : Go B Z a0 h0 Q k n ds q ls (.long (x - y) :: rest)) : Go B Z a0 h0 Q k n ds pc ls st := by
  subst hp hst; exact H.step fun C X _ t hr => XS.lsub X.here C.1 rfl (hb C.2.2.1 hd) rfl hr
theorem go_lmul {x y : Int64} {rest : List Value} (q : Nat) (hp : pc + 1 = q) (hd : decode B.2.1 pc = .ok (.lmul, 1)) (hst : st = .long y :: .long x :: rest) (H : Go B Z a0 h0 Q k n ds q ls (.long (x * y) :: rest)) : Go B Z a0 h0 Q k n ds pc ls st := by
  subst hp hst; exact H.step fun C X _ t hr => XS.lmul X.here C.1 rfl (hb C.2.2.1 hd) rfl hr
theorem go_land {x y : Int64} {rest : List Value} (q : Nat) (hp : pc + 1 = q) (hd : decode B.2.1 pc = .ok (.land, 1)) (hst : st = .long y :: .long x :: rest) (H : Go B Z a0 h0 Q k n ds q ls (.long (x &&& y) :: rest)) : Go B Z a0 h0 Q k n ds pc ls st := by
  subst hp hst; exact H.step fun C X _ t hr => XS.land X.here C.1 rfl (hb C.2.2.1 hd) rfl hr
theorem go_lor {x y : Int64} {rest : List Value} (q : Nat) (hp : pc + 1 = q) (hd : decode B.2.1 pc = .ok (.lor, 1)) (hst : st = .long y :: .long x :: rest) (H : Go B Z a0 h0 Q k n ds q ls (.long (x ||| y) :: rest)) : Go B Z a0 h0 Q k n ds pc ls st := by
  subst hp hst; exact H.step fun C X _ t hr => XS.lor X.here C.1 rfl (hb C.2.2.1 hd) rfl hr
theorem go_lxor {x y : Int64} {rest : List Value} (q : Nat) (hp : pc + 1 = q) (hd : decode B.2.1 pc = .ok (.lxor, 1)) (hst : st = .long y :: .long x :: rest) (H : Go B Z a0 h0 Q k n ds q ls (.long (x ^^^ y) :: rest)) : Go B Z a0 h0 Q k n ds pc ls st := by
  subst hp hst; exact H.step fun C X _ t hr => XS.lxor X.here C.1 rfl (hb C.2.2.1 hd) rfl hr
theorem go_lshl {x : Int64} {y : Int32} {rest : List Value} (q : Nat) (hp : pc + 1 = q) (hd : decode B.2.1 pc = .ok (.lshl, 1)) (hst : st = .int y :: .long x :: rest) (H : Go B Z a0 h0 Q k n ds q ls (.long (x <<< (y &&& 0x3f).toInt64) :: rest)) : Go B Z a0 h0 Q k n ds pc ls st := by
  subst hp hst; exact H.step fun C X _ t hr => XS.lshl X.here C.1 rfl (hb C.2.2.1 hd) rfl hr
theorem go_lshr {x : Int64} {y : Int32} {rest : List Value} (q : Nat) (hp : pc + 1 = q) (hd : decode B.2.1 pc = .ok (.lshr, 1)) (hst : st = .int y :: .long x :: rest) (H : Go B Z a0 h0 Q k n ds q ls (.long (x >>> (y &&& 0x3f).toInt64) :: rest)) : Go B Z a0 h0 Q k n ds pc ls st := by
  subst hp hst; exact H.step fun C X _ t hr => XS.lshr X.here C.1 rfl (hb C.2.2.1 hd) rfl hr
theorem go_lushr {x : Int64} {y : Int32} {rest : List Value} (q : Nat) (hp : pc + 1 = q) (hd : decode B.2.1 pc = .ok (.lushr, 1)) (hst : st = .int y :: .long x :: rest) (H : Go B Z a0 h0 Q k n ds q ls (.long ((x.toUInt64 >>> (y &&& 0x3f).toInt64.toUInt64).toInt64) :: rest)) : Go B Z a0 h0 Q k n ds pc ls st := by
  subst hp hst; exact H.step fun C X _ t hr => XS.lushr X.here C.1 rfl (hb C.2.2.1 hd) rfl hr
theorem go_idiv {x y : Int32} {rest : List Value} (q : Nat) (hp : pc + 1 = q) (hd : decode B.2.1 pc = .ok (.idiv, 1)) (hst : st = .int y :: .int x :: rest) (hy : y ≠ 0) (H : Go B Z a0 h0 Q k n ds q ls (.int (x / y) :: rest)) : Go B Z a0 h0 Q k n ds pc ls st := by
  subst hp hst; exact H.step fun C X _ t hr => XS.idiv X.here C.1 rfl (hb C.2.2.1 hd) rfl hy hr
theorem go_ldiv {x y : Int64} {rest : List Value} (q : Nat) (hp : pc + 1 = q) (hd : decode B.2.1 pc = .ok (.ldiv, 1)) (hst : st = .long y :: .long x :: rest) (hy : y ≠ 0) (H : Go B Z a0 h0 Q k n ds q ls (.long (x / y) :: rest)) : Go B Z a0 h0 Q k n ds pc ls st := by
  subst hp hst; exact H.step fun C X _ t hr => XS.ldiv X.here C.1 rfl (hb C.2.2.1 hd) rfl hy hr
theorem go_irem {x y : Int32} {rest : List Value} (q : Nat) (hp : pc + 1 = q) (hd : decode B.2.1 pc = .ok (.irem, 1)) (hst : st = .int y :: .int x :: rest) (hy : y ≠ 0) (H : Go B Z a0 h0 Q k n ds q ls (.int (x % y) :: rest)) : Go B Z a0 h0 Q k n ds pc ls st := by
  subst hp hst; exact H.step fun C X _ t hr => iremM X C.1 rfl (hb C.2.2.1 hd) rfl hy hr
theorem go_lrem {x y : Int64} {rest : List Value} (q : Nat) (hp : pc + 1 = q) (hd : decode B.2.1 pc = .ok (.lrem, 1)) (hst : st = .long y :: .long x :: rest) (hy : y ≠ 0) (H : Go B Z a0 h0 Q k n ds q ls (.long (x % y) :: rest)) : Go B Z a0 h0 Q k n ds pc ls st := by
  subst hp hst; exact H.step fun C X _ t hr => XS.lrem X.here C.1 rfl (hb C.2.2.1 hd) rfl hy (by rw [lrem_mod]; exact hr)
theorem go_ineg {x : Int32} {rest : List Value} (q : Nat) (hp : pc + 1 = q) (hd : decode B.2.1 pc = .ok (.ineg, 1)) (hst : st = .int x :: rest) (H : Go B Z a0 h0 Q k n ds q ls (.int (-x) :: rest)) : Go B Z a0 h0 Q k n ds pc ls st := by
  subst hp hst; exact H.step fun C X _ t hr => XS.ineg X.here C.1 rfl (hb C.2.2.1 hd) rfl hr
theorem go_lneg {x : Int64} {rest : List Value} (q : Nat) (hp : pc + 1 = q) (hd : decode B.2.1 pc = .ok (.lneg, 1)) (hst : st = .long x :: rest) (H : Go B Z a0 h0 Q k n ds q ls (.long (-x) :: rest)) : Go B Z a0 h0 Q k n ds pc ls st := by
  subst hp hst; exact H.step fun C X _ t hr => XS.lneg X.here C.1 rfl (hb C.2.2.1 hd) rfl hr
theorem go_i2l {x : Int32} {rest : List Value} (q : Nat) (hp : pc + 1 = q) (hd : decode B.2.1 pc = .ok (.i2l, 1)) (hst : st = .int x :: rest) (H : Go B Z a0 h0 Q k n ds q ls (.long x.toInt64 :: rest)) : Go B Z a0 h0 Q k n ds pc ls st := by
  subst hp hst; exact H.step fun C X _ t hr => XS.i2l X.here C.1 rfl (hb C.2.2.1 hd) rfl hr
theorem go_l2i {x : Int64} {rest : List Value} (q : Nat) (hp : pc + 1 = q) (hd : decode B.2.1 pc = .ok (.l2i, 1)) (hst : st = .long x :: rest) (H : Go B Z a0 h0 Q k n ds q ls (.int x.toInt32 :: rest)) : Go B Z a0 h0 Q k n ds pc ls st := by
  subst hp hst; exact H.step fun C X _ t hr => XS.l2i X.here C.1 rfl (hb C.2.2.1 hd) rfl hr
theorem go_i2b {x : Int32} {rest : List Value} (q : Nat) (hp : pc + 1 = q) (hd : decode B.2.1 pc = .ok (.i2b, 1)) (hst : st = .int x :: rest) (H : Go B Z a0 h0 Q k n ds q ls (.int x.toInt8.toInt32 :: rest)) : Go B Z a0 h0 Q k n ds pc ls st := by
  subst hp hst; exact H.step fun C X _ t hr => XS.i2b X.here C.1 rfl (hb C.2.2.1 hd) rfl hr
theorem go_i2c {x : Int32} {rest : List Value} (q : Nat) (hp : pc + 1 = q) (hd : decode B.2.1 pc = .ok (.i2c, 1)) (hst : st = .int x :: rest) (H : Go B Z a0 h0 Q k n ds q ls (.int x.toUInt32.toUInt16.toUInt32.toInt32 :: rest)) : Go B Z a0 h0 Q k n ds pc ls st := by
  subst hp hst; exact H.step fun C X _ t hr => XS.i2c X.here C.1 rfl (hb C.2.2.1 hd) rfl hr
theorem go_i2s {x : Int32} {rest : List Value} (q : Nat) (hp : pc + 1 = q) (hd : decode B.2.1 pc = .ok (.i2s, 1)) (hst : st = .int x :: rest) (H : Go B Z a0 h0 Q k n ds q ls (.int x.toInt16.toInt32 :: rest)) : Go B Z a0 h0 Q k n ds pc ls st := by
  subst hp hst; exact H.step fun C X _ t hr => XS.i2s X.here C.1 rfl (hb C.2.2.1 hd) rfl hr
theorem go_lcmp {x y : Int64} {rest : List Value} (q : Nat) (hp : pc + 1 = q) (hd : decode B.2.1 pc = .ok (.lcmp, 1)) (hst : st = .long y :: .long x :: rest) (H : Go B Z a0 h0 Q k n ds q ls (.int (lcmpW x y) :: rest)) : Go B Z a0 h0 Q k n ds pc ls st := by
  subst hp hst; exact H.step fun C X _ t hr => XS.lcmp X.here C.1 rfl (hb C.2.2.1 hd) rfl hr
theorem go_iinc {j : Nat} {cst : Int} {x : Int32} (l' : Array Slot) (q : Nat) (hp : pc + 3 = q) (hd : decode B.2.1 pc = .ok (.iinc j cst, 3)) (hl : ls[j]? = some (.val (.int x))) (hl' : storeLocals ls j (.int (x + Int32.ofInt cst)) = some l') (H : Go B Z a0 h0 Q k n ds q l' (st)) : Go B Z a0 h0 Q k n ds pc ls st := by
  subst hp; exact H.step fun C X _ t hr => XS.iinc X.here C.1 rfl (hb C.2.2.1 hd) hl hl' hr
theorem go_dup {x : Value} {rest : List Value} (q : Nat) (hp : pc + 1 = q) (hd : decode B.2.1 pc = .ok (.dup, 1)) (hst : st = x :: rest) (hc : x.category = 1) (H : Go B Z a0 h0 Q k n ds q ls (x :: x :: rest)) : Go B Z a0 h0 Q k n ds pc ls st := by
  subst hp hst; exact H.step fun C X _ t hr => XS.dup X.here C.1 rfl (hb C.2.2.1 hd) rfl hc hr
theorem go_pop {x : Value} {rest : List Value} (q : Nat) (hp : pc + 1 = q) (hd : decode B.2.1 pc = .ok (.pop, 1)) (hst : st = x :: rest) (hc : x.category = 1) (H : Go B Z a0 h0 Q k n ds q ls (rest)) : Go B Z a0 h0 Q k n ds pc ls st := by
  subst hp hst; exact H.step fun C X _ t hr => XS.pop X.here C.1 rfl (hb C.2.2.1 hd) rfl hc hr
theorem go_dupX1 {x y : Value} {rest : List Value} (q : Nat) (hp : pc + 1 = q) (hd : decode B.2.1 pc = .ok (.dup_x1, 1)) (hst : st = x :: y :: rest) (hc : x.category = 1) (hc' : y.category = 1) (H : Go B Z a0 h0 Q k n ds q ls (x :: y :: x :: rest)) : Go B Z a0 h0 Q k n ds pc ls st := by
  subst hp hst; exact H.step fun C X _ t hr => XS.dupX1 X.here C.1 rfl (hb C.2.2.1 hd) rfl hc hc' hr
theorem go_swap {x y : Value} {rest : List Value} (q : Nat) (hp : pc + 1 = q) (hd : decode B.2.1 pc = .ok (.swap, 1)) (hst : st = x :: y :: rest) (hc : x.category = 1) (hc' : y.category = 1) (H : Go B Z a0 h0 Q k n ds q ls (y :: x :: rest)) : Go B Z a0 h0 Q k n ds pc ls st := by
  subst hp hst; exact H.step fun C X _ t hr => XS.swap X.here C.1 rfl (hb C.2.2.1 hd) rfl hc hc' hr
theorem go_dup2 {x y : Value} {rest : List Value} (q : Nat) (hp : pc + 1 = q) (hd : decode B.2.1 pc = .ok (.dup2, 1)) (hst : st = x :: y :: rest) (hc : x.category = 1) (hc' : y.category = 1) (H : Go B Z a0 h0 Q k n ds q ls (x :: y :: x :: y :: rest)) : Go B Z a0 h0 Q k n ds pc ls st := by
  subst hp hst; exact H.step fun C X _ t hr => XT.dup2 X.here C.1 rfl (hb C.2.2.1 hd) rfl hc hc' hr
theorem go_dup2L {x : Int64} {rest : List Value} (q : Nat) (hp : pc + 1 = q) (hd : decode B.2.1 pc = .ok (.dup2, 1)) (hst : st = .long x :: rest) (H : Go B Z a0 h0 Q k n ds q ls (.long x :: .long x :: rest)) : Go B Z a0 h0 Q k n ds pc ls st := by
  subst hp hst; exact H.step fun C X _ t hr => XT.dup2L X.here C.1 rfl (hb C.2.2.1 hd) rfl hr
/-! calls: the callee's Met pays -/
theorem go_initObj {a : Addr} {idx : Nat} {rest : List Value} (q : Nat) (hp : pc + 3 = q) (hd : decode B.2.1 pc = .ok (.invokespecial idx, 3)) (hst : st = .ref a :: rest) (w1 : (Jvm.Cond.methodLink B.1.cls idx Lib.objectInit).before a0 Z = true) (w2 : (Jvm.Cond.instanceMethod Lib.objectInit).before a0 Z = true) (w3 : (Jvm.Cond.code Lib.objectInit ⟨#[0xb1]⟩ 1 none).before a0 Z = true)
    (hsz : ls.size = B.2.2.1) (hf : 1 ≤ B.2.2.2.2.frames) (hl : (rest.map fun v => v.category).sum + 12 ≤ B.2.2.2.2.locals) (H : Go B Z a0 h0 Q k n ds q ls rest) : Go B Z a0 h0 Q k n ds pc ls st := by
  subst hp hst
  intro p l e s m args below meth c T locs hs as Cc X N M R
  obtain ⟨T', X', e', st'⟩ := initO X Cc.1 Cc.2.1 Cc.2.2.2.2.1 w1 w2 w3 rfl (g := mkF m pc ls (.ref a :: rest)) rfl (hsz.trans Cc.2.2.2.1.symm) rfl (hb Cc.2.2.1 hd) hf (W := (rest.map fun v => v.category).sum) (by show 2 * 0 + _ ≤ _; omega) hl
  exact (H p l e s m args below meth c T' locs hs as Cc X' N (by rw [e']; exact M) (by rw [e']; exact R)).back st'
variable {y z : MethodName} {bytes : ByteArray} {maxL : Nat} {ret : Option FieldType} {rm : Room} {idx : Nat} {argsL rest : List Value} {ps : List FieldType} {Q' : Option Value → Mem → Prop}
theorem go_callS (q : Nat) (hp : pc + 3 = q) (hd : decode B.2.1 pc = .ok (.invokestatic idx, 3)) (w1 : (Jvm.Cond.methodLink B.1.cls idx y).before a0 Z = true) (w2 : (Jvm.Cond.static y).before a0 Z = true) (w3 : (Jvm.Cond.initialized y.cls).before a0 Z = true) (w4 : (Jvm.Cond.code y bytes maxL ret).before a0 Z = true)
    (hy : y.cls ≠ "java/lang/invoke/MethodHandle" ∧ y.cls ≠ "java/lang/invoke/VarHandle") (hM : Met (y, bytes, maxL, ret, rm) Z a0 h0 argsL.toArray ds Q') (hst : st = argsL.reverse ++ rest) (hpd : parseMethodDescriptor y.desc = some ⟨ps, ret⟩) (hlen : argsL.length = ps.length)
    (hsz : ls.size = B.2.2.1) (W : Nat) (hW : (rest.map fun v => v.category).sum = W) (hf : rm.frames + 1 ≤ B.2.2.2.2.frames) (hl : W + (maxL + 11) + rm.locals ≤ B.2.2.2.2.locals) (hk : k + rm.cells ≤ B.2.2.2.2.cells) (hn : n + rm.slots ≤ B.2.2.2.2.slots)
    (H : ∀ v ds', Q' v ds' → Go B Z a0 h0 Q (k + rm.cells) (n + rm.slots) ds' q ls (v.toList ++ rest)) : Go B Z a0 h0 Q k n ds pc ls st := by
  subst hp hst
  intro p l e s m args below meth c T locs hs as Cc X N M R
  have hZ := Cc.2.1
  obtain ⟨v, _, ⟨T', L', k', n'⟩, -, X', ⟨Lc, hQ, l1, y1, z1⟩, st'⟩ := Jvm.LawKit.callS X Cc.1 (y := y) Cc.2.2.2.2.1 (mvT hZ w1) (mvT hZ w2) (mvT hZ w3) (mvT hZ w4) hy (backOf (W := W) (hM l [] T.heap M) hZ w4 w3 hf hl) (g := mkF m pc ls (argsL.reverse ++ rest)) rfl (hsz.trans Cc.2.2.2.1.symm) (argsL := argsL) (rest := rest) (lenOf hpd hlen) rfl (by show 2 * 0 + _ ≤ _; omega) (hb Cc.2.2.1 hd) (fun _ _ => ⟨rfl, rfl, hk, hn⟩)
  dsimp only [Pt.U, Pt.locs, Pt.cells, Pt.slots] at X' l1 y1 z1 st' hQ
  subst l1 y1 z1
  obtain ⟨N', ds', M', R', hq⟩ := hQ
  exact (H v ds' hq p l e s m args below meth c T' _ hs as Cc X' (Fr.app N N') M' (R.call R')).back st'
theorem go_callI {a : Addr} (q : Nat) (hp : pc + 3 = q) (hd : decode B.2.1 pc = .ok (.invokespecial idx, 3)) (hin : y.name = "<init>") (w1 : (Jvm.Cond.methodLink B.1.cls idx y).before a0 Z = true) (w2 : (Jvm.Cond.instanceMethod y).before a0 Z = true) (w3 : (Jvm.Cond.initialized y.cls).before a0 Z = true) (w4 : (Jvm.Cond.code y bytes maxL none).before a0 Z = true)
    (hy : y.cls ≠ "java/lang/invoke/MethodHandle" ∧ y.cls ≠ "java/lang/invoke/VarHandle") (hM : Met (y, bytes, maxL, none, rm) Z a0 h0 (.ref a :: argsL).toArray ds Q') (hst : st = argsL.reverse ++ .ref a :: rest) (hpd : parseMethodDescriptor y.desc = some ⟨ps, ret⟩) (hlen : argsL.length = ps.length)
    (hsz : ls.size = B.2.2.1) (W : Nat) (hW : (rest.map fun v => v.category).sum = W) (hf : rm.frames + 1 ≤ B.2.2.2.2.frames) (hl : W + (maxL + 11) + rm.locals ≤ B.2.2.2.2.locals) (hk : k + rm.cells ≤ B.2.2.2.2.cells) (hn : n + rm.slots ≤ B.2.2.2.2.slots)
    (H : ∀ v ds', Q' v ds' → Go B Z a0 h0 Q (k + rm.cells) (n + rm.slots) ds' q ls (v.toList ++ rest)) : Go B Z a0 h0 Q k n ds pc ls st := by
  subst hp hst
  intro p l e s m args below meth c T locs hs as Cc X N M R
  have hZ := Cc.2.1
  obtain ⟨v, _, ⟨T', L', k', n'⟩, -, X', ⟨Lc, hQ, l1, y1, z1⟩, st'⟩ := X.specialBack Cc.1 (y := y) hin Cc.2.2.2.2.1 (mvT hZ w1) (mvT hZ w2) (mvT hZ w4) hy (backOf (W := W) (hM l [] T.heap M) hZ w4 w3 hf hl) (g := mkF m pc ls (argsL.reverse ++ .ref a :: rest)) rfl (hsz.trans Cc.2.2.2.1.symm) (Steps.refl _) (a := a) (argsL := argsL) (rest := rest) (lenOf hpd hlen) rfl (by show 2 * 0 + _ ≤ _; omega) (hb Cc.2.2.1 hd) (fun _ _ => ⟨rfl, rfl, hk, hn⟩)
  dsimp only [Pt.U, Pt.locs, Pt.cells, Pt.slots] at X' l1 y1 z1 st' hQ
  subst l1 y1 z1
  obtain ⟨N', ds', M', R', hq⟩ := hQ
  exact (H v ds' hq p l e s m args below meth c T' _ hs as Cc X' (Fr.app N N') M' (R.call R')).back fun t hr => st'.trans hr
theorem go_callIR {a : Addr} (q : Nat) (hp : pc + 3 = q) (hd : decode B.2.1 pc = .ok (.invokespecial idx, 3)) (hin : y.name = "<init>") (w1 : (Jvm.Cond.methodRef B.1.cls idx y).before a0 Z = true) (w2 : (Jvm.Cond.instanceMethod y).before a0 Z = true) (w3 : (Jvm.Cond.initialized y.cls).before a0 Z = true) (w4 : (Jvm.Cond.code y bytes maxL none).before a0 Z = true)
    (hy : y.cls ≠ "java/lang/invoke/MethodHandle" ∧ y.cls ≠ "java/lang/invoke/VarHandle") (hM : Met (y, bytes, maxL, none, rm) Z a0 h0 (.ref a :: argsL).toArray ds Q') (hst : st = argsL.reverse ++ .ref a :: rest) (hpd : parseMethodDescriptor y.desc = some ⟨ps, ret⟩) (hlen : argsL.length = ps.length)
    (hsz : ls.size = B.2.2.1) (W : Nat) (hW : (rest.map fun v => v.category).sum = W) (hf : rm.frames + 1 ≤ B.2.2.2.2.frames) (hl : W + (maxL + 11) + rm.locals ≤ B.2.2.2.2.locals) (hk : k + rm.cells ≤ B.2.2.2.2.cells) (hn : n + rm.slots ≤ B.2.2.2.2.slots)
    (H : ∀ v ds', Q' v ds' → Go B Z a0 h0 Q (k + rm.cells) (n + rm.slots) ds' q ls (v.toList ++ rest)) : Go B Z a0 h0 Q k n ds pc ls st := by
  subst hp hst
  intro p l e s m args below meth c T locs hs as Cc X N M R
  have hZ := Cc.2.1
  obtain ⟨v, _, ⟨T', L', k', n'⟩, -, X', ⟨Lc, hQ, l1, y1, z1⟩, st'⟩ := specialBackR X Cc.1 (y := y) hin Cc.2.2.2.2.1 (mvR hZ hy w2 w1) (mvT hZ w2) (mvT hZ w4) hy (backOf (W := W) (hM l [] T.heap M) hZ w4 w3 hf hl) (g := mkF m pc ls (argsL.reverse ++ .ref a :: rest)) rfl (hsz.trans Cc.2.2.2.1.symm) (Steps.refl _) (a := a) (argsL := argsL) (rest := rest) (lenOf hpd hlen) rfl (by show 2 * 0 + _ ≤ _; omega) (hb Cc.2.2.1 hd) (fun _ _ => ⟨rfl, rfl, hk, hn⟩)
  dsimp only [Pt.U, Pt.locs, Pt.cells, Pt.slots] at X' l1 y1 z1 st' hQ
  subst l1 y1 z1
  obtain ⟨N', ds', M', R', hq⟩ := hQ
  exact (H v ds' hq p l e s m args below meth c T' _ hs as Cc X' (Fr.app N N') M' (R.call R')).back fun t hr => st'.trans hr
theorem go_callVz {a : Addr} {C : String} (q : Nat) (hp : pc + 3 = q) (hd : decode B.2.1 pc = .ok (.invokevirtual idx, 3)) (w1 : (Jvm.Cond.methodLink B.1.cls idx y).before a0 Z = true) (w2 : (Jvm.Cond.declares y).before a0 Z = true) (w3 : (Jvm.Cond.selects C y z).before a0 Z = true) (w4 : (Jvm.Cond.instanceMethod z).before a0 Z = true) (w5 : (Jvm.Cond.initialized z.cls).before a0 Z = true) (w6 : (Jvm.Cond.code z bytes maxL ret).before a0 Z = true)
    (hnf : ∀ s : State, Z.Warmed39 s.vm → NotFace s y) (hy : y.cls ≠ "java/lang/invoke/MethodHandle" ∧ y.cls ≠ "java/lang/invoke/VarHandle") (hE : ∀ h, Mo Z a0 h0 ds h → Exa Z h a C) (hM : Met (z, bytes, maxL, ret, rm) Z a0 h0 (.ref a :: argsL).toArray ds Q') (hst : st = argsL.reverse ++ .ref a :: rest) (hpd : parseMethodDescriptor y.desc = some ⟨ps, ret⟩) (hlen : argsL.length = ps.length)
    (hsz : ls.size = B.2.2.1) (W : Nat) (hW : (rest.map fun v => v.category).sum = W) (hf : rm.frames + 1 ≤ B.2.2.2.2.frames) (hl : W + (maxL + 11) + rm.locals ≤ B.2.2.2.2.locals) (hk : k + rm.cells ≤ B.2.2.2.2.cells) (hn : n + rm.slots ≤ B.2.2.2.2.slots)
    (H : ∀ v ds', Q' v ds' → Go B Z a0 h0 Q (k + rm.cells) (n + rm.slots) ds' q ls (v.toList ++ rest)) : Go B Z a0 h0 Q k n ds pc ls st := by
  subst hp hst
  intro p l e s m args below meth c T locs hs as Cc X N M R
  have hZ := Cc.2.1
  obtain ⟨cq, kq, qa, qb, qc⟩ := isOf hZ rfl (hE _ M)
  obtain ⟨v, _, ⟨T', L', k', n'⟩, -, X', ⟨Lc, hQ, l1, y1, z1⟩, st'⟩ := X.virtualBack Cc.1 (y := y) (z := z) Cc.2.2.2.2.1 (mvT hZ w1) (mvT hZ w2) (hnf _ hZ) (mvT hZ w3) (mvT hZ w4) hy (backOf (W := W) (hM l [] T.heap M) hZ w6 w5 hf hl) qa qc (g := mkF m pc ls (argsL.reverse ++ .ref a :: rest)) rfl (hsz.trans Cc.2.2.2.1.symm) (Steps.refl _) (argsL := argsL) (rest := rest) (lenOf hpd hlen) rfl (by show 2 * 0 + _ ≤ _; omega) (hb Cc.2.2.1 hd) (fun _ _ => ⟨rfl, rfl, hk, hn⟩)
  dsimp only [Pt.U, Pt.locs, Pt.cells, Pt.slots] at X' l1 y1 z1 st' hQ
  subst l1 y1 z1
  obtain ⟨N', ds', M', R', hq⟩ := hQ
  exact (H v ds' hq p l e s m args below meth c T' _ hs as Cc X' (Fr.app N N') M' (R.call R')).back fun t hr => st'.trans hr
theorem go_callV {a : Addr} {C : String} (q : Nat) (hp : pc + 3 = q) (hd : decode B.2.1 pc = .ok (.invokevirtual idx, 3)) (w1 : (Jvm.Cond.methodLink B.1.cls idx y).before a0 Z = true) (w2 : (Jvm.Cond.declares y).before a0 Z = true) (w3 : (Jvm.Cond.selects C y y).before a0 Z = true) (w4 : (Jvm.Cond.instanceMethod y).before a0 Z = true) (w5 : (Jvm.Cond.initialized y.cls).before a0 Z = true) (w6 : (Jvm.Cond.code y bytes maxL ret).before a0 Z = true)
    (hy : y.cls ≠ "java/lang/invoke/MethodHandle" ∧ y.cls ≠ "java/lang/invoke/VarHandle") (hE : ∀ h, Mo Z a0 h0 ds h → Exa Z h a C) (hM : Met (y, bytes, maxL, ret, rm) Z a0 h0 (.ref a :: argsL).toArray ds Q') (hst : st = argsL.reverse ++ .ref a :: rest) (hpd : parseMethodDescriptor y.desc = some ⟨ps, ret⟩) (hlen : argsL.length = ps.length)
    (hsz : ls.size = B.2.2.1) (W : Nat) (hW : (rest.map fun v => v.category).sum = W) (hf : rm.frames + 1 ≤ B.2.2.2.2.frames) (hl : W + (maxL + 11) + rm.locals ≤ B.2.2.2.2.locals) (hk : k + rm.cells ≤ B.2.2.2.2.cells) (hn : n + rm.slots ≤ B.2.2.2.2.slots)
    (H : ∀ v ds', Q' v ds' → Go B Z a0 h0 Q (k + rm.cells) (n + rm.slots) ds' q ls (v.toList ++ rest)) : Go B Z a0 h0 Q k n ds pc ls st :=
  go_callVz q hp hd w1 w2 w3 w4 w5 w6 (fun s hZ => notFace_of_selects (args := #[]) (mvT hZ w3)) hy hE hM hst hpd hlen hsz W hW hf hl hk hn H
theorem go_callVU {a : Addr} {C owner : String} (q : Nat) (hp : pc + 3 = q) (hd : decode B.2.1 pc = .ok (.invokevirtual idx, 3)) (w1 : (Jvm.Cond.methodLink B.1.cls idx y).before a0 Z = true) (w0 : (Jvm.Cond.sameMethod y.cls owner y.name y.desc).before a0 Z = true) (w2 : (Jvm.Cond.declares ⟨owner, y.name, y.desc⟩).before a0 Z = true) (w3 : (Jvm.Cond.selects C y z).before a0 Z = true) (w4 : (Jvm.Cond.instanceMethod z).before a0 Z = true) (w5 : (Jvm.Cond.initialized z.cls).before a0 Z = true) (w6 : (Jvm.Cond.code z bytes maxL ret).before a0 Z = true)
    (hy : owner ≠ "java/lang/invoke/MethodHandle" ∧ owner ≠ "java/lang/invoke/VarHandle") (hE : ∀ h, Mo Z a0 h0 ds h → Exa Z h a C) (hM : Met (z, bytes, maxL, ret, rm) Z a0 h0 (.ref a :: argsL).toArray ds Q') (hst : st = argsL.reverse ++ .ref a :: rest) (hpd : parseMethodDescriptor y.desc = some ⟨ps, ret⟩) (hlen : argsL.length = ps.length)
    (hsz : ls.size = B.2.2.1) (W : Nat) (hW : (rest.map fun v => v.category).sum = W) (hf : rm.frames + 1 ≤ B.2.2.2.2.frames) (hl : W + (maxL + 11) + rm.locals ≤ B.2.2.2.2.locals) (hk : k + rm.cells ≤ B.2.2.2.2.cells) (hn : n + rm.slots ≤ B.2.2.2.2.slots)
    (H : ∀ v ds', Q' v ds' → Go B Z a0 h0 Q (k + rm.cells) (n + rm.slots) ds' q ls (v.toList ++ rest)) : Go B Z a0 h0 Q k n ds pc ls st := by
  subst hp hst
  intro p l e s m args below meth c T locs hs as Cc X N M R
  have hZ := Cc.2.1
  obtain ⟨cq, kq, qa, qb, qc⟩ := isOf hZ rfl (hE _ M)
  obtain ⟨v, _, ⟨T', L', k', n'⟩, -, X', ⟨Lc, hQ, l1, y1, z1⟩, st'⟩ := X.virtualBackUp Cc.1 (x := y) (y := z) Cc.2.2.2.2.1 (mvT hZ w1) (mvT hZ w0) (mvT hZ w2) hy (mvT hZ w3) (mvT hZ w4) (backOf (W := W) (hM l [] T.heap M) hZ w6 w5 hf hl) qa qc (g := mkF m pc ls (argsL.reverse ++ .ref a :: rest)) rfl (hsz.trans Cc.2.2.2.1.symm) (Steps.refl _) (argsL := argsL) (rest := rest) (lenOf hpd hlen) rfl (by show 2 * 0 + _ ≤ _; omega) (hb Cc.2.2.1 hd) (fun _ _ => ⟨rfl, rfl, hk, hn⟩)
  dsimp only [Pt.U, Pt.locs, Pt.cells, Pt.slots] at X' l1 y1 z1 st' hQ
  subst l1 y1 z1
  obtain ⟨N', ds', M', R', hq⟩ := hQ
  exact (H v ds' hq p l e s m args below meth c T' _ hs as Cc X' (Fr.app N N') M' (R.call R')).back fun t hr => st'.trans hr
theorem go_callP {a : Addr} {C host : String} {kk : Nat} (q : Nat) (hp : pc + 3 = q) (hd : decode B.2.1 pc = .ok (.invokevirtual idx, 3)) (w1 : (Jvm.Cond.methodLink B.1.cls idx y).before a0 Z = true ∨ (Jvm.Cond.methodLinkNest B.1.cls idx y host).before a0 Z = true) (w2 : (Jvm.Cond.instanceMethod y).before a0 Z = true) (w3 : (Jvm.Cond.privateMethod y).before a0 Z = true) (wi : (Jvm.Cond.instantiable y.cls kk).before a0 Z = true) (w5 : (Jvm.Cond.initialized y.cls).before a0 Z = true) (w6 : (Jvm.Cond.code y bytes maxL ret).before a0 Z = true)
    (hy : y.cls ≠ "java/lang/invoke/MethodHandle" ∧ y.cls ≠ "java/lang/invoke/VarHandle") (hE : ∀ h, Mo Z a0 h0 ds h → Exa Z h a C) (hM : Met (y, bytes, maxL, ret, rm) Z a0 h0 (.ref a :: argsL).toArray ds Q') (hst : st = argsL.reverse ++ .ref a :: rest) (hpd : parseMethodDescriptor y.desc = some ⟨ps, ret⟩) (hlen : argsL.length = ps.length)
    (hsz : ls.size = B.2.2.1) (W : Nat) (hW : (rest.map fun v => v.category).sum = W) (hf : rm.frames + 1 ≤ B.2.2.2.2.frames) (hl : W + (maxL + 11) + rm.locals ≤ B.2.2.2.2.locals) (hk : k + rm.cells ≤ B.2.2.2.2.cells) (hn : n + rm.slots ≤ B.2.2.2.2.slots)
    (H : ∀ v ds', Q' v ds' → Go B Z a0 h0 Q (k + rm.cells) (n + rm.slots) ds' q ls (v.toList ++ rest)) : Go B Z a0 h0 Q k n ds pc ls st := by
  subst hp hst
  intro p l e s m args below meth c T locs hs as Cc X N M R
  have hZ := Cc.2.1
  obtain ⟨cell, hcell, hobj⟩ := (hE _ M).cell
  obtain ⟨mk, methM, hnamed, hmethM, hstM, habM⟩ := Cond.instanceMethod_spec (mvT (args := args) hZ w2)
  obtain ⟨methM', cM, hmethM', -, -, -, -, -, -, hsigM⟩ := Cond.code_spec hnamed (mvT (args := args) hZ w6)
  cases hmethM.symm.trans hmethM'
  have hpriv := Cond.privateMethod_at (mvP hZ w3 (args := args))
  have hselP := selectMethod_private (p := e.platform) (c := cell.cls) hmethM (hpriv mk methM hnamed hmethM)
  obtain ⟨cP, kP, f1, hkP, -, hni, -⟩ := Cond.instantiable_spec (mvT (args := args) hZ wi)
  cases f1.symm.trans (findClass_of_methodNamed hnamed)
  have hni' : kP.isInterface = false := by cases hq : kP.isInterface with
    | false => rfl
    | true => rw [hq] at hni; simp at hni
  have hlen' := lenOf hpd hlen _ hsigM
  obtain ⟨vm₁, X₁, hstep₁⟩ : ∃ vm', Stand p l e B.2.2.2.2 s m args below meth c (T.setVm vm') locs k n ∧
      ∀ target, (∀ acts, Steps p.tables e below (doInvoke e ((T.setVm vm').setTop { (mkF m pc ls (argsL.reverse ++ .ref a :: rest)) with stack := rest }) acts mk (.ref a :: argsL).toArray).1 target) → Steps p.tables e below (T.setTop (mkF m pc ls (argsL.reverse ++ .ref a :: rest))) target := by
    rcases w1 with w1 | w1
    · exact X.invokevirtual Cc.1 Cc.2.2.2.2.1 (mvT hZ w1) hnamed hmethM hstM hkP hni' hy hcell hobj hselP hmethM habM hkP hni' rfl hlen' rfl (hb Cc.2.2.1 hd)
    · exact X.invokevirtualNest Cc.1 Cc.2.2.2.2.1 (Cond.methodLinkNest_wide hZ w1 :) hnamed hmethM hstM hkP hni' hy hcell hobj hselP hmethM habM hkP hni' rfl hlen' rfl (hb Cc.2.2.1 hd)
  have hW₁ : s.WarmedH vm₁ := X₁.warmed
  obtain ⟨v, ⟨T', L', k', n'⟩, X', ⟨Lc, hQ, l1, y1, z1⟩, hsteps⟩ := backOf (len := 3) (W := W) (hM l [] T.heap M) hZ w6 w5 hf hl m meth c ⟨T.setVm vm₁, locs, k, n⟩ { (mkF m pc ls (argsL.reverse ++ .ref a :: rest)) with stack := rest } (.invokevirtual idx) mk (.ref a :: argsL).toArray X₁ rfl (hsz.trans Cc.2.2.2.1.symm) (hb Cc.2.2.1 hd) (by show 2 * 0 + (rest.map fun v => v.category).sum ≤ _; omega) (X₁.named hnamed) ⟨rfl, rfl, hk, hn⟩
  dsimp only [Pt.U, Pt.locs, Pt.cells, Pt.slots] at X' l1 y1 z1 hsteps hQ
  subst l1 y1 z1
  obtain ⟨N', ds', M', R', hq⟩ := hQ
  exact (H v ds' hq p l e s m args below meth c T' _ hs as Cc X' (Fr.app N N') M' (R.call R')).back fun t hr => (hstep₁ _ fun acts => by rw [doInvoke_state]; exact Steps.refl _).trans (hsteps.trans hr)
theorem go_callF {a : Addr} {C : String} {cnt : Nat} (q : Nat) (hp : pc + 5 = q) (hd : decode B.2.1 pc = .ok (.invokeinterface idx cnt, 5)) (w1 : (Jvm.Cond.methodLink B.1.cls idx y).before a0 Z = true) (w2 : (Jvm.Cond.declares y).before a0 Z = true) (wf : (Jvm.Cond.interfaceMethod y.cls y.cls y.name y.desc).before a0 Z = true) (tf : ((Jvm.Cond.interfaceMethod y.cls y.cls y.name y.desc).onTables && (Jvm.Cond.interfaceMethod y.cls y.cls y.name y.desc).keepsFace) = true) (w3 : (Jvm.Cond.selects C y z).before a0 Z = true) (w4 : (Jvm.Cond.instanceMethod z).before a0 Z = true) (wp : (Jvm.Cond.publicMethod z).before a0 Z = true) (wu : (Jvm.Cond.unhidden C y.name y.desc).before a0 Z = true) (wc : (Jvm.Cond.castable C y.cls).before a0 Z = true) (w5 : (Jvm.Cond.initialized z.cls).before a0 Z = true) (w6 : (Jvm.Cond.code z bytes maxL ret).before a0 Z = true)
    (hy : y.cls ≠ "java/lang/invoke/MethodHandle" ∧ y.cls ≠ "java/lang/invoke/VarHandle") (hE : ∀ h, Mo Z a0 h0 ds h → Exa Z h a C) (hM : Met (z, bytes, maxL, ret, rm) Z a0 h0 (.ref a :: argsL).toArray ds Q') (hst : st = argsL.reverse ++ .ref a :: rest) (hpd : parseMethodDescriptor y.desc = some ⟨ps, ret⟩) (hlen : argsL.length = ps.length)
    (hsz : ls.size = B.2.2.1) (W : Nat) (hW : (rest.map fun v => v.category).sum = W) (hf : rm.frames + 1 ≤ B.2.2.2.2.frames) (hl : W + (maxL + 11) + rm.locals ≤ B.2.2.2.2.locals) (hk : k + rm.cells ≤ B.2.2.2.2.cells) (hn : n + rm.slots ≤ B.2.2.2.2.slots)
    (H : ∀ v ds', Q' v ds' → Go B Z a0 h0 Q (k + rm.cells) (n + rm.slots) ds' q ls (v.toList ++ rest)) : Go B Z a0 h0 Q k n ds pc ls st := by
  subst hp hst
  intro p l e s m args below meth c T locs hs as Cc X N M R
  have hZ := Cc.2.1
  obtain ⟨cq, kq, qa, qb, qc⟩ := isOf hZ rfl (hE _ M)
  obtain ⟨v, _, ⟨T', L', k', n'⟩, -, X', ⟨Lc, hQ, l1, y1, z1⟩, st'⟩ := X.interfaceBack Cc.1 (xi := y) (y := z) Cc.2.2.2.2.1 (mvT hZ w1) (mvT hZ w2) (mvT hZ wf (hd := tf)) (mvT hZ w3) (mvT hZ w4) (mvT hZ wp) (mvT hZ wu) (mvT hZ wc) hy (backOf (W := W) (hM l [] T.heap M) hZ w6 w5 hf hl) qa qb qc (g := mkF m pc ls (argsL.reverse ++ .ref a :: rest)) rfl (hsz.trans Cc.2.2.2.1.symm) (Steps.refl _) (argsL := argsL) (rest := rest) (lenOf hpd hlen) rfl (by show 2 * 0 + _ ≤ _; omega) (hb Cc.2.2.1 hd) (fun _ _ => ⟨rfl, rfl, hk, hn⟩)
  dsimp only [Pt.U, Pt.locs, Pt.cells, Pt.slots] at X' l1 y1 z1 st' hQ
  subst l1 y1 z1
  obtain ⟨N', ds', M', R', hq⟩ := hQ
  exact (H v ds' hq p l e s m args below meth c T' _ hs as Cc X' (Fr.app N N') M' (R.call R')).back fun t hr => st'.trans hr
theorem go_cast {a : Addr} {K : String} (q : Nat) (hp : pc + 3 = q) (hd : decode B.2.1 pc = .ok (.checkcast idx, 3)) (hst : st = .ref a :: rest) (w : (Jvm.Cond.classLink B.1.cls idx K).before a0 Z = true) (hI : ∀ h, Mo Z a0 h0 ds h → Ins Z h a K true) (H : Go B Z a0 h0 Q k n ds q ls st) : Go B Z a0 h0 Q k n ds pc ls st := by
  subst hp hst
  intro p l e s m args below meth c T locs hs as Cc X N M R
  obtain ⟨T', X', e', st'⟩ := castY X Cc.1 Cc.2.1 Cc.2.2.2.2.1 w rfl (hI _ M) (g := mkF m pc ls (.ref a :: rest)) rfl rfl (hb Cc.2.2.1 hd)
  exact (H p l e s m args below meth c T' locs hs as Cc X' N (by rw [e']; exact M) (by rw [e']; exact R)).back st'
theorem go_instY {a : Addr} {K : String} (q : Nat) (hp : pc + 3 = q) (hd : decode B.2.1 pc = .ok (.instanceof idx, 3)) (hst : st = .ref a :: rest) (w : (Jvm.Cond.classLink B.1.cls idx K).before a0 Z = true) (hI : ∀ h, Mo Z a0 h0 ds h → Ins Z h a K true) (H : Go B Z a0 h0 Q k n ds q ls (.int 1 :: rest)) : Go B Z a0 h0 Q k n ds pc ls st := by
  subst hp hst
  intro p l e s m args below meth c T locs hs as Cc X N M R
  obtain ⟨T', X', e', st'⟩ := instY X Cc.1 Cc.2.1 Cc.2.2.2.2.1 w rfl (hI _ M) (g := mkF m pc ls (.ref a :: rest)) rfl rfl (hb Cc.2.2.1 hd)
  exact (H p l e s m args below meth c T' locs hs as Cc X' N (by rw [e']; exact M) (by rw [e']; exact R)).back st'
theorem go_getN {a : Addr} {C O nm d host : String} {fs : Fds} {v : Value} (i j q : Nat) (hp : pc + 3 = q) (hd : decode B.2.1 pc = .ok (.getfield idx, 3)) (hst : st = .ref a :: rest) (hi : ds[i]? = some (ob a C fs)) (hj : fs[j]? = some (O, nm, d, v)) (w : (Jvm.Cond.fieldLinkNest B.1.cls idx O nm d host).before a0 Z = true)
    (H : Go B Z a0 h0 Q k n ds q ls (v :: rest)) : Go B Z a0 h0 Q k n ds pc ls st := by
  subst hp hst
  intro p l e s m args below meth c T locs hs as Cc X N M R
  obtain ⟨T', X', e', st'⟩ := getF X Cc.1 Cc.2.1 Cc.2.2.2.2.1 (host := host) (Or.inr w) Via.refl rfl ((M.at hi).2.1 _ (List.mem_of_getElem? hj)).1 (g := mkF m pc ls (.ref a :: rest)) rfl rfl (hb Cc.2.2.1 hd)
  exact (H p l e s m args below meth c T' locs hs as Cc X' N (by rw [e']; exact M) (by rw [e']; exact R)).back st'
end Core
/-! THE WIDE LAYER: as the layer, but the walk's Stand is over 's0.setVm vm0': what was loaded since is booked; J is what is still known of the tables -/
def RelJ (J : Vm → Prop) (s0 s : State) (kz : Nat) : Prop := J s.vm ∧ ∃ (vm0 : Vm) (k0 : Nat), s = s0.setVm vm0 ∧ s0.Since vm0 k0 ∧ k0 ≤ kz
def TrW (kz : Nat) (hs : Heap) (as : List Addr) (ds : Mem) (h : Heap) : Prop := kz ≤ h.size ∧ Tr hs as ds h
section TrWs
variable {kz : Nat} {hs : Heap} {as : List Addr} {ds ds' : Mem} {h h' : Heap} {a : Addr} {D D' : Desc} {i sl : Nat} {v : Value}
theorem TrW.add (R : TrW kz hs as ds h) (E : Ext h h') : TrW kz hs as (ds ++ [(h.size, D)]) h' := ⟨Nat.le_trans R.1 E.1, R.2.add E⟩
theorem TrW.wr (R : TrW kz hs as ds h) (hi : ds[i]? = some (a, D)) (W : Wr h h' a sl v) : TrW kz hs as (ds.set i (a, D')) h' := ⟨by rw [W.size]; exact R.1, R.2.wr hi W⟩
theorem TrW.call (R : TrW kz hs as ds h) (R' : Tr h (ds.map (·.1)) ds' h') : TrW kz hs as ds' h' := ⟨Nat.le_trans R.1 R'.1, R.2.call R'⟩
end TrWs
def EndsW (B : Bdy) (Z : State) (a0 : Array Value) (h0 : Heap) (hs : Heap) (as : List Addr) (Q : Option Value → Mem → Prop) (p : Program) (e : Env) (below : List Frame) (s u : State) : Prop :=
  ∃ s₂ v L ds, Steps p.tables e below u s₂ ∧ s₂.status = .running ∧ Ended s₂ below (.returned v) ∧ Mo Z a0 h0 ds s₂.heap ∧ Tr hs as ds s₂.heap ∧ Q v ds ∧ Fr h0.size L ∧ ReturnedEndW s (.returned v) s₂ L B.2.2.2.2.cells B.2.2.2.2.slots
def GoW (J : Vm → Prop) (B : Bdy) (Z : State) (a0 : Array Value) (h0 : Heap) (Q : Option Value → Mem → Prop) (k n : Nat) (ds : Mem) (pc : Nat) (ls : Array Slot) (st : List Value) : Prop :=
  ∀ (p : Program) (l : Launch) (e : Env) (kz : Nat) (s0 s : State) (rl : RelJ J s0 s kz) (m : MethodId) (args : Array Value) (below : List Frame) (meth : Method) (c : Code) (T : State) (locs : List Loc) (hs : Heap) (as : List Addr),
    Cx B Z p s m meth c → Stand p l e B.2.2.2.2 s m args below meth c T locs k n → Fr h0.size locs → Mo Z a0 h0 ds T.heap → TrW kz hs as ds T.heap → EndsW B Z a0 h0 hs as Q p e below s0 (T.setTop (mkF m pc ls st))
def MetW (J : Vm → Prop) (B : Bdy) (Z : State) (a0 : Array Value) (h0 : Heap) (as : Array Value) (ds : Mem) (Q : Option Value → Mem → Prop) : Prop :=
  ∀ (l : Launch) (ws : List Jvm.Cond) (h : Heap), Mo Z a0 h0 ds h → MetFree l B.1 (head1 (Jvm.Cond.code B.1 B.2.1 B.2.2.1 B.2.2.2.1 :: ws) B.2.2.2.2) (fun a U => a = as ∧ Z.Warmed39 U.vm ∧ U.heap = h ∧ J U.vm) (fun _ _ _ _ _ => True)
    (fun _ U o U' => ∃ v L, o = .returned v ∧ MQ Z a0 h0 h (ds.map (·.1)) Q v U'.heap L ∧ ReturnedEndW U o U' L B.2.2.2.2.cells B.2.2.2.2.slots)
section CoreW
variable {B : Bdy} {Z : State} {a0 : Array Value} {h0 : Heap} {Q : Option Value → Mem → Prop} {k n : Nat} {ds : Mem} {pc : Nat} {ls : Array Slot} {st : List Value} {J : Vm → Prop}
theorem EndsW.back {hs : Heap} {as : List Addr} {p : Program} {e : Env} {below : List Frame} {s u u' : State} (F : EndsW B Z a0 h0 hs as Q p e below s u') (hst : ∀ t, Steps p.tables e below u' t → Steps p.tables e below u t) : EndsW B Z a0 h0 hs as Q p e below s u := by
  obtain ⟨s₂, v, L, ds, h1, r⟩ := F; exact ⟨s₂, v, L, ds, hst _ h1, r⟩
theorem GoW.step {pc' : Nat} {ls' : Array Slot} {st' : List Value} (H : GoW J B Z a0 h0 Q k n ds pc' ls' st')
    (hs : ∀ {p : Program} {l : Launch} {e : Env} {s : State} {m : MethodId} {args : Array Value} {below : List Frame} {meth : Method} {c : Code} {T : State} {locs : List Loc}, Cx B Z p s m meth c → Stand p l e B.2.2.2.2 s m args below meth c T locs k n → Mo Z a0 h0 ds T.heap → ∀ t, Steps p.tables e below (T.setTop (mkF m pc' ls' st')) t → Steps p.tables e below (T.setTop (mkF m pc ls st)) t) :
    GoW J B Z a0 h0 Q k n ds pc ls st := fun p l e kz s0 s rl m args below meth c T locs h1 as C X N M R => (H p l e kz s0 s rl m args below meth c T locs h1 as C X N M R).back (hs C X M)
theorem GoW.mono {Q' : Option Value → Mem → Prop} (H : GoW J B Z a0 h0 Q k n ds pc ls st) (hq : ∀ v ds', Q v ds' → Q' v ds') : GoW J B Z a0 h0 Q' k n ds pc ls st := fun p l e kz s0 s rl m args below meth c T locs hs as C X N M R => by
  obtain ⟨s₂, v, L, ds', h1, h2, h3, h4, h4', h5, r⟩ := H p l e kz s0 s rl m args below meth c T locs hs as C X N M R
  exact ⟨s₂, v, L, ds', h1, h2, h3, h4, h4', hq _ _ h5, r⟩
theorem GoW.know {P : Prop} (hP : ∀ h, Mo Z a0 h0 ds h → P) (H : P → GoW J B Z a0 h0 Q k n ds pc ls st) : GoW J B Z a0 h0 Q k n ds pc ls st := fun p l e kz s0 s rl m args below meth c T locs hs as C X N M R => H (hP _ M) p l e kz s0 s rl m args below meth c T locs hs as C X N M R
theorem GoW.more {k' n' : Nat} (H : GoW J B Z a0 h0 Q k' n' ds pc ls st) (hk : k ≤ k') (hn : n ≤ n') : GoW J B Z a0 h0 Q k n ds pc ls st := fun p l e kz s0 s rl m args below meth c T locs hs as C X N M R => H p l e kz s0 s rl m args below meth c T locs hs as C (X.more hk hn) N M R
theorem GoW.sub {ds' : Mem} (hs : List.Sublist ds' ds) (H : GoW J B Z a0 h0 Q k n ds' pc ls st) : GoW J B Z a0 h0 Q k n ds pc ls st := fun p l e kz s0 s rl m args below meth c T locs h1 as C X N M R =>
  H p l e kz s0 s rl m args below meth c T locs h1 as C X N ⟨M.1, fun q hq => M.2.1 q (hs.subset hq), M.2.2.sublist hs⟩ ⟨R.1, R.2.1, R.2.2.1, fun q hq => R.2.2.2 q (hs.subset hq)⟩
theorem GoW.perm {ds' : Mem} (hp : List.Perm ds' ds) (H : GoW J B Z a0 h0 Q k n ds' pc ls st) : GoW J B Z a0 h0 Q k n ds pc ls st := fun p l e kz s0 s rl m args below meth c T locs hs as C X N M R =>
  H p l e kz s0 s rl m args below meth c T locs hs as C X N (M.perm hp) ⟨R.1, R.2.1, R.2.2.1, fun q hq => R.2.2.2 q (hp.mem_iff.mp hq)⟩
theorem GoW.forget (H : GoW (fun _ => True) B Z a0 h0 Q k n ds pc ls st) : GoW J B Z a0 h0 Q k n ds pc ls st := fun p l e kz s0 s rl m args below meth c T locs hs as C X N M R =>
  H p l e kz s0 s ⟨trivial, rl.2⟩ m args below meth c T locs hs as C X N M R
theorem GoW.front (i : Nat) (hi : i < ds.length) (H : GoW J B Z a0 h0 Q k n (ds[i] :: ds.eraseIdx i) pc ls st) : GoW J B Z a0 h0 Q k n ds pc ls st := GoW.perm (by
  have e : ds = ds.take i ++ ds[i] :: ds.drop (i + 1) := by rw [List.getElem_cons_drop, List.take_append_drop]
  rw [List.eraseIdx_eq_take_drop_succ]
  exact (List.perm_middle.symm).trans (by rw [← e])) H
theorem MetW.of {as : Array Value} (hp : plainFor B.1 = true) (he : ∀ m, entryFrame m as B.2.2.1 = mkF m 0 ls []) (H : GoW J B Z a0 h0 Q 0 0 ds 0 ls []) : MetW J B Z a0 h0 as ds Q := by
  intro l ws h M
  refine MetFree.of_bodySF hp hisR ?_
  intro p e s m args below meth c s₁ Bd hml hP _
  obtain ⟨rfl, hZ, hh, hJ⟩ := hP
  have hown : s.vm.findClass B.1.cls = some m.cls := findClass_of_methodNamed Bd.named
  have hnm := (name_of_methodNamed Bd.named Bd.method).1
  have e0 : s₁.heap = h := by rw [← hh, Bd.state]; rfl
  obtain ⟨s₂, v, L, ds', h1, h2, h3, h4, h4', h5, h6, h7⟩ := H p l e s₁.heap.size s s ⟨hJ, s.vm, s.heap.size, rfl, (State.WarmedH.refl s).since _, by rw [e0, ← hh]; exact Nat.le_refl _⟩ m args below meth c s₁ [] h (ds.map (·.1)) ⟨Bd.exec, hZ, Bd.bytes, hml, hown, Bd.returns, Bd.notSynchronized, hnm⟩ (Stand.of_body Bd) (Fr.nil _) (by rw [e0]; exact M) ⟨Nat.le_refl _, by rw [e0]; exact Tr.start h ds⟩
  exact ⟨s₂, _, castTop (he m) h1, h2, h3, v, L, rfl, ⟨h6, ds', h4, h4', h5⟩, h7⟩
theorem MetW.mono {as : Array Value} {Q' : Option Value → Mem → Prop} (H : MetW J B Z a0 h0 as ds Q) (hq : ∀ v ds', Q v ds' → Q' v ds') : MetW J B Z a0 h0 as ds Q' := by
  intro l ws h M p e h1 h2 h3 s m args below h4 h5 h6 h7
  obtain ⟨n, o, g1, g2, g3, v, L, g4, ⟨g5, ds', g6, g6', g7⟩, g8⟩ := H l ws h M p e h1 h2 h3 s m args below h4 h5 h6 h7
  exact ⟨n, o, g1, g2, g3, v, L, g4, ⟨g5, ds', g6, g6', hq _ _ g7⟩, g8⟩
theorem MetW.frame {as : Array Value} (rest : Mem) (H : MetW J B Z a0 h0 as ds Q) : MetW J B Z a0 h0 as (ds ++ rest) (fun v D => ∃ ds', Q v ds' ∧ D = ds' ++ rest) := by
  intro l ws h M p e h1 h2 h3 s m args below h4 h5 h6 h7
  have M1 : Mo Z a0 h0 ds h := ⟨M.1, fun q hq => M.2.1 q (List.mem_append_left _ hq), (List.pairwise_append.mp M.2.2).1⟩
  obtain ⟨n, o, g1, g2, g3, v, L, g4, ⟨g5, ds', g6, g6', g7⟩, g8⟩ := H l ws h M1 p e h1 h2 h3 s m args below h4 h5 h6 h7
  have nin : ∀ q ∈ rest, q.1 ∉ ds.map (·.1) := fun q hq m => by
    obtain ⟨r, hr, e⟩ := List.mem_map.mp m
    exact (List.pairwise_append.mp M.2.2).2.2 r hr q hq e
  refine ⟨n, o, g1, g2, g3, v, L, g4, ⟨g5, ds' ++ rest, ⟨g6.1, fun q hq => ?_, List.pairwise_append.mpr ⟨g6.2.2, (List.pairwise_append.mp M.2.2).2.1, fun q hq r hr => ?_⟩⟩, ⟨g6'.1, fun x c q r => g6'.2.1 x c q fun m => r ?_, fun q hq => ?_⟩, ds', g7, rfl⟩, g8⟩
  · rcases List.mem_append.mp hq with hq | hq
    · exact g6.2.1 q hq
    · obtain ⟨m1, m2⟩ := M.2.1 q (List.mem_append_right _ hq)
      exact ⟨m1, m2.frame g6'.2.1 (nin q hq)⟩
  · intro e
    rcases g6'.2.2 q hq with m | m
    · exact nin r hr (e ▸ m)
    · exact absurd (M.2.1 r (List.mem_append_right _ hr)).2.lt (Nat.not_lt.mpr (e ▸ m))
  · rw [List.map_append]; exact List.mem_append_left _ m
  · rcases List.mem_append.mp hq with hq | hq
    · rcases g6'.2.2 q hq with m | m
      · exact Or.inl (by rw [List.map_append]; exact List.mem_append_left _ m)
      · exact Or.inr m
    · exact Or.inl (List.mem_map.mpr ⟨q, List.mem_append_right _ hq, rfl⟩)
theorem gw_end {v : Option Value} (hk : k ≤ B.2.2.2.2.cells) (hn : n ≤ B.2.2.2.2.slots) (hv : B.2.2.2.1 = none → v = none) (HQ : Q v ds)
    (hs : ∀ {p : Program} {l : Launch} {e : Env} {s : State} {m : MethodId} {args : Array Value} {below : List Frame} {meth : Method} {c : Code} {T : State} {locs : List Loc}, Cx B Z p s m meth c → Stand p l e B.2.2.2.2 s m args below meth c T locs k n → ∀ {fs : List Frame}, (∀ (f : JFrame) (acts : List Action), f.method = m → f.locked = none → f.entered = [] → (doReturn e (T.setTop f) acts v).1 = T.setFrames fs) → Steps p.tables e below (T.setTop (mkF m pc ls st)) (T.setFrames fs)) :
    GoW J B Z a0 h0 Q k n ds pc ls st := by
  intro p l e kz s0 s rl m args below meth c T locs h1 as C X N M R
  obtain ⟨-, vm0, k0, rfl, hS, hk0⟩ := rl
  obtain ⟨fs, hr, hrun, hended, hEnd⟩ := X.leaveW hS (Nat.le_trans hk0 R.1) (v := v) (fun q => hv (C.2.2.2.2.2.1.symm.trans q)) C.2.2.2.2.2.2.1
  exact ⟨_, v, locs, ds, hs C X hr, hrun, hended, M, R.2, HQ, N, hEnd.1, hEnd.2.1, hEnd.2.2.1, hEnd.2.2.2.mono hk hn⟩
theorem gw_return (hd : decode B.2.1 pc = .ok (.return_, 1)) (hret : B.2.2.2.1 = none) (hst : st = []) (hk : k ≤ B.2.2.2.2.cells) (hn : n ≤ B.2.2.2.2.slots) (HQ : Q none ds) : GoW J B Z a0 h0 Q k n ds pc ls st := by
  subst hst
  exact gw_end hk hn (fun _ => rfl) HQ fun C X _ hr => X.returnOut C.1 (C.2.2.2.2.2.1.trans hret) (hb C.2.2.1 hd) hr
theorem gw_ireturn {z : Int32} {rest : List Value} {t : FieldType} (hd : decode B.2.1 pc = .ok (.ireturn, 1)) (hret : B.2.2.2.1 = some t) (ht : t = .int ∨ t = .boolean ∨ t = .byte ∨ t = .char ∨ t = .short) (hst : st = .int z :: rest) (hz : narrow t (.int z) = .int z) (hk : k ≤ B.2.2.2.2.cells) (hn : n ≤ B.2.2.2.2.slots) (HQ : Q (some (.int z)) ds) : GoW J B Z a0 h0 Q k n ds pc ls st := by
  subst hst
  exact gw_end hk hn (fun q => by rw [hret] at q; cases q) HQ fun C X _ hr => retOut X C.1 (C.2.2.2.2.2.1.trans hret) hz (Or.inl ⟨rfl, ht, _, rfl⟩) (hb C.2.2.1 hd) hr
theorem gw_lreturn {z : Int64} {rest : List Value} (hd : decode B.2.1 pc = .ok (.lreturn, 1)) (hret : B.2.2.2.1 = some .long) (hst : st = .long z :: rest) (hk : k ≤ B.2.2.2.2.cells) (hn : n ≤ B.2.2.2.2.slots) (HQ : Q (some (.long z)) ds) : GoW J B Z a0 h0 Q k n ds pc ls st := by
  subst hst
  exact gw_end hk hn (fun q => by rw [hret] at q; cases q) HQ fun C X _ hr => retOut X C.1 (C.2.2.2.2.2.1.trans hret) rfl (Or.inr (Or.inl ⟨rfl, rfl, _, rfl⟩)) (hb C.2.2.1 hd) hr
theorem gw_areturn {w : Value} {rest : List Value} {t : FieldType} (hd : decode B.2.1 pc = .ok (.areturn, 1)) (hret : B.2.2.2.1 = some t) (ht : t.isReference = true) (hw : w.isRef = true) (hst : st = w :: rest) (hk : k ≤ B.2.2.2.2.cells) (hn : n ≤ B.2.2.2.2.slots) (HQ : Q (some w) ds) : GoW J B Z a0 h0 Q k n ds pc ls st := by
  subst hst
  have hz : narrow t w = w := by rcases ref_cases hw with rfl | ⟨x, rfl⟩ <;> cases t <;> rfl
  exact gw_end hk hn (fun q => by rw [hret] at q; cases q) HQ fun C X _ hr => retOut X C.1 (C.2.2.2.2.2.1.trans hret) hz (Or.inr (Or.inr (Or.inr (Or.inr ⟨rfl, ht, hw⟩)))) (hb C.2.2.1 hd) hr
theorem gw_if {cd : ClassFile.Cond} {x : Int32} {rest : List Value} {o : Int} (q1 q2 : Nat) (hp : pc + 3 = q2) (ho : 0 ≤ (pc : Int) + o) (hq : ((pc : Int) + o).toNat = q1) (hd : decode B.2.1 pc = .ok (.ifCond cd o, 3)) (hst : st = .int x :: rest)
    (H1 : cmpZ cd x → GoW J B Z a0 h0 Q k n ds q1 ls rest) (H2 : ¬ cmpZ cd x → GoW J B Z a0 h0 Q k n ds q2 ls rest) : GoW J B Z a0 h0 Q k n ds pc ls st := by
  subst hst hp
  cases hc : ifCond.holds cd x
  · exact (H2 fun q => by rw [(cmpZ_iff cd x).mpr q] at hc; cases hc).step fun C X _ t hr => XS.ifNo X.here C.1 rfl (hb C.2.2.1 hd) rfl hc hr
  · exact (H1 ((cmpZ_iff cd x).mp hc)).step fun C X _ t hr => XS.ifYes X.here C.1 rfl rfl (hb C.2.2.1 hd) rfl hc ho hq hr
theorem gw_icmp {cd : ClassFile.Cond} {x y : Int32} {rest : List Value} {o : Int} (q1 q2 : Nat) (hp : pc + 3 = q2) (ho : 0 ≤ (pc : Int) + o) (hq : ((pc : Int) + o).toNat = q1) (hd : decode B.2.1 pc = .ok (.if_icmp cd o, 3)) (hst : st = .int y :: .int x :: rest)
    (H1 : cmpP cd x y → GoW J B Z a0 h0 Q k n ds q1 ls rest) (H2 : ¬ cmpP cd x y → GoW J B Z a0 h0 Q k n ds q2 ls rest) : GoW J B Z a0 h0 Q k n ds pc ls st := by
  subst hst hp
  cases hc : if_icmp.holds cd x y
  · exact (H2 fun q => by rw [(cmpP_iff cd x y).mpr q] at hc; cases hc).step fun C X _ t hr => XS.icmpNo X.here C.1 rfl (hb C.2.2.1 hd) rfl hc hr
  · exact (H1 ((cmpP_iff cd x y).mp hc)).step fun C X _ t hr => XS.icmpYes X.here C.1 rfl rfl (hb C.2.2.1 hd) rfl hc ho hq hr
theorem gw_acmp {cd : ACond} {x y : Value} {rest : List Value} {o : Int} (q1 q2 : Nat) (hp : pc + 3 = q2) (ho : 0 ≤ (pc : Int) + o) (hq : ((pc : Int) + o).toNat = q1) (hd : decode B.2.1 pc = .ok (.if_acmp cd o, 3)) (hst : st = y :: x :: rest) (hx : x.isRef = true) (hy : y.isRef = true)
    (H1 : acP cd x y → GoW J B Z a0 h0 Q k n ds q1 ls rest) (H2 : ¬ acP cd x y → GoW J B Z a0 h0 Q k n ds q2 ls rest) : GoW J B Z a0 h0 Q k n ds pc ls st := by
  subst hst hp
  cases hc : acV cd (decide (x = y))
  · exact (H2 fun q => by rw [(acP_iff cd x y).mpr q] at hc; cases hc).step fun C X _ t hr => RoadKit.acmp X C.1 rfl hx hy rfl (hb C.2.2.1 hd) rfl rfl ho (by rw [hc]; rfl) hr
  · exact (H1 ((acP_iff cd x y).mp hc)).step fun C X _ t hr => RoadKit.acmp X C.1 rfl hx hy rfl (hb C.2.2.1 hd) rfl rfl ho (by rw [hc]; exact hq.symm) hr
theorem gw_ifnullY {rest : List Value} {o : Int} (q1 : Nat) (ho : 0 ≤ (pc : Int) + o) (hq : ((pc : Int) + o).toNat = q1) (hd : decode B.2.1 pc = .ok (.ifnull o, 3)) (hst : st = .null :: rest) (H : GoW J B Z a0 h0 Q k n ds q1 ls rest) : GoW J B Z a0 h0 Q k n ds pc ls st := by
  subst hst; exact H.step fun C X _ t hr => XS.ifnullYes X.here C.1 rfl rfl (hb C.2.2.1 hd) rfl ho hq hr
theorem gw_ifnullN {b : Addr} {rest : List Value} {o : Int} (q2 : Nat) (hp : pc + 3 = q2) (hd : decode B.2.1 pc = .ok (.ifnull o, 3)) (hst : st = .ref b :: rest) (H : GoW J B Z a0 h0 Q k n ds q2 ls rest) : GoW J B Z a0 h0 Q k n ds pc ls st := by
  subst hst hp; exact H.step fun C X _ t hr => XS.ifnullNo X.here C.1 rfl (hb C.2.2.1 hd) rfl hr
theorem gw_ifnonnullY {b : Addr} {rest : List Value} {o : Int} (q1 : Nat) (ho : 0 ≤ (pc : Int) + o) (hq : ((pc : Int) + o).toNat = q1) (hd : decode B.2.1 pc = .ok (.ifnonnull o, 3)) (hst : st = .ref b :: rest) (H : GoW J B Z a0 h0 Q k n ds q1 ls rest) : GoW J B Z a0 h0 Q k n ds pc ls st := by
  subst hst; exact H.step fun C X _ t hr => XS.ifnonnullYes X.here C.1 rfl rfl (hb C.2.2.1 hd) rfl ho hq hr
theorem gw_ifnonnullN {rest : List Value} {o : Int} (q2 : Nat) (hp : pc + 3 = q2) (hd : decode B.2.1 pc = .ok (.ifnonnull o, 3)) (hst : st = .null :: rest) (H : GoW J B Z a0 h0 Q k n ds q2 ls rest) : GoW J B Z a0 h0 Q k n ds pc ls st := by
  subst hst hp; exact H.step fun C X _ t hr => XS.ifnonnullNo X.here C.1 rfl (hb C.2.2.1 hd) rfl hr
theorem gw_goto {o : Int} (q : Nat) (ho : 0 ≤ (pc : Int) + o) (hq : ((pc : Int) + o).toNat = q) (hd : decode B.2.1 pc = .ok (.goto o, 3)) (H : GoW J B Z a0 h0 Q k n ds q ls st) : GoW J B Z a0 h0 Q k n ds pc ls st :=
  H.step fun C X _ t hr => XS.goto X.here C.1 rfl rfl (hb C.2.2.1 hd) ho hq hr
theorem gw_ldc {idx : Nat} {v : Int32} (q : Nat) (hp : pc + 2 = q) (hd : decode B.2.1 pc = .ok (.ldc idx, 2)) (w : (Jvm.Cond.constant B.1.cls idx v).before a0 Z = true) (H : GoW J B Z a0 h0 Q k n ds q ls (.int v :: st)) : GoW J B Z a0 h0 Q k n ds pc ls st := by
  subst hp; exact H.step fun C X _ t hr => X.ldcInt C.1 C.2.2.2.2.1 (mvT C.2.1 w) (g := mkF _ pc ls st) rfl (hb C.2.2.1 hd) t hr
theorem gw_ldc2 {idx : Nat} {v : Int64} (q : Nat) (hp : pc + 3 = q) (hd : decode B.2.1 pc = .ok (.ldc2_w idx, 3)) (w : (Jvm.Cond.constantLong B.1.cls idx v).before a0 Z = true) (H : GoW J B Z a0 h0 Q k n ds q ls (.long v :: st)) : GoW J B Z a0 h0 Q k n ds pc ls st := by
  subst hp; exact H.step fun C X _ t hr => X.ldc2Long C.1 C.2.2.2.2.1 (mvT C.2.1 w) (g := mkF _ pc ls st) rfl (hb C.2.2.1 hd) t hr
theorem gw_new {C : String} {idx sz : Nat} (q : Nat) (hp : pc + 3 = q) (hd : decode B.2.1 pc = .ok (.new idx, 3)) (w : (Jvm.Cond.classLink B.1.cls idx C).before a0 Z = true) (wi : (Jvm.Cond.instantiable C sz).before a0 Z = true) (wz : (Jvm.Cond.initialized C).before a0 Z = true)
    (hk : k + 1 ≤ B.2.2.2.2.cells) (hn : n + sz ≤ B.2.2.2.2.slots) (fs : Fds) (hfs : LaidL Z a0 C fs) (hnd : (fs.map (·.2.1)).Nodup) (H : ∀ a, GoW J B Z a0 h0 Q (k + 1) (n + sz) (ds ++ [ob a C fs]) q ls (.ref a :: st)) : GoW J B Z a0 h0 Q k n ds pc ls st := by
  subst hp
  intro p l e kz s0 s rl m args below meth c T locs hs as Cc X N M R
  obtain ⟨T', h', X', e', E', A', D', -, st'⟩ := newO X Cc.1 Cc.2.1 Cc.2.2.2.2.1 w wi wz rfl (g := mkF m pc ls st) rfl (hb Cc.2.2.1 hd) hk hn
  refine (H T.heap.size p l e kz s0 s rl m args below meth c T' locs hs as Cc X' N ?_ (by rw [e']; exact R.add E')).back st'
  rw [e']
  refine M.add E' ⟨A', fun f hf => ?_, hnd⟩
  obtain ⟨L, ty, h1, h2⟩ := hfs.mem f hf
  exact ⟨h2 ▸ D' L h1, L, ty, h1⟩
theorem gw_newarr {aty : ArrayType} {x : Int32} {rest : List Value} (q : Nat) (hp : pc + 2 = q) (hd : decode B.2.1 pc = .ok (.newarray aty, 2)) (hst : st = .int x :: rest) (w : (Jvm.Cond.arrayClass (newarray.typeOf aty)).before a0 Z = true) (hx : ¬ x < 0) (cap : Nat) (hcap : x.toNatClampNeg ≤ cap) (hbb : cap * 8 ≤ 536870912)
    (hk : k + 1 ≤ B.2.2.2.2.cells) (hn : n + cap ≤ B.2.2.2.2.slots) (H : ∀ a, GoW J B Z a0 h0 Q (k + 1) (n + cap) (ds ++ [ar a (newarray.typeOf aty) (List.replicate x.toNatClampNeg (defaultValue (newarray.typeOf aty)))]) q ls (.ref a :: rest)) : GoW J B Z a0 h0 Q k n ds pc ls st := by
  subst hp hst
  intro p l e kz s0 s rl m args below meth c T locs hs as Cc X N M R
  obtain ⟨T', h', cA, X', e', E', A', st'⟩ := newP X Cc.1 Cc.2.1 w rfl (g := mkF m pc ls (.int x :: rest)) rfl (hb Cc.2.2.1 hd) rfl hx hcap hbb hk hn
  refine (H T.heap.size p l e kz s0 s rl m args below meth c T' locs hs as Cc X' N ?_ (by rw [e']; exact R.add E')).back st'
  rw [e']
  exact M.add E' ⟨_, A', by simp [newA], fun C q => by cases aty <;> cases q⟩
theorem gw_anewarr {C : String} {idx : Nat} {x : Int32} {rest : List Value} (q : Nat) (hp : pc + 3 = q) (hd : decode B.2.1 pc = .ok (.anewarray idx, 3)) (hst : st = .int x :: rest) (w : (Jvm.Cond.classLink B.1.cls idx C).before a0 Z = true) (w2 : (Jvm.Cond.arrayOver (.object C)).before a0 Z = true) (hx : ¬ x < 0) (cap : Nat) (hcap : x.toNatClampNeg ≤ cap) (hbb : cap * 8 ≤ 536870912)
    (hk : k + 1 ≤ B.2.2.2.2.cells) (hn : n + cap ≤ B.2.2.2.2.slots) (H : ∀ a, GoW J B Z a0 h0 Q (k + 1) (n + cap) (ds ++ [ar a (.object C) (List.replicate x.toNatClampNeg .null)]) q ls (.ref a :: rest)) : GoW J B Z a0 h0 Q k n ds pc ls st := by
  subst hp hst
  intro p l e kz s0 s rl m args below meth c T locs hs as Cc X N M R
  obtain ⟨T', h', cA, X', e', E', A', O', st'⟩ := newR X Cc.1 Cc.2.1 Cc.2.2.2.2.1 w w2 rfl (g := mkF m pc ls (.int x :: rest)) rfl (hb Cc.2.2.1 hd) rfl hx hcap hbb hk hn
  refine (H T.heap.size p l e kz s0 s rl m args below meth c T' locs hs as Cc X' N ?_ (by rw [e']; exact R.add E')).back st'
  rw [e']
  exact M.add E' ⟨_, A', by simp [newA, defaultValue], fun C' q => by cases q; exact O'⟩
theorem gw_getG {a : Addr} {O R0 nm d : String} {v : Value} {idx : Nat} {rest : List Value} (q : Nat) (hp : pc + 3 = q) (hd : decode B.2.1 pc = .ok (.getfield idx, 3)) (hst : st = .ref a :: rest) (w : (Jvm.Cond.fieldLink B.1.cls idx R0 nm d).before a0 Z = true) (via : Via Z R0 O nm d) (hF : ∀ h, Mo Z a0 h0 ds h → Fld Z h a O nm d v)
    (H : GoW J B Z a0 h0 Q k n ds q ls (v :: rest)) : GoW J B Z a0 h0 Q k n ds pc ls st := by
  subst hp hst
  intro p l e kz s0 s rl m args below meth c T locs hs as Cc X N M R
  obtain ⟨T', X', e', st'⟩ := getF X Cc.1 Cc.2.1 Cc.2.2.2.2.1 (host := "") (Or.inl w) via rfl (hF _ M) (g := mkF m pc ls (.ref a :: rest)) rfl rfl (hb Cc.2.2.1 hd)
  exact (H p l e kz s0 s rl m args below meth c T' locs hs as Cc X' N (by rw [e']; exact M) (by rw [e']; exact R)).back st'
theorem gw_get {a : Addr} {C O nm d : String} {fs : Fds} {v : Value} {idx : Nat} {rest : List Value} (i j q : Nat) (hp : pc + 3 = q) (hd : decode B.2.1 pc = .ok (.getfield idx, 3)) (hst : st = .ref a :: rest) (hi : ds[i]? = some (ob a C fs)) (hj : fs[j]? = some (O, nm, d, v)) (w : (Jvm.Cond.fieldLink B.1.cls idx O nm d).before a0 Z = true)
    (H : GoW J B Z a0 h0 Q k n ds q ls (v :: rest)) : GoW J B Z a0 h0 Q k n ds pc ls st :=
  gw_getG q hp hd hst w Via.refl (fun h M => ((M.at hi).2.1 _ (List.mem_of_getElem? hj)).1) H
theorem gw_put {a : Addr} {C O nm d : String} {fs : Fds} {v old : Value} {idx kk : Nat} {rest : List Value} {ty : FieldType} (i j q : Nat) (hp : pc + 3 = q) (hd : decode B.2.1 pc = .ok (.putfield idx, 3)) (hst : st = v :: .ref a :: rest) (hi : ds[i]? = some (ob a C fs)) (hj : fs[j]? = some (O, nm, d, old))
    (w : (Jvm.Cond.fieldLink B.1.cls idx O nm d).before a0 Z = true) (L : (Jvm.Cond.lays C O nm d).before a0 Z = true ∨ ((Jvm.Cond.laysFinal C O nm d).before a0 Z = true ∧ B.1.cls = O ∧ B.1.name = "<init>")) (wi : (Jvm.Cond.instantiable C kk).before a0 Z = true)
    (hty : parseFieldDescriptor d = some ty) (hnn : narrow ty v = v) (hf : fits ty v = true) (H : GoW J B Z a0 h0 Q k n (ds.set i (ob a C (fs.set j (O, nm, d, v)))) q ls rest) : GoW J B Z a0 h0 Q k n ds pc ls st := by
  subst hp hst
  intro p l e kz s0 s rl m args below meth c T locs hs as Cc X N M R
  have HA := M.at hi
  obtain ⟨F, La, -⟩ := HA.2.1 _ (List.mem_of_getElem? hj)
  have hown : s.vm.findClass B.1.cls = some m.cls := Cc.2.2.2.2.1
  obtain ⟨T', h', X', e', W', st'⟩ := putF X Cc.1 Cc.2.1 hown (host := "") (Or.inl w) Via.refl rfl F HA.1 (L.imp id fun q => ⟨q.1, q.2.1, Cc.2.2.2.2.2.2.2.trans q.2.2⟩) wi hty hnn hf (g := mkF m pc ls (v :: .ref a :: rest)) rfl rfl (hb Cc.2.2.1 hd)
  refine (H p l e kz s0 s rl m args below meth c T' _ hs as Cc X' (Fr.snoc X' N (M.new hi id)) ?_ (by rw [e']; exact R.wr hi W')).back st'
  rw [e']
  refine M.wr hi id W' ⟨HA.1.wr W', fun f hf => ?_, ?_⟩
  · obtain ⟨j', hj'⟩ := List.getElem?_of_mem hf
    by_cases e : j = j'
    · subst e
      rw [List.getElem?_set_self (List.getElem?_eq_some_iff.mp hj).1] at hj'
      cases hj'; exact ⟨F.same W', La, ty, hty⟩
    · rw [List.getElem?_set_ne e] at hj'
      obtain ⟨F1, L1, ty1, ht1⟩ := HA.2.1 f (List.mem_of_getElem? hj')
      refine ⟨F1.other W' (Or.inr (slot_ne L1 La (fun q => ?_) ht1 hty)), L1, ty1, ht1⟩
      have P := List.pairwise_iff_getElem.mp HA.2.2
      obtain ⟨l1, e1⟩ := List.getElem?_eq_some_iff.mp hj
      obtain ⟨l2, e2⟩ := List.getElem?_eq_some_iff.mp hj'
      rcases Nat.lt_or_gt_of_ne e with r | r
      · have z := P j j' (by simpa using l1) (by simpa using l2) r
        simp only [List.getElem_map, e1, e2] at z; exact z q.symm
      · have z := P j' j (by simpa using l2) (by simpa using l1) r
        simp only [List.getElem_map, e1, e2] at z; exact z q
  · rw [List.map_set]
    have : (fs.map (·.2.1)).set j nm = fs.map (·.2.1) := by
      apply List.ext_getElem?
      intro t
      by_cases e : j = t
      · subst e; rw [List.getElem?_set_self (by simpa using (List.getElem?_eq_some_iff.mp hj).1)]; simp [hj]
      · rw [List.getElem?_set_ne e]
    show ((fs.map (·.2.1)).set j nm).Nodup
    rw [this]; exact HA.2.2
theorem gw_getS {O nm d : String} {v : Value} {idx : Nat} (q : Nat) (hp : pc + 3 = q) (hd : decode B.2.1 pc = .ok (.getstatic idx, 3)) (w : (Jvm.Cond.fieldLink B.1.cls idx O nm d).before a0 Z = true) (F : Sta Z h0 O nm d v) (H : GoW J B Z a0 h0 Q k n ds q ls (v :: st)) : GoW J B Z a0 h0 Q k n ds pc ls st := by
  subst hp
  intro p l e kz s0 s rl m args below meth c T locs hs as Cc X N M R
  obtain ⟨T', X', e', st'⟩ := getS X Cc.1 Cc.2.1 (host := "") Cc.2.2.2.2.1 w Via.refl rfl (F.ext M.1) (g := mkF m pc ls st) rfl (hb Cc.2.2.1 hd)
  exact (H p l e kz s0 s rl m args below meth c T' locs hs as Cc X' N (by rw [e']; exact M) (by rw [e']; exact R)).back st'
theorem gw_alenG {a : Addr} {z : Int32} {ty : FieldType} {rest : List Value} (q : Nat) (hp : pc + 1 = q) (hd : decode B.2.1 pc = .ok (.arraylength, 1)) (hst : st = .ref a :: rest) (hA : ∀ h, Mo Z a0 h0 ds h → ∃ c : Cell, Arr Z h a c ty ∧ c.slots.size.toInt32 = z) (H : GoW J B Z a0 h0 Q k n ds q ls (.int z :: rest)) : GoW J B Z a0 h0 Q k n ds pc ls st := by
  subst hp hst
  refine H.step fun C X M t hr => ?_
  obtain ⟨cl, A, e⟩ := hA _ M
  exact X.arraylength C.1 A.1 (State.isArrayOf_alike C.2.1.alike A.2.1) (g := mkF _ pc ls (.ref a :: rest)) rfl rfl (hb C.2.2.1 hd) t (by rw [e]; exact hr)
theorem gw_alen {a : Addr} {ty : FieldType} {vs : List Value} {rest : List Value} (i q : Nat) (hp : pc + 1 = q) (hd : decode B.2.1 pc = .ok (.arraylength, 1)) (hst : st = .ref a :: rest) (hi : ds[i]? = some (ar a ty vs)) (H : GoW J B Z a0 h0 Q k n ds q ls (.int vs.length.toInt32 :: rest)) : GoW J B Z a0 h0 Q k n ds pc ls st :=
  gw_alenG q hp hd hst (fun h M => by obtain ⟨c, A, e, -⟩ := (M.at hi).arr; exact ⟨c, A, by rw [e]; simp⟩) H
theorem gw_iaload {a : Addr} {j : Int32} {v : Value} {rest : List Value} (q : Nat) (hp : pc + 1 = q) (hd : decode B.2.1 pc = .ok (.iaload, 1)) (hst : st = .int j :: .ref a :: rest) (hA : ∀ h, Mo Z a0 h0 ds h → El Z h a .int j v) (H : GoW J B Z a0 h0 Q k n ds q ls (v :: rest)) : GoW J B Z a0 h0 Q k n ds pc ls st := by
  subst hp hst
  refine H.step fun C X M t hr => ?_
  obtain ⟨cl, A, h1, h2⟩ := hA _ M
  exact X.iaload C.1 A.1 (State.isArrayOf_alike C.2.1.alike A.2.1) A.2.2 h1 h2 (g := mkF _ pc ls (.int j :: .ref a :: rest)) rfl rfl (hb C.2.2.1 hd) t hr
theorem gw_laload {a : Addr} {j : Int32} {v : Value} {rest : List Value} (q : Nat) (hp : pc + 1 = q) (hd : decode B.2.1 pc = .ok (.laload, 1)) (hst : st = .int j :: .ref a :: rest) (hA : ∀ h, Mo Z a0 h0 ds h → El Z h a .long j v) (H : GoW J B Z a0 h0 Q k n ds q ls (v :: rest)) : GoW J B Z a0 h0 Q k n ds pc ls st := by
  subst hp hst
  refine H.step fun C X M t hr => ?_
  obtain ⟨cl, A, h1, h2⟩ := hA _ M
  exact X.laload C.1 A.1 (State.isArrayOf_alike C.2.1.alike A.2.1) A.2.2 h1 h2 (g := mkF _ pc ls (.int j :: .ref a :: rest)) rfl rfl (hb C.2.2.1 hd) t hr
theorem gw_caload {a : Addr} {j : Int32} {v : Value} {rest : List Value} (q : Nat) (hp : pc + 1 = q) (hd : decode B.2.1 pc = .ok (.caload, 1)) (hst : st = .int j :: .ref a :: rest) (hA : ∀ h, Mo Z a0 h0 ds h → El Z h a .char j v) (H : GoW J B Z a0 h0 Q k n ds q ls (v :: rest)) : GoW J B Z a0 h0 Q k n ds pc ls st := by
  subst hp hst
  refine H.step fun C X M t hr => ?_
  obtain ⟨cl, A, h1, h2⟩ := hA _ M
  exact X.caload C.1 A.1 (State.isArrayOf_alike C.2.1.alike A.2.1) A.2.2 h1 h2 (g := mkF _ pc ls (.int j :: .ref a :: rest)) rfl rfl (hb C.2.2.1 hd) t hr
theorem gw_saload {a : Addr} {j : Int32} {v : Value} {rest : List Value} (q : Nat) (hp : pc + 1 = q) (hd : decode B.2.1 pc = .ok (.saload, 1)) (hst : st = .int j :: .ref a :: rest) (hA : ∀ h, Mo Z a0 h0 ds h → El Z h a .short j v) (H : GoW J B Z a0 h0 Q k n ds q ls (v :: rest)) : GoW J B Z a0 h0 Q k n ds pc ls st := by
  subst hp hst
  refine H.step fun C X M t hr => ?_
  obtain ⟨cl, A, h1, h2⟩ := hA _ M
  exact X.saload C.1 A.1 (State.isArrayOf_alike C.2.1.alike A.2.1) A.2.2 h1 h2 (g := mkF _ pc ls (.int j :: .ref a :: rest)) rfl rfl (hb C.2.2.1 hd) t hr
theorem gw_baload {a : Addr} {j : Int32} {v : Value} {rest : List Value} (q : Nat) (hp : pc + 1 = q) (hd : decode B.2.1 pc = .ok (.baload, 1)) (hst : st = .int j :: .ref a :: rest) (hA : ∀ h, Mo Z a0 h0 ds h → El Z h a .byte j v) (H : GoW J B Z a0 h0 Q k n ds q ls (v :: rest)) : GoW J B Z a0 h0 Q k n ds pc ls st := by
  subst hp hst
  refine H.step fun C X M t hr => ?_
  obtain ⟨cl, A, h1, h2⟩ := hA _ M
  exact X.baloadBytes C.1 A.1 (State.isArrayOf_alike C.2.1.alike A.2.1) A.2.2 h1 h2 (g := mkF _ pc ls (.int j :: .ref a :: rest)) rfl rfl (hb C.2.2.1 hd) t hr
theorem gw_zaload {a : Addr} {j : Int32} {v : Value} {rest : List Value} (q : Nat) (hp : pc + 1 = q) (hd : decode B.2.1 pc = .ok (.baload, 1)) (hst : st = .int j :: .ref a :: rest) (hA : ∀ h, Mo Z a0 h0 ds h → El Z h a .boolean j v) (H : GoW J B Z a0 h0 Q k n ds q ls (v :: rest)) : GoW J B Z a0 h0 Q k n ds pc ls st := by
  subst hp hst
  refine H.step fun C X M t hr => ?_
  obtain ⟨cl, A, h1, h2⟩ := hA _ M
  exact X.baloadBooleans C.1 A.1 (State.isArrayOf_alike C.2.1.alike A.2.1) A.2.2 h1 h2 (g := mkF _ pc ls (.int j :: .ref a :: rest)) rfl rfl (hb C.2.2.1 hd) t hr
theorem gw_aaload {a : Addr} {j : Int32} {v : Value} {ty : FieldType} {rest : List Value} (q : Nat) (hp : pc + 1 = q) (hd : decode B.2.1 pc = .ok (.aaload, 1)) (hst : st = .int j :: .ref a :: rest) (hty : ty.isReference = true) (hA : ∀ h, Mo Z a0 h0 ds h → El Z h a ty j v) (H : GoW J B Z a0 h0 Q k n ds q ls (v :: rest)) : GoW J B Z a0 h0 Q k n ds pc ls st := by
  subst hp hst
  refine H.step fun C X M t hr => ?_
  obtain ⟨cl, A, h1, h2⟩ := hA _ M
  exact X.aaload C.1 A.1 (State.isArrayOf_alike C.2.1.alike A.2.1) hty A.2.2 h1 h2 (g := mkF _ pc ls (.int j :: .ref a :: rest)) rfl rfl (hb C.2.2.1 hd) t hr
theorem gw_iastore {a : Addr} {j : Int32} {x : Int32} {vs rest : List Value} (i q : Nat) (hp : pc + 1 = q) (hd : decode B.2.1 pc = .ok (.iastore, 1)) (hst : st = .int x :: .int j :: .ref a :: rest) (hi : ds[i]? = some (ar a .int vs)) (hj : ¬ j < 0) (hl : j.toNatClampNeg < vs.length) (H : GoW J B Z a0 h0 Q k n (ds.set i (ar a .int (vs.set j.toNatClampNeg (.int x)))) q ls rest) : GoW J B Z a0 h0 Q k n ds pc ls st := by
  subst hp hst
  intro p l e kz s0 s rl m args below meth c T locs hs as Cc X N M R
  obtain ⟨cl, A, ee, O⟩ := (M.at hi).arr
  obtain ⟨T', h', X', e', W', st'⟩ := stI X Cc.1 Cc.2.1 rfl A (inb ee hj (List.getElem?_eq_getElem hl)).1 (g := mkF m pc ls (.int x :: .int j :: .ref a :: rest)) rfl rfl (hb Cc.2.2.1 hd)
  refine (H p l e kz s0 s rl m args below meth c T' _ hs as Cc X' (Fr.snoc X' N (M.new hi (nemp hl))) ?_ (by rw [e']; exact R.wr hi W')).back st'
  rw [e']; exact M.wr hi (nemp hl) W' (Holds.set A ee O W')
theorem gw_lastore {a : Addr} {j : Int32} {x : Int64} {vs rest : List Value} (i q : Nat) (hp : pc + 1 = q) (hd : decode B.2.1 pc = .ok (.lastore, 1)) (hst : st = .long x :: .int j :: .ref a :: rest) (hi : ds[i]? = some (ar a .long vs)) (hj : ¬ j < 0) (hl : j.toNatClampNeg < vs.length) (H : GoW J B Z a0 h0 Q k n (ds.set i (ar a .long (vs.set j.toNatClampNeg (.long x)))) q ls rest) : GoW J B Z a0 h0 Q k n ds pc ls st := by
  subst hp hst
  intro p l e kz s0 s rl m args below meth c T locs hs as Cc X N M R
  obtain ⟨cl, A, ee, O⟩ := (M.at hi).arr
  obtain ⟨T', h', X', e', W', st'⟩ := stJ X Cc.1 Cc.2.1 rfl A (inb ee hj (List.getElem?_eq_getElem hl)).1 (g := mkF m pc ls (.long x :: .int j :: .ref a :: rest)) rfl rfl (hb Cc.2.2.1 hd)
  refine (H p l e kz s0 s rl m args below meth c T' _ hs as Cc X' (Fr.snoc X' N (M.new hi (nemp hl))) ?_ (by rw [e']; exact R.wr hi W')).back st'
  rw [e']; exact M.wr hi (nemp hl) W' (Holds.set A ee O W')
theorem gw_castore {a : Addr} {j : Int32} {x : Int32} {vs rest : List Value} (i q : Nat) (hp : pc + 1 = q) (hd : decode B.2.1 pc = .ok (.castore, 1)) (hst : st = .int x :: .int j :: .ref a :: rest) (hi : ds[i]? = some (ar a .char vs)) (hj : ¬ j < 0) (hl : j.toNatClampNeg < vs.length) (H : GoW J B Z a0 h0 Q k n (ds.set i (ar a .char (vs.set j.toNatClampNeg (.int (nar .char x))))) q ls rest) : GoW J B Z a0 h0 Q k n ds pc ls st := by
  subst hp hst
  intro p l e kz s0 s rl m args below meth c T locs hs as Cc X N M R
  obtain ⟨cl, A, ee, O⟩ := (M.at hi).arr
  obtain ⟨T', h', X', e', W', st'⟩ := stC X Cc.1 Cc.2.1 rfl A (inb ee hj (List.getElem?_eq_getElem hl)).1 (g := mkF m pc ls (.int x :: .int j :: .ref a :: rest)) rfl rfl (hb Cc.2.2.1 hd)
  refine (H p l e kz s0 s rl m args below meth c T' _ hs as Cc X' (Fr.snoc X' N (M.new hi (nemp hl))) ?_ (by rw [e']; exact R.wr hi W')).back st'
  rw [e']; exact M.wr hi (nemp hl) W' (Holds.set A ee O W')
theorem gw_sastore {a : Addr} {j : Int32} {x : Int32} {vs rest : List Value} (i q : Nat) (hp : pc + 1 = q) (hd : decode B.2.1 pc = .ok (.sastore, 1)) (hst : st = .int x :: .int j :: .ref a :: rest) (hi : ds[i]? = some (ar a .short vs)) (hj : ¬ j < 0) (hl : j.toNatClampNeg < vs.length) (H : GoW J B Z a0 h0 Q k n (ds.set i (ar a .short (vs.set j.toNatClampNeg (.int (nar .short x))))) q ls rest) : GoW J B Z a0 h0 Q k n ds pc ls st := by
  subst hp hst
  intro p l e kz s0 s rl m args below meth c T locs hs as Cc X N M R
  obtain ⟨cl, A, ee, O⟩ := (M.at hi).arr
  obtain ⟨T', h', X', e', W', st'⟩ := stS X Cc.1 Cc.2.1 rfl A (inb ee hj (List.getElem?_eq_getElem hl)).1 (g := mkF m pc ls (.int x :: .int j :: .ref a :: rest)) rfl rfl (hb Cc.2.2.1 hd)
  refine (H p l e kz s0 s rl m args below meth c T' _ hs as Cc X' (Fr.snoc X' N (M.new hi (nemp hl))) ?_ (by rw [e']; exact R.wr hi W')).back st'
  rw [e']; exact M.wr hi (nemp hl) W' (Holds.set A ee O W')
theorem gw_bastore {a : Addr} {j : Int32} {x : Int32} {vs rest : List Value} (i q : Nat) (hp : pc + 1 = q) (hd : decode B.2.1 pc = .ok (.bastore, 1)) (hst : st = .int x :: .int j :: .ref a :: rest) (hi : ds[i]? = some (ar a .byte vs)) (hj : ¬ j < 0) (hl : j.toNatClampNeg < vs.length) (H : GoW J B Z a0 h0 Q k n (ds.set i (ar a .byte (vs.set j.toNatClampNeg (.int (nar .byte x))))) q ls rest) : GoW J B Z a0 h0 Q k n ds pc ls st := by
  subst hp hst
  intro p l e kz s0 s rl m args below meth c T locs hs as Cc X N M R
  obtain ⟨cl, A, ee, O⟩ := (M.at hi).arr
  obtain ⟨T', h', X', e', W', st'⟩ := stB X Cc.1 Cc.2.1 rfl A (inb ee hj (List.getElem?_eq_getElem hl)).1 (g := mkF m pc ls (.int x :: .int j :: .ref a :: rest)) rfl rfl (hb Cc.2.2.1 hd)
  refine (H p l e kz s0 s rl m args below meth c T' _ hs as Cc X' (Fr.snoc X' N (M.new hi (nemp hl))) ?_ (by rw [e']; exact R.wr hi W')).back st'
  rw [e']; exact M.wr hi (nemp hl) W' (Holds.set A ee O W')
theorem gw_zastore {a : Addr} {j : Int32} {x : Int32} {vs rest : List Value} (i q : Nat) (hp : pc + 1 = q) (hd : decode B.2.1 pc = .ok (.bastore, 1)) (hst : st = .int x :: .int j :: .ref a :: rest) (hi : ds[i]? = some (ar a .boolean vs)) (hj : ¬ j < 0) (hl : j.toNatClampNeg < vs.length) (H : GoW J B Z a0 h0 Q k n (ds.set i (ar a .boolean (vs.set j.toNatClampNeg (.int (nar .boolean x))))) q ls rest) : GoW J B Z a0 h0 Q k n ds pc ls st := by
  subst hp hst
  intro p l e kz s0 s rl m args below meth c T locs hs as Cc X N M R
  obtain ⟨cl, A, ee, O⟩ := (M.at hi).arr
  obtain ⟨T', h', X', e', W', st'⟩ := stZ X Cc.1 Cc.2.1 rfl A (inb ee hj (List.getElem?_eq_getElem hl)).1 (g := mkF m pc ls (.int x :: .int j :: .ref a :: rest)) rfl rfl (hb Cc.2.2.1 hd)
  refine (H p l e kz s0 s rl m args below meth c T' _ hs as Cc X' (Fr.snoc X' N (M.new hi (nemp hl))) ?_ (by rw [e']; exact R.wr hi W')).back st'
  rw [e']; exact M.wr hi (nemp hl) W' (Holds.set A ee O W')
theorem gw_aastore {a : Addr} {j : Int32} {v : Value} {ty : FieldType} {vs rest : List Value} (i q : Nat) (hp : pc + 1 = q) (hd : decode B.2.1 pc = .ok (.aastore, 1)) (hst : st = v :: .int j :: .ref a :: rest) (hi : ds[i]? = some (ar a ty vs)) (hty : ty.isReference = true) (hj : ¬ j < 0) (hl : j.toNatClampNeg < vs.length) (hS : ∀ h, Mo Z a0 h0 ds h → Sto Z h a v) (H : GoW J B Z a0 h0 Q k n (ds.set i (ar a ty (vs.set j.toNatClampNeg v))) q ls rest) : GoW J B Z a0 h0 Q k n ds pc ls st := by
  subst hp hst
  intro p l e kz s0 s rl m args below meth c T locs hs as Cc X N M R
  obtain ⟨cl, A, ee, O⟩ := (M.at hi).arr
  obtain ⟨T', h', X', e', W', st'⟩ := stR X Cc.1 Cc.2.1 rfl A (inb ee hj (List.getElem?_eq_getElem hl)).1 hty (hS _ M) (g := mkF m pc ls (v :: .int j :: .ref a :: rest)) rfl rfl (hb Cc.2.2.1 hd)
  refine (H p l e kz s0 s rl m args below meth c T' _ hs as Cc X' (Fr.snoc X' N (M.new hi (nemp hl))) ?_ (by rw [e']; exact R.wr hi W')).back st'
  rw [e']; exact M.wr hi (nemp hl) W' (Holds.set A ee O W')
theorem gw_iloadN {j : Fin 4} {v : Int32} (q : Nat) (hp : pc + 1 = q) (hd : decode B.2.1 pc = .ok (.iload_n j, 1)) (hl : ls[j.val]? = some (.val (.int v))) (H : GoW J B Z a0 h0 Q k n ds q ls (.int v :: st)) : GoW J B Z a0 h0 Q k n ds pc ls st := by
  subst hp; exact H.step fun C X _ t hr => XS.iloadN X.here C.1 rfl (hb C.2.2.1 hd) hl hr
theorem gw_iload {j : Nat} {v : Int32} (q : Nat) (hp : pc + 2 = q) (hd : decode B.2.1 pc = .ok (.iload j, 2)) (hl : ls[j]? = some (.val (.int v))) (H : GoW J B Z a0 h0 Q k n ds q ls (.int v :: st)) : GoW J B Z a0 h0 Q k n ds pc ls st := by
  subst hp; exact H.step fun C X _ t hr => XS.iload X.here C.1 rfl (hb C.2.2.1 hd) hl hr
theorem gw_istoreN {j : Fin 4} {x : Int32} {rest : List Value} (l' : Array Slot) (q : Nat) (hp : pc + 1 = q) (hd : decode B.2.1 pc = .ok (.istore_n j, 1)) (hst : st = .int x :: rest) (hl : storeLocals ls j.val (.int x) = some l') (H : GoW J B Z a0 h0 Q k n ds q l' (rest)) : GoW J B Z a0 h0 Q k n ds pc ls st := by
  subst hp hst; exact H.step fun C X _ t hr => XS.istoreN X.here C.1 rfl (hb C.2.2.1 hd) rfl hl hr
theorem gw_istore {j : Nat} {x : Int32} {rest : List Value} (l' : Array Slot) (q : Nat) (hp : pc + 2 = q) (hd : decode B.2.1 pc = .ok (.istore j, 2)) (hst : st = .int x :: rest) (hl : storeLocals ls j (.int x) = some l') (H : GoW J B Z a0 h0 Q k n ds q l' (rest)) : GoW J B Z a0 h0 Q k n ds pc ls st := by
  subst hp hst; exact H.step fun C X _ t hr => XS.istore X.here C.1 rfl (hb C.2.2.1 hd) rfl hl hr
theorem gw_lloadN {j : Fin 4} {v : Int64} (q : Nat) (hp : pc + 1 = q) (hd : decode B.2.1 pc = .ok (.lload_n j, 1)) (hl : ls[j.val]? = some (.val (.long v))) (H : GoW J B Z a0 h0 Q k n ds q ls (.long v :: st)) : GoW J B Z a0 h0 Q k n ds pc ls st := by
  subst hp; exact H.step fun C X _ t hr => XS.lloadN X.here C.1 rfl (hb C.2.2.1 hd) hl hr
theorem gw_lload {j : Nat} {v : Int64} (q : Nat) (hp : pc + 2 = q) (hd : decode B.2.1 pc = .ok (.lload j, 2)) (hl : ls[j]? = some (.val (.long v))) (H : GoW J B Z a0 h0 Q k n ds q ls (.long v :: st)) : GoW J B Z a0 h0 Q k n ds pc ls st := by
  subst hp; exact H.step fun C X _ t hr => XS.lload X.here C.1 rfl (hb C.2.2.1 hd) hl hr
theorem gw_lstoreN {j : Fin 4} {x : Int64} {rest : List Value} (l' : Array Slot) (q : Nat) (hp : pc + 1 = q) (hd : decode B.2.1 pc = .ok (.lstore_n j, 1)) (hst : st = .long x :: rest) (hl : storeLocals ls j.val (.long x) = some l') (H : GoW J B Z a0 h0 Q k n ds q l' (rest)) : GoW J B Z a0 h0 Q k n ds pc ls st := by
  subst hp hst; exact H.step fun C X _ t hr => XS.lstoreN X.here C.1 rfl (hb C.2.2.1 hd) rfl hl hr
theorem gw_lstore {j : Nat} {x : Int64} {rest : List Value} (l' : Array Slot) (q : Nat) (hp : pc + 2 = q) (hd : decode B.2.1 pc = .ok (.lstore j, 2)) (hst : st = .long x :: rest) (hl : storeLocals ls j (.long x) = some l') (H : GoW J B Z a0 h0 Q k n ds q l' (rest)) : GoW J B Z a0 h0 Q k n ds pc ls st := by
  subst hp hst; exact H.step fun C X _ t hr => XS.lstore X.here C.1 rfl (hb C.2.2.1 hd) rfl hl hr
theorem gw_aloadN {j : Fin 4} {v : Value} (q : Nat) (hp : pc + 1 = q) (hd : decode B.2.1 pc = .ok (.aload_n j, 1)) (hl : ls[j.val]? = some (.val v)) (hv : v.isRef = true) (H : GoW J B Z a0 h0 Q k n ds q ls (v :: st)) : GoW J B Z a0 h0 Q k n ds pc ls st := by
  subst hp; exact H.step fun C X _ t hr => XS.aloadN X.here C.1 rfl (hb C.2.2.1 hd) hl hv hr
theorem gw_aload {j : Nat} {v : Value} (q : Nat) (hp : pc + 2 = q) (hd : decode B.2.1 pc = .ok (.aload j, 2)) (hl : ls[j]? = some (.val v)) (hv : v.isRef = true) (H : GoW J B Z a0 h0 Q k n ds q ls (v :: st)) : GoW J B Z a0 h0 Q k n ds pc ls st := by
  subst hp; exact H.step fun C X _ t hr => XS.aload X.here C.1 rfl (hb C.2.2.1 hd) hl hv hr
theorem gw_astoreN {j : Fin 4} {x : Value} {rest : List Value} (l' : Array Slot) (q : Nat) (hp : pc + 1 = q) (hd : decode B.2.1 pc = .ok (.astore_n j, 1)) (hst : st = x :: rest) (hv : x.isRef = true) (hl : storeLocals ls j.val x = some l') (H : GoW J B Z a0 h0 Q k n ds q l' (rest)) : GoW J B Z a0 h0 Q k n ds pc ls st := by
  subst hp hst; exact H.step fun C X _ t hr => XS.astoreN X.here C.1 rfl (hb C.2.2.1 hd) rfl hv hl hr
theorem gw_astore {j : Nat} {x : Value} {rest : List Value} (l' : Array Slot) (q : Nat) (hp : pc + 2 = q) (hd : decode B.2.1 pc = .ok (.astore j, 2)) (hst : st = x :: rest) (hv : x.isRef = true) (hl : storeLocals ls j x = some l') (H : GoW J B Z a0 h0 Q k n ds q l' (rest)) : GoW J B Z a0 h0 Q k n ds pc ls st := by
  subst hp hst; exact H.step fun C X _ t hr => XS.astore X.here C.1 rfl (hb C.2.2.1 hd) rfl hv hl hr
theorem gw_iconst {i : Int} (v : Int32) (q : Nat) (hp : pc + 1 = q) (hd : decode B.2.1 pc = .ok (.iconst i, 1)) (hv : Int32.ofInt i = v) (H : GoW J B Z a0 h0 Q k n ds q ls (.int v :: st)) : GoW J B Z a0 h0 Q k n ds pc ls st := by
  subst hp hv; exact H.step fun C X _ t hr => XS.iconst X.here C.1 rfl (hb C.2.2.1 hd) hr
theorem gw_bipush {i : Int} (v : Int32) (q : Nat) (hp : pc + 2 = q) (hd : decode B.2.1 pc = .ok (.bipush i, 2)) (hv : (Int8.ofInt i).toInt32 = v) (H : GoW J B Z a0 h0 Q k n ds q ls (.int v :: st)) : GoW J B Z a0 h0 Q k n ds pc ls st := by
  subst hp hv; exact H.step fun C X _ t hr => XS.bipush X.here C.1 rfl (hb C.2.2.1 hd) hr
theorem gw_sipush {i : Int} (v : Int32) (q : Nat) (hp : pc + 3 = q) (hd : decode B.2.1 pc = .ok (.sipush i, 3)) (hv : (Int16.ofInt i).toInt32 = v) (H : GoW J B Z a0 h0 Q k n ds q ls (.int v :: st)) : GoW J B Z a0 h0 Q k n ds pc ls st := by
  subst hp hv; exact H.step fun C X _ t hr => XS.sipush X.here C.1 rfl (hb C.2.2.1 hd) hr
theorem gw_lconst {i : Fin 2} (v : Int64) (q : Nat) (hp : pc + 1 = q) (hd : decode B.2.1 pc = .ok (.lconst i, 1)) (hv : Int64.ofNat i.val = v) (H : GoW J B Z a0 h0 Q k n ds q ls (.long v :: st)) : GoW J B Z a0 h0 Q k n ds pc ls st := by
  subst hp hv; exact H.step fun C X _ t hr => XS.lconst X.here C.1 rfl (hb C.2.2.1 hd) hr
theorem gw_aconstNull  (q : Nat) (hp : pc + 1 = q) (hd : decode B.2.1 pc = .ok (.aconst_null, 1)) (H : GoW J B Z a0 h0 Q k n ds q ls (.null :: st)) : GoW J B Z a0 h0 Q k n ds pc ls st := by
  subst hp; exact H.step fun C X _ t hr => XS.aconstNull X.here C.1 rfl (hb C.2.2.1 hd)  hr
theorem gw_iadd {x y : Int32} {rest : List Value} (q : Nat) (hp : pc + 1 = q) (hd : decode B.2.1 pc = .ok (.iadd, 1)) (hst : st = .int y :: .int x :: rest) (H : GoW J B Z a0 h0 Q k n ds q ls (.int (x + y) :: rest)) : GoW J B Z a0 h0 Q k n ds pc ls st := by
  subst hp hst; exact H.step fun C X _ t hr => XS.iadd X.here C.1 rfl (hb C.2.2.1 hd) rfl hr
theorem gw_isub {x y : Int32} {rest : List Value} (q : Nat) (hp : pc + 1 = q) (hd : decode B.2.1 pc = .ok (.isub, 1)) (hst : st = .int y :: .int x :: rest) (H : GoW J B Z a0 h0 Q k n ds q ls (.int (x - y) :: rest)) : GoW J B Z a0 h0 Q k n ds pc ls st := by
  subst hp hst; exact H.step fun C X _ t hr => XS.isub X.here C.1 rfl (hb C.2.2.1 hd) rfl hr
theorem gw_imul {x y : Int32} {rest : List Value} (q : Nat) (hp : pc + 1 = q) (hd : decode B.2.1 pc = .ok (.imul, 1)) (hst : st = .int y :: .int x :: rest) (H : GoW J B Z a0 h0 Q k n ds q ls (.int (x * y) :: rest)) : GoW J B Z a0 h0 Q k n ds pc ls st := by
  subst hp hst; exact H.step fun C X _ t hr => XS.imul X.here C.1 rfl (hb C.2.2.1 hd) rfl hr
theorem gw_iand {x y : Int32} {rest : List Value} (q : Nat) (hp : pc + 1 = q) (hd : decode B.2.1 pc = .ok (.iand, 1)) (hst : st = .int y :: .int x :: rest) (H : GoW J B Z a0 h0 Q k n ds q ls (.int (x &&& y) :: rest)) : GoW J B Z a0 h0 Q k n ds pc ls st := by
  subst hp hst; exact H.step fun C X _ t hr => XS.iand X.here C.1 rfl (hb C.2.2.1 hd) rfl hr
theorem gw_ior {x y : Int32} {rest : List Value} (q : Nat) (hp : pc + 1 = q) (hd : decode B.2.1 pc = .ok (.ior, 1)) (hst : st = .int y :: .int x :: rest) (H : GoW J B Z a0 h0 Q k n ds q ls (.int (x ||| y) :: rest)) : GoW J B Z a0 h0 Q k n ds pc ls st := by
  subst hp hst; exact H.step fun C X _ t hr => XS.ior X.here C.1 rfl (hb C.2.2.1 hd) rfl hr
theorem gw_ixor {x y : Int32} {rest : List Value} (q : Nat) (hp : pc + 1 = q) (hd : decode B.2.1 pc = .ok (.ixor, 1)) (hst : st = .int y :: .int x :: rest) (H : GoW J B Z a0 h0 Q k n ds q ls (.int (x ^^^ y) :: rest)) : GoW J B Z a0 h0 Q k n ds pc ls st := by
  subst hp hst; exact H.step fun C X _ t hr => XS.ixor X.here C.1 rfl (hb C.2.2.1 hd) rfl hr
theorem gw_ishl {x y : Int32} {rest : List Value} (q : Nat) (hp : pc + 1 = q) (hd : decode B.2.1 pc = .ok (.ishl, 1)) (hst : st = .int y :: .int x :: rest) (H : GoW J B Z a0 h0 Q k n ds q ls (.int (x <<< (y &&& 31)) :: rest)) : GoW J B Z a0 h0 Q k n ds pc ls st := by
  subst hp hst; exact H.step fun C X _ t hr => XS.ishl X.here C.1 rfl (hb C.2.2.1 hd) rfl hr
theorem gw_ishr {x y : Int32} {rest : List Value} (q : Nat) (hp : pc + 1 = q) (hd : decode B.2.1 pc = .ok (.ishr, 1)) (hst : st = .int y :: .int x :: rest) (H : GoW J B Z a0 h0 Q k n ds q ls (.int (x >>> (y &&& 31)) :: rest)) : GoW J B Z a0 h0 Q k n ds pc ls st := by
  subst hp hst; exact H.step fun C X _ t hr => XS.ishr X.here C.1 rfl (hb C.2.2.1 hd) rfl hr
theorem gw_iushr {x y : Int32} {rest : List Value} (q : Nat) (hp : pc + 1 = q) (hd : decode B.2.1 pc = .ok (.iushr, 1)) (hst : st = .int y :: .int x :: rest) (H : GoW J B Z a0 h0 Q k n ds q ls (.int ((x.toUInt32 >>> (y &&& 31).toUInt32).toInt32) :: rest)) : GoW J B Z a0 h0 Q k n ds pc ls st := by
  subst hp hst; exact H.step fun C X _ t hr => XS.iushr X.here C.1 rfl (hb C.2.2.1 hd) rfl hr
theorem gw_ladd {x y : Int64} {rest : List Value} (q : Nat) (hp : pc + 1 = q) (hd : decode B.2.1 pc = .ok (.ladd, 1)) (hst : st = .long y :: .long x :: rest) (H : GoW J B Z a0 h0 Q k n ds q ls (.long (x + y) :: rest)) : GoW J B Z a0 h0 Q k n ds pc ls st := by
  subst hp hst; exact H.step fun C X _ t hr => XS.ladd X.here C.1 rfl (hb C.2.2.1 hd) rfl hr
theorem gw_lsub {x y : Int64} {rest : List Value} (q : Nat) (hp : pc + 1 = q) (hd : decode B.2.1 pc = .ok (.lsub, 1)) (hst : st = .long y :: .long x :: rest) (H : GoW J B Z a0 h0 Q k n ds q ls (.long (x - y) :: rest)) : GoW J B Z a0 h0 Q k n ds pc ls st := by
  subst hp hst; exact H.step fun C X _ t hr => XS.lsub X.here C.1 rfl (hb C.2.2.1 hd) rfl hr
theorem gw_lmul {x y : Int64} {rest : List Value} (q : Nat) (hp : pc + 1 = q) (hd : decode B.2.1 pc = .ok (.lmul, 1)) (hst : st = .long y :: .long x :: rest) (H : GoW J B Z a0 h0 Q k n ds q ls (.long (x * y) :: rest)) : GoW J B Z a0 h0 Q k n ds pc ls st := by
  subst hp hst; exact H.step fun C X _ t hr => XS.lmul X.here C.1 rfl (hb C.2.2.1 hd) rfl hr
theorem gw_land {x y : Int64} {rest : List Value} (q : Nat) (hp : pc + 1 = q) (hd : decode B.2.1 pc = .ok (.land, 1)) (hst : st = .long y :: .long x :: rest) (H : GoW J B Z a0 h0 Q k n ds q ls (.long (x &&& y) :: rest)) : GoW J B Z a0 h0 Q k n ds pc ls st := by
  subst hp hst; exact H.step fun C X _ t hr => XS.land X.here C.1 rfl (hb C.2.2.1 hd) rfl hr
theorem gw_lor {x y : Int64} {rest : List Value} (q : Nat) (hp : pc + 1 = q) (hd : decode B.2.1 pc = .ok (.lor, 1)) (hst : st = .long y :: .long x :: rest) (H : GoW J B Z a0 h0 Q k n ds q ls (.long (x ||| y) :: rest)) : GoW J B Z a0 h0 Q k n ds pc ls st := by
  subst hp hst; exact H.step fun C X _ t hr => XS.lor X.here C.1 rfl (hb C.2.2.1 hd) rfl hr
theorem gw_lxor {x y : Int64} {rest : List Value} (q : Nat) (hp : pc + 1 = q) (hd : decode B.2.1 pc = .ok (.lxor, 1)) (hst : st = .long y :: .long x :: rest) (H : GoW J B Z a0 h0 Q k n ds q ls (.long (x ^^^ y) :: rest)) : GoW J B Z a0 h0 Q k n ds pc ls st := by
  subst hp hst; exact H.step fun C X _ t hr => XS.lxor X.here C.1 rfl (hb C.2.2.1 hd) rfl hr
theorem gw_lshl {x : Int64} {y : Int32} {rest : List Value} (q : Nat) (hp : pc + 1 = q) (hd : decode B.2.1 pc = .ok (.lshl, 1)) (hst : st = .int y :: .long x :: rest) (H : GoW J B Z a0 h0 Q k n ds q ls (.long (x <<< (y &&& 0x3f).toInt64) :: rest)) : GoW J B Z a0 h0 Q k n ds pc ls st := by
  subst hp hst; exact H.step fun C X _ t hr => XS.lshl X.here C.1 rfl (hb C.2.2.1 hd) rfl hr
theorem gw_lshr {x : Int64} {y : Int32} {rest : List Value} (q : Nat) (hp : pc + 1 = q) (hd : decode B.2.1 pc = .ok (.lshr, 1)) (hst : st = .int y :: .long x :: rest) (H : GoW J B Z a0 h0 Q k n ds q ls (.long (x >>> (y &&& 0x3f).toInt64) :: rest)) : GoW J B Z a0 h0 Q k n ds pc ls st := by
  subst hp hst; exact H.step fun C X _ t hr => XS.lshr X.here C.1 rfl (hb C.2.2.1 hd) rfl hr
theorem gw_lushr {x : Int64} {y : Int32} {rest : List Value} (q : Nat) (hp : pc + 1 = q) (hd : decode B.2.1 pc = .ok (.lushr, 1)) (hst : st = .int y :: .long x :: rest) (H : GoW J B Z a0 h0 Q k n ds q ls (.long ((x.toUInt64 >>> (y &&& 0x3f).toInt64.toUInt64).toInt64) :: rest)) : GoW J B Z a0 h0 Q k n ds pc ls st := by
  subst hp hst; exact H.step fun C X _ t hr => XS.lushr X.here C.1 rfl (hb C.2.2.1 hd) rfl hr
theorem gw_idiv {x y : Int32} {rest : List Value} (q : Nat) (hp : pc + 1 = q) (hd : decode B.2.1 pc = .ok (.idiv, 1)) (hst : st = .int y :: .int x :: rest) (hy : y ≠ 0) (H : GoW J B Z a0 h0 Q k n ds q ls (.int (x / y) :: rest)) : GoW J B Z a0 h0 Q k n ds pc ls st := by
  subst hp hst; exact H.step fun C X _ t hr => XS.idiv X.here C.1 rfl (hb C.2.2.1 hd) rfl hy hr
theorem gw_ldiv {x y : Int64} {rest : List Value} (q : Nat) (hp : pc + 1 = q) (hd : decode B.2.1 pc = .ok (.ldiv, 1)) (hst : st = .long y :: .long x :: rest) (hy : y ≠ 0) (H : GoW J B Z a0 h0 Q k n ds q ls (.long (x / y) :: rest)) : GoW J B Z a0 h0 Q k n ds pc ls st := by
  subst hp hst; exact H.step fun C X _ t hr => XS.ldiv X.here C.1 rfl (hb C.2.2.1 hd) rfl hy hr
theorem gw_irem {x y : Int32} {rest : List Value} (q : Nat) (hp : pc + 1 = q) (hd : decode B.2.1 pc = .ok (.irem, 1)) (hst : st = .int y :: .int x :: rest) (hy : y ≠ 0) (H : GoW J B Z a0 h0 Q k n ds q ls (.int (x % y) :: rest)) : GoW J B Z a0 h0 Q k n ds pc ls st := by
  subst hp hst; exact H.step fun C X _ t hr => iremM X C.1 rfl (hb C.2.2.1 hd) rfl hy hr
theorem gw_lrem {x y : Int64} {rest : List Value} (q : Nat) (hp : pc + 1 = q) (hd : decode B.2.1 pc = .ok (.lrem, 1)) (hst : st = .long y :: .long x :: rest) (hy : y ≠ 0) (H : GoW J B Z a0 h0 Q k n ds q ls (.long (x % y) :: rest)) : GoW J B Z a0 h0 Q k n ds pc ls st := by
  subst hp hst; exact H.step fun C X _ t hr => XS.lrem X.here C.1 rfl (hb C.2.2.1 hd) rfl hy (by rw [lrem_mod]; exact hr)
theorem gw_ineg {x : Int32} {rest : List Value} (q : Nat) (hp : pc + 1 = q) (hd : decode B.2.1 pc = .ok (.ineg, 1)) (hst : st = .int x :: rest) (H : GoW J B Z a0 h0 Q k n ds q ls (.int (-x) :: rest)) : GoW J B Z a0 h0 Q k n ds pc ls st := by
  subst hp hst; exact H.step fun C X _ t hr => XS.ineg X.here C.1 rfl (hb C.2.2.1 hd) rfl hr
theorem gw_lneg {x : Int64} {rest : List Value} (q : Nat) (hp : pc + 1 = q) (hd : decode B.2.1 pc = .ok (.lneg, 1)) (hst : st = .long x :: rest) (H : GoW J B Z a0 h0 Q k n ds q ls (.long (-x) :: rest)) : GoW J B Z a0 h0 Q k n ds pc ls st := by
  subst hp hst; exact H.step fun C X _ t hr => XS.lneg X.here C.1 rfl (hb C.2.2.1 hd) rfl hr
theorem gw_i2l {x : Int32} {rest : List Value} (q : Nat) (hp : pc + 1 = q) (hd : decode B.2.1 pc = .ok (.i2l, 1)) (hst : st = .int x :: rest) (H : GoW J B Z a0 h0 Q k n ds q ls (.long x.toInt64 :: rest)) : GoW J B Z a0 h0 Q k n ds pc ls st := by
  subst hp hst; exact H.step fun C X _ t hr => XS.i2l X.here C.1 rfl (hb C.2.2.1 hd) rfl hr
theorem gw_l2i {x : Int64} {rest : List Value} (q : Nat) (hp : pc + 1 = q) (hd : decode B.2.1 pc = .ok (.l2i, 1)) (hst : st = .long x :: rest) (H : GoW J B Z a0 h0 Q k n ds q ls (.int x.toInt32 :: rest)) : GoW J B Z a0 h0 Q k n ds pc ls st := by
  subst hp hst; exact H.step fun C X _ t hr => XS.l2i X.here C.1 rfl (hb C.2.2.1 hd) rfl hr
theorem gw_i2b {x : Int32} {rest : List Value} (q : Nat) (hp : pc + 1 = q) (hd : decode B.2.1 pc = .ok (.i2b, 1)) (hst : st = .int x :: rest) (H : GoW J B Z a0 h0 Q k n ds q ls (.int x.toInt8.toInt32 :: rest)) : GoW J B Z a0 h0 Q k n ds pc ls st := by
  subst hp hst; exact H.step fun C X _ t hr => XS.i2b X.here C.1 rfl (hb C.2.2.1 hd) rfl hr
theorem gw_i2c {x : Int32} {rest : List Value} (q : Nat) (hp : pc + 1 = q) (hd : decode B.2.1 pc = .ok (.i2c, 1)) (hst : st = .int x :: rest) (H : GoW J B Z a0 h0 Q k n ds q ls (.int x.toUInt32.toUInt16.toUInt32.toInt32 :: rest)) : GoW J B Z a0 h0 Q k n ds pc ls st := by
  subst hp hst; exact H.step fun C X _ t hr => XS.i2c X.here C.1 rfl (hb C.2.2.1 hd) rfl hr
theorem gw_i2s {x : Int32} {rest : List Value} (q : Nat) (hp : pc + 1 = q) (hd : decode B.2.1 pc = .ok (.i2s, 1)) (hst : st = .int x :: rest) (H : GoW J B Z a0 h0 Q k n ds q ls (.int x.toInt16.toInt32 :: rest)) : GoW J B Z a0 h0 Q k n ds pc ls st := by
  subst hp hst; exact H.step fun C X _ t hr => XS.i2s X.here C.1 rfl (hb C.2.2.1 hd) rfl hr
theorem gw_lcmp {x y : Int64} {rest : List Value} (q : Nat) (hp : pc + 1 = q) (hd : decode B.2.1 pc = .ok (.lcmp, 1)) (hst : st = .long y :: .long x :: rest) (H : GoW J B Z a0 h0 Q k n ds q ls (.int (lcmpW x y) :: rest)) : GoW J B Z a0 h0 Q k n ds pc ls st := by
  subst hp hst; exact H.step fun C X _ t hr => XS.lcmp X.here C.1 rfl (hb C.2.2.1 hd) rfl hr
theorem gw_iinc {j : Nat} {cst : Int} {x : Int32} (l' : Array Slot) (q : Nat) (hp : pc + 3 = q) (hd : decode B.2.1 pc = .ok (.iinc j cst, 3)) (hl : ls[j]? = some (.val (.int x))) (hl' : storeLocals ls j (.int (x + Int32.ofInt cst)) = some l') (H : GoW J B Z a0 h0 Q k n ds q l' (st)) : GoW J B Z a0 h0 Q k n ds pc ls st := by
  subst hp; exact H.step fun C X _ t hr => XS.iinc X.here C.1 rfl (hb C.2.2.1 hd) hl hl' hr
theorem gw_dup {x : Value} {rest : List Value} (q : Nat) (hp : pc + 1 = q) (hd : decode B.2.1 pc = .ok (.dup, 1)) (hst : st = x :: rest) (hc : x.category = 1) (H : GoW J B Z a0 h0 Q k n ds q ls (x :: x :: rest)) : GoW J B Z a0 h0 Q k n ds pc ls st := by
  subst hp hst; exact H.step fun C X _ t hr => XS.dup X.here C.1 rfl (hb C.2.2.1 hd) rfl hc hr
theorem gw_pop {x : Value} {rest : List Value} (q : Nat) (hp : pc + 1 = q) (hd : decode B.2.1 pc = .ok (.pop, 1)) (hst : st = x :: rest) (hc : x.category = 1) (H : GoW J B Z a0 h0 Q k n ds q ls (rest)) : GoW J B Z a0 h0 Q k n ds pc ls st := by
  subst hp hst; exact H.step fun C X _ t hr => XS.pop X.here C.1 rfl (hb C.2.2.1 hd) rfl hc hr
theorem gw_dupX1 {x y : Value} {rest : List Value} (q : Nat) (hp : pc + 1 = q) (hd : decode B.2.1 pc = .ok (.dup_x1, 1)) (hst : st = x :: y :: rest) (hc : x.category = 1) (hc' : y.category = 1) (H : GoW J B Z a0 h0 Q k n ds q ls (x :: y :: x :: rest)) : GoW J B Z a0 h0 Q k n ds pc ls st := by
  subst hp hst; exact H.step fun C X _ t hr => XS.dupX1 X.here C.1 rfl (hb C.2.2.1 hd) rfl hc hc' hr
theorem gw_swap {x y : Value} {rest : List Value} (q : Nat) (hp : pc + 1 = q) (hd : decode B.2.1 pc = .ok (.swap, 1)) (hst : st = x :: y :: rest) (hc : x.category = 1) (hc' : y.category = 1) (H : GoW J B Z a0 h0 Q k n ds q ls (y :: x :: rest)) : GoW J B Z a0 h0 Q k n ds pc ls st := by
  subst hp hst; exact H.step fun C X _ t hr => XS.swap X.here C.1 rfl (hb C.2.2.1 hd) rfl hc hc' hr
theorem gw_dup2 {x y : Value} {rest : List Value} (q : Nat) (hp : pc + 1 = q) (hd : decode B.2.1 pc = .ok (.dup2, 1)) (hst : st = x :: y :: rest) (hc : x.category = 1) (hc' : y.category = 1) (H : GoW J B Z a0 h0 Q k n ds q ls (x :: y :: x :: y :: rest)) : GoW J B Z a0 h0 Q k n ds pc ls st := by
  subst hp hst; exact H.step fun C X _ t hr => XT.dup2 X.here C.1 rfl (hb C.2.2.1 hd) rfl hc hc' hr
theorem gw_dup2L {x : Int64} {rest : List Value} (q : Nat) (hp : pc + 1 = q) (hd : decode B.2.1 pc = .ok (.dup2, 1)) (hst : st = .long x :: rest) (H : GoW J B Z a0 h0 Q k n ds q ls (.long x :: .long x :: rest)) : GoW J B Z a0 h0 Q k n ds pc ls st := by
  subst hp hst; exact H.step fun C X _ t hr => XT.dup2L X.here C.1 rfl (hb C.2.2.1 hd) rfl hr
theorem gw_initObj {a : Addr} {idx : Nat} {rest : List Value} (q : Nat) (hp : pc + 3 = q) (hd : decode B.2.1 pc = .ok (.invokespecial idx, 3)) (hst : st = .ref a :: rest) (w1 : (Jvm.Cond.methodLink B.1.cls idx Lib.objectInit).before a0 Z = true) (w2 : (Jvm.Cond.instanceMethod Lib.objectInit).before a0 Z = true) (w3 : (Jvm.Cond.code Lib.objectInit ⟨#[0xb1]⟩ 1 none).before a0 Z = true)
    (hsz : ls.size = B.2.2.1) (hf : 1 ≤ B.2.2.2.2.frames) (hl : (rest.map fun v => v.category).sum + 12 ≤ B.2.2.2.2.locals) (H : GoW J B Z a0 h0 Q k n ds q ls rest) : GoW J B Z a0 h0 Q k n ds pc ls st := by
  subst hp hst
  intro p l e kz s0 s rl m args below meth c T locs hs as Cc X N M R
  obtain ⟨T', X', e', st'⟩ := initO X Cc.1 Cc.2.1 Cc.2.2.2.2.1 w1 w2 w3 rfl (g := mkF m pc ls (.ref a :: rest)) rfl (hsz.trans Cc.2.2.2.1.symm) rfl (hb Cc.2.2.1 hd) hf (W := (rest.map fun v => v.category).sum) (by show 2 * 0 + _ ≤ _; omega) hl
  exact (H p l e kz s0 s rl m args below meth c T' locs hs as Cc X' N (by rw [e']; exact M) (by rw [e']; exact R)).back st'
variable {y z : MethodName} {bytes : ByteArray} {maxL : Nat} {ret : Option FieldType} {rm : Room} {idx : Nat} {argsL rest : List Value} {ps : List FieldType} {Q' : Option Value → Mem → Prop}
theorem gw_callS (q : Nat) (hp : pc + 3 = q) (hd : decode B.2.1 pc = .ok (.invokestatic idx, 3)) (w1 : (Jvm.Cond.methodLink B.1.cls idx y).before a0 Z = true) (w2 : (Jvm.Cond.static y).before a0 Z = true) (w3 : (Jvm.Cond.initialized y.cls).before a0 Z = true) (w4 : (Jvm.Cond.code y bytes maxL ret).before a0 Z = true)
    (hy : y.cls ≠ "java/lang/invoke/MethodHandle" ∧ y.cls ≠ "java/lang/invoke/VarHandle") (hM : Met (y, bytes, maxL, ret, rm) Z a0 h0 argsL.toArray ds Q') (hst : st = argsL.reverse ++ rest) (hpd : parseMethodDescriptor y.desc = some ⟨ps, ret⟩) (hlen : argsL.length = ps.length)
    (hsz : ls.size = B.2.2.1) (W : Nat) (hW : (rest.map fun v => v.category).sum = W) (hf : rm.frames + 1 ≤ B.2.2.2.2.frames) (hl : W + (maxL + 11) + rm.locals ≤ B.2.2.2.2.locals) (hk : k + rm.cells ≤ B.2.2.2.2.cells) (hn : n + rm.slots ≤ B.2.2.2.2.slots)
    (H : ∀ v ds', Q' v ds' → GoW J B Z a0 h0 Q (k + rm.cells) (n + rm.slots) ds' q ls (v.toList ++ rest)) : GoW J B Z a0 h0 Q k n ds pc ls st := by
  subst hp hst
  intro p l e kz s0 s rl m args below meth c T locs hs as Cc X N M R
  have hZ := Cc.2.1
  obtain ⟨v, _, ⟨T', L', k', n'⟩, -, X', ⟨Lc, hQ, l1, y1, z1⟩, st'⟩ := Jvm.LawKit.callS X Cc.1 (y := y) Cc.2.2.2.2.1 (mvT hZ w1) (mvT hZ w2) (mvT hZ w3) (mvT hZ w4) hy (backOf (W := W) (hM l [] T.heap M) hZ w4 w3 hf hl) (g := mkF m pc ls (argsL.reverse ++ rest)) rfl (hsz.trans Cc.2.2.2.1.symm) (argsL := argsL) (rest := rest) (lenOf hpd hlen) rfl (by show 2 * 0 + _ ≤ _; omega) (hb Cc.2.2.1 hd) (fun _ _ => ⟨rfl, rfl, hk, hn⟩)
  dsimp only [Pt.U, Pt.locs, Pt.cells, Pt.slots] at X' l1 y1 z1 st' hQ
  subst l1 y1 z1
  obtain ⟨N', ds', M', R', hq⟩ := hQ
  exact (H v ds' hq p l e kz s0 s rl m args below meth c T' _ hs as Cc X' (Fr.app N N') M' (R.call R')).back st'
theorem gw_callI {a : Addr} (q : Nat) (hp : pc + 3 = q) (hd : decode B.2.1 pc = .ok (.invokespecial idx, 3)) (hin : y.name = "<init>") (w1 : (Jvm.Cond.methodLink B.1.cls idx y).before a0 Z = true) (w2 : (Jvm.Cond.instanceMethod y).before a0 Z = true) (w3 : (Jvm.Cond.initialized y.cls).before a0 Z = true) (w4 : (Jvm.Cond.code y bytes maxL none).before a0 Z = true)
    (hy : y.cls ≠ "java/lang/invoke/MethodHandle" ∧ y.cls ≠ "java/lang/invoke/VarHandle") (hM : Met (y, bytes, maxL, none, rm) Z a0 h0 (.ref a :: argsL).toArray ds Q') (hst : st = argsL.reverse ++ .ref a :: rest) (hpd : parseMethodDescriptor y.desc = some ⟨ps, ret⟩) (hlen : argsL.length = ps.length)
    (hsz : ls.size = B.2.2.1) (W : Nat) (hW : (rest.map fun v => v.category).sum = W) (hf : rm.frames + 1 ≤ B.2.2.2.2.frames) (hl : W + (maxL + 11) + rm.locals ≤ B.2.2.2.2.locals) (hk : k + rm.cells ≤ B.2.2.2.2.cells) (hn : n + rm.slots ≤ B.2.2.2.2.slots)
    (H : ∀ v ds', Q' v ds' → GoW J B Z a0 h0 Q (k + rm.cells) (n + rm.slots) ds' q ls (v.toList ++ rest)) : GoW J B Z a0 h0 Q k n ds pc ls st := by
  subst hp hst
  intro p l e kz s0 s rl m args below meth c T locs hs as Cc X N M R
  have hZ := Cc.2.1
  obtain ⟨v, _, ⟨T', L', k', n'⟩, -, X', ⟨Lc, hQ, l1, y1, z1⟩, st'⟩ := X.specialBack Cc.1 (y := y) hin Cc.2.2.2.2.1 (mvT hZ w1) (mvT hZ w2) (mvT hZ w4) hy (backOf (W := W) (hM l [] T.heap M) hZ w4 w3 hf hl) (g := mkF m pc ls (argsL.reverse ++ .ref a :: rest)) rfl (hsz.trans Cc.2.2.2.1.symm) (Steps.refl _) (a := a) (argsL := argsL) (rest := rest) (lenOf hpd hlen) rfl (by show 2 * 0 + _ ≤ _; omega) (hb Cc.2.2.1 hd) (fun _ _ => ⟨rfl, rfl, hk, hn⟩)
  dsimp only [Pt.U, Pt.locs, Pt.cells, Pt.slots] at X' l1 y1 z1 st' hQ
  subst l1 y1 z1
  obtain ⟨N', ds', M', R', hq⟩ := hQ
  exact (H v ds' hq p l e kz s0 s rl m args below meth c T' _ hs as Cc X' (Fr.app N N') M' (R.call R')).back fun t hr => st'.trans hr
theorem gw_callIR {a : Addr} (q : Nat) (hp : pc + 3 = q) (hd : decode B.2.1 pc = .ok (.invokespecial idx, 3)) (hin : y.name = "<init>") (w1 : (Jvm.Cond.methodRef B.1.cls idx y).before a0 Z = true) (w2 : (Jvm.Cond.instanceMethod y).before a0 Z = true) (w3 : (Jvm.Cond.initialized y.cls).before a0 Z = true) (w4 : (Jvm.Cond.code y bytes maxL none).before a0 Z = true)
    (hy : y.cls ≠ "java/lang/invoke/MethodHandle" ∧ y.cls ≠ "java/lang/invoke/VarHandle") (hM : Met (y, bytes, maxL, none, rm) Z a0 h0 (.ref a :: argsL).toArray ds Q') (hst : st = argsL.reverse ++ .ref a :: rest) (hpd : parseMethodDescriptor y.desc = some ⟨ps, ret⟩) (hlen : argsL.length = ps.length)
    (hsz : ls.size = B.2.2.1) (W : Nat) (hW : (rest.map fun v => v.category).sum = W) (hf : rm.frames + 1 ≤ B.2.2.2.2.frames) (hl : W + (maxL + 11) + rm.locals ≤ B.2.2.2.2.locals) (hk : k + rm.cells ≤ B.2.2.2.2.cells) (hn : n + rm.slots ≤ B.2.2.2.2.slots)
    (H : ∀ v ds', Q' v ds' → GoW J B Z a0 h0 Q (k + rm.cells) (n + rm.slots) ds' q ls (v.toList ++ rest)) : GoW J B Z a0 h0 Q k n ds pc ls st := by
  subst hp hst
  intro p l e kz s0 s rl m args below meth c T locs hs as Cc X N M R
  have hZ := Cc.2.1
  obtain ⟨v, _, ⟨T', L', k', n'⟩, -, X', ⟨Lc, hQ, l1, y1, z1⟩, st'⟩ := specialBackR X Cc.1 (y := y) hin Cc.2.2.2.2.1 (mvR hZ hy w2 w1) (mvT hZ w2) (mvT hZ w4) hy (backOf (W := W) (hM l [] T.heap M) hZ w4 w3 hf hl) (g := mkF m pc ls (argsL.reverse ++ .ref a :: rest)) rfl (hsz.trans Cc.2.2.2.1.symm) (Steps.refl _) (a := a) (argsL := argsL) (rest := rest) (lenOf hpd hlen) rfl (by show 2 * 0 + _ ≤ _; omega) (hb Cc.2.2.1 hd) (fun _ _ => ⟨rfl, rfl, hk, hn⟩)
  dsimp only [Pt.U, Pt.locs, Pt.cells, Pt.slots] at X' l1 y1 z1 st' hQ
  subst l1 y1 z1
  obtain ⟨N', ds', M', R', hq⟩ := hQ
  exact (H v ds' hq p l e kz s0 s rl m args below meth c T' _ hs as Cc X' (Fr.app N N') M' (R.call R')).back fun t hr => st'.trans hr
theorem gw_callVz {a : Addr} {C : String} (q : Nat) (hp : pc + 3 = q) (hd : decode B.2.1 pc = .ok (.invokevirtual idx, 3)) (w1 : (Jvm.Cond.methodLink B.1.cls idx y).before a0 Z = true) (w2 : (Jvm.Cond.declares y).before a0 Z = true) (w3 : (Jvm.Cond.selects C y z).before a0 Z = true) (w4 : (Jvm.Cond.instanceMethod z).before a0 Z = true) (w5 : (Jvm.Cond.initialized z.cls).before a0 Z = true) (w6 : (Jvm.Cond.code z bytes maxL ret).before a0 Z = true)
    (hnf : ∀ s : State, Z.Warmed39 s.vm → NotFace s y) (hy : y.cls ≠ "java/lang/invoke/MethodHandle" ∧ y.cls ≠ "java/lang/invoke/VarHandle") (hE : ∀ h, Mo Z a0 h0 ds h → Exa Z h a C) (hM : Met (z, bytes, maxL, ret, rm) Z a0 h0 (.ref a :: argsL).toArray ds Q') (hst : st = argsL.reverse ++ .ref a :: rest) (hpd : parseMethodDescriptor y.desc = some ⟨ps, ret⟩) (hlen : argsL.length = ps.length)
    (hsz : ls.size = B.2.2.1) (W : Nat) (hW : (rest.map fun v => v.category).sum = W) (hf : rm.frames + 1 ≤ B.2.2.2.2.frames) (hl : W + (maxL + 11) + rm.locals ≤ B.2.2.2.2.locals) (hk : k + rm.cells ≤ B.2.2.2.2.cells) (hn : n + rm.slots ≤ B.2.2.2.2.slots)
    (H : ∀ v ds', Q' v ds' → GoW J B Z a0 h0 Q (k + rm.cells) (n + rm.slots) ds' q ls (v.toList ++ rest)) : GoW J B Z a0 h0 Q k n ds pc ls st := by
  subst hp hst
  intro p l e kz s0 s rl m args below meth c T locs hs as Cc X N M R
  have hZ := Cc.2.1
  obtain ⟨cq, kq, qa, qb, qc⟩ := isOf hZ rfl (hE _ M)
  obtain ⟨v, _, ⟨T', L', k', n'⟩, -, X', ⟨Lc, hQ, l1, y1, z1⟩, st'⟩ := X.virtualBack Cc.1 (y := y) (z := z) Cc.2.2.2.2.1 (mvT hZ w1) (mvT hZ w2) (hnf _ hZ) (mvT hZ w3) (mvT hZ w4) hy (backOf (W := W) (hM l [] T.heap M) hZ w6 w5 hf hl) qa qc (g := mkF m pc ls (argsL.reverse ++ .ref a :: rest)) rfl (hsz.trans Cc.2.2.2.1.symm) (Steps.refl _) (argsL := argsL) (rest := rest) (lenOf hpd hlen) rfl (by show 2 * 0 + _ ≤ _; omega) (hb Cc.2.2.1 hd) (fun _ _ => ⟨rfl, rfl, hk, hn⟩)
  dsimp only [Pt.U, Pt.locs, Pt.cells, Pt.slots] at X' l1 y1 z1 st' hQ
  subst l1 y1 z1
  obtain ⟨N', ds', M', R', hq⟩ := hQ
  exact (H v ds' hq p l e kz s0 s rl m args below meth c T' _ hs as Cc X' (Fr.app N N') M' (R.call R')).back fun t hr => st'.trans hr
theorem gw_callV {a : Addr} {C : String} (q : Nat) (hp : pc + 3 = q) (hd : decode B.2.1 pc = .ok (.invokevirtual idx, 3)) (w1 : (Jvm.Cond.methodLink B.1.cls idx y).before a0 Z = true) (w2 : (Jvm.Cond.declares y).before a0 Z = true) (w3 : (Jvm.Cond.selects C y y).before a0 Z = true) (w4 : (Jvm.Cond.instanceMethod y).before a0 Z = true) (w5 : (Jvm.Cond.initialized y.cls).before a0 Z = true) (w6 : (Jvm.Cond.code y bytes maxL ret).before a0 Z = true)
    (hy : y.cls ≠ "java/lang/invoke/MethodHandle" ∧ y.cls ≠ "java/lang/invoke/VarHandle") (hE : ∀ h, Mo Z a0 h0 ds h → Exa Z h a C) (hM : Met (y, bytes, maxL, ret, rm) Z a0 h0 (.ref a :: argsL).toArray ds Q') (hst : st = argsL.reverse ++ .ref a :: rest) (hpd : parseMethodDescriptor y.desc = some ⟨ps, ret⟩) (hlen : argsL.length = ps.length)
    (hsz : ls.size = B.2.2.1) (W : Nat) (hW : (rest.map fun v => v.category).sum = W) (hf : rm.frames + 1 ≤ B.2.2.2.2.frames) (hl : W + (maxL + 11) + rm.locals ≤ B.2.2.2.2.locals) (hk : k + rm.cells ≤ B.2.2.2.2.cells) (hn : n + rm.slots ≤ B.2.2.2.2.slots)
    (H : ∀ v ds', Q' v ds' → GoW J B Z a0 h0 Q (k + rm.cells) (n + rm.slots) ds' q ls (v.toList ++ rest)) : GoW J B Z a0 h0 Q k n ds pc ls st :=
  gw_callVz q hp hd w1 w2 w3 w4 w5 w6 (fun s hZ => notFace_of_selects (args := #[]) (mvT hZ w3)) hy hE hM hst hpd hlen hsz W hW hf hl hk hn H
theorem gw_callVU {a : Addr} {C owner : String} (q : Nat) (hp : pc + 3 = q) (hd : decode B.2.1 pc = .ok (.invokevirtual idx, 3)) (w1 : (Jvm.Cond.methodLink B.1.cls idx y).before a0 Z = true) (w0 : (Jvm.Cond.sameMethod y.cls owner y.name y.desc).before a0 Z = true) (w2 : (Jvm.Cond.declares ⟨owner, y.name, y.desc⟩).before a0 Z = true) (w3 : (Jvm.Cond.selects C y z).before a0 Z = true) (w4 : (Jvm.Cond.instanceMethod z).before a0 Z = true) (w5 : (Jvm.Cond.initialized z.cls).before a0 Z = true) (w6 : (Jvm.Cond.code z bytes maxL ret).before a0 Z = true)
    (hy : owner ≠ "java/lang/invoke/MethodHandle" ∧ owner ≠ "java/lang/invoke/VarHandle") (hE : ∀ h, Mo Z a0 h0 ds h → Exa Z h a C) (hM : Met (z, bytes, maxL, ret, rm) Z a0 h0 (.ref a :: argsL).toArray ds Q') (hst : st = argsL.reverse ++ .ref a :: rest) (hpd : parseMethodDescriptor y.desc = some ⟨ps, ret⟩) (hlen : argsL.length = ps.length)
    (hsz : ls.size = B.2.2.1) (W : Nat) (hW : (rest.map fun v => v.category).sum = W) (hf : rm.frames + 1 ≤ B.2.2.2.2.frames) (hl : W + (maxL + 11) + rm.locals ≤ B.2.2.2.2.locals) (hk : k + rm.cells ≤ B.2.2.2.2.cells) (hn : n + rm.slots ≤ B.2.2.2.2.slots)
    (H : ∀ v ds', Q' v ds' → GoW J B Z a0 h0 Q (k + rm.cells) (n + rm.slots) ds' q ls (v.toList ++ rest)) : GoW J B Z a0 h0 Q k n ds pc ls st := by
  subst hp hst
  intro p l e kz s0 s rl m args below meth c T locs hs as Cc X N M R
  have hZ := Cc.2.1
  obtain ⟨cq, kq, qa, qb, qc⟩ := isOf hZ rfl (hE _ M)
  obtain ⟨v, _, ⟨T', L', k', n'⟩, -, X', ⟨Lc, hQ, l1, y1, z1⟩, st'⟩ := X.virtualBackUp Cc.1 (x := y) (y := z) Cc.2.2.2.2.1 (mvT hZ w1) (mvT hZ w0) (mvT hZ w2) hy (mvT hZ w3) (mvT hZ w4) (backOf (W := W) (hM l [] T.heap M) hZ w6 w5 hf hl) qa qc (g := mkF m pc ls (argsL.reverse ++ .ref a :: rest)) rfl (hsz.trans Cc.2.2.2.1.symm) (Steps.refl _) (argsL := argsL) (rest := rest) (lenOf hpd hlen) rfl (by show 2 * 0 + _ ≤ _; omega) (hb Cc.2.2.1 hd) (fun _ _ => ⟨rfl, rfl, hk, hn⟩)
  dsimp only [Pt.U, Pt.locs, Pt.cells, Pt.slots] at X' l1 y1 z1 st' hQ
  subst l1 y1 z1
  obtain ⟨N', ds', M', R', hq⟩ := hQ
  exact (H v ds' hq p l e kz s0 s rl m args below meth c T' _ hs as Cc X' (Fr.app N N') M' (R.call R')).back fun t hr => st'.trans hr
theorem gw_callP {a : Addr} {C host : String} {kk : Nat} (q : Nat) (hp : pc + 3 = q) (hd : decode B.2.1 pc = .ok (.invokevirtual idx, 3)) (w1 : (Jvm.Cond.methodLink B.1.cls idx y).before a0 Z = true ∨ (Jvm.Cond.methodLinkNest B.1.cls idx y host).before a0 Z = true) (w2 : (Jvm.Cond.instanceMethod y).before a0 Z = true) (w3 : (Jvm.Cond.privateMethod y).before a0 Z = true) (wi : (Jvm.Cond.instantiable y.cls kk).before a0 Z = true) (w5 : (Jvm.Cond.initialized y.cls).before a0 Z = true) (w6 : (Jvm.Cond.code y bytes maxL ret).before a0 Z = true)
    (hy : y.cls ≠ "java/lang/invoke/MethodHandle" ∧ y.cls ≠ "java/lang/invoke/VarHandle") (hE : ∀ h, Mo Z a0 h0 ds h → Exa Z h a C) (hM : Met (y, bytes, maxL, ret, rm) Z a0 h0 (.ref a :: argsL).toArray ds Q') (hst : st = argsL.reverse ++ .ref a :: rest) (hpd : parseMethodDescriptor y.desc = some ⟨ps, ret⟩) (hlen : argsL.length = ps.length)
    (hsz : ls.size = B.2.2.1) (W : Nat) (hW : (rest.map fun v => v.category).sum = W) (hf : rm.frames + 1 ≤ B.2.2.2.2.frames) (hl : W + (maxL + 11) + rm.locals ≤ B.2.2.2.2.locals) (hk : k + rm.cells ≤ B.2.2.2.2.cells) (hn : n + rm.slots ≤ B.2.2.2.2.slots)
    (H : ∀ v ds', Q' v ds' → GoW J B Z a0 h0 Q (k + rm.cells) (n + rm.slots) ds' q ls (v.toList ++ rest)) : GoW J B Z a0 h0 Q k n ds pc ls st := by
  subst hp hst
  intro p l e kz s0 s rl m args below meth c T locs hs as Cc X N M R
  have hZ := Cc.2.1
  obtain ⟨cell, hcell, hobj⟩ := (hE _ M).cell
  obtain ⟨mk, methM, hnamed, hmethM, hstM, habM⟩ := Cond.instanceMethod_spec (mvT (args := args) hZ w2)
  obtain ⟨methM', cM, hmethM', -, -, -, -, -, -, hsigM⟩ := Cond.code_spec hnamed (mvT (args := args) hZ w6)
  cases hmethM.symm.trans hmethM'
  have hpriv := Cond.privateMethod_at (mvP hZ w3 (args := args))
  have hselP := selectMethod_private (p := e.platform) (c := cell.cls) hmethM (hpriv mk methM hnamed hmethM)
  obtain ⟨cP, kP, f1, hkP, -, hni, -⟩ := Cond.instantiable_spec (mvT (args := args) hZ wi)
  cases f1.symm.trans (findClass_of_methodNamed hnamed)
  have hni' : kP.isInterface = false := by cases hq : kP.isInterface with
    | false => rfl
    | true => rw [hq] at hni; simp at hni
  have hlen' := lenOf hpd hlen _ hsigM
  obtain ⟨vm₁, X₁, hstep₁⟩ : ∃ vm', Stand p l e B.2.2.2.2 s m args below meth c (T.setVm vm') locs k n ∧
      ∀ target, (∀ acts, Steps p.tables e below (doInvoke e ((T.setVm vm').setTop { (mkF m pc ls (argsL.reverse ++ .ref a :: rest)) with stack := rest }) acts mk (.ref a :: argsL).toArray).1 target) → Steps p.tables e below (T.setTop (mkF m pc ls (argsL.reverse ++ .ref a :: rest))) target := by
    rcases w1 with w1 | w1
    · exact X.invokevirtual Cc.1 Cc.2.2.2.2.1 (mvT hZ w1) hnamed hmethM hstM hkP hni' hy hcell hobj hselP hmethM habM hkP hni' rfl hlen' rfl (hb Cc.2.2.1 hd)
    · exact X.invokevirtualNest Cc.1 Cc.2.2.2.2.1 (Cond.methodLinkNest_wide hZ w1 :) hnamed hmethM hstM hkP hni' hy hcell hobj hselP hmethM habM hkP hni' rfl hlen' rfl (hb Cc.2.2.1 hd)
  have hW₁ : s.WarmedH vm₁ := X₁.warmed
  obtain ⟨v, ⟨T', L', k', n'⟩, X', ⟨Lc, hQ, l1, y1, z1⟩, hsteps⟩ := backOf (len := 3) (W := W) (hM l [] T.heap M) hZ w6 w5 hf hl m meth c ⟨T.setVm vm₁, locs, k, n⟩ { (mkF m pc ls (argsL.reverse ++ .ref a :: rest)) with stack := rest } (.invokevirtual idx) mk (.ref a :: argsL).toArray X₁ rfl (hsz.trans Cc.2.2.2.1.symm) (hb Cc.2.2.1 hd) (by show 2 * 0 + (rest.map fun v => v.category).sum ≤ _; omega) (X₁.named hnamed) ⟨rfl, rfl, hk, hn⟩
  dsimp only [Pt.U, Pt.locs, Pt.cells, Pt.slots] at X' l1 y1 z1 hsteps hQ
  subst l1 y1 z1
  obtain ⟨N', ds', M', R', hq⟩ := hQ
  exact (H v ds' hq p l e kz s0 s rl m args below meth c T' _ hs as Cc X' (Fr.app N N') M' (R.call R')).back fun t hr => (hstep₁ _ fun acts => by rw [doInvoke_state]; exact Steps.refl _).trans (hsteps.trans hr)
theorem gw_callF {a : Addr} {C : String} {cnt : Nat} (q : Nat) (hp : pc + 5 = q) (hd : decode B.2.1 pc = .ok (.invokeinterface idx cnt, 5)) (w1 : (Jvm.Cond.methodLink B.1.cls idx y).before a0 Z = true) (w2 : (Jvm.Cond.declares y).before a0 Z = true) (wf : (Jvm.Cond.interfaceMethod y.cls y.cls y.name y.desc).before a0 Z = true) (tf : ((Jvm.Cond.interfaceMethod y.cls y.cls y.name y.desc).onTables && (Jvm.Cond.interfaceMethod y.cls y.cls y.name y.desc).keepsFace) = true) (w3 : (Jvm.Cond.selects C y z).before a0 Z = true) (w4 : (Jvm.Cond.instanceMethod z).before a0 Z = true) (wp : (Jvm.Cond.publicMethod z).before a0 Z = true) (wu : (Jvm.Cond.unhidden C y.name y.desc).before a0 Z = true) (wc : (Jvm.Cond.castable C y.cls).before a0 Z = true) (w5 : (Jvm.Cond.initialized z.cls).before a0 Z = true) (w6 : (Jvm.Cond.code z bytes maxL ret).before a0 Z = true)
    (hy : y.cls ≠ "java/lang/invoke/MethodHandle" ∧ y.cls ≠ "java/lang/invoke/VarHandle") (hE : ∀ h, Mo Z a0 h0 ds h → Exa Z h a C) (hM : Met (z, bytes, maxL, ret, rm) Z a0 h0 (.ref a :: argsL).toArray ds Q') (hst : st = argsL.reverse ++ .ref a :: rest) (hpd : parseMethodDescriptor y.desc = some ⟨ps, ret⟩) (hlen : argsL.length = ps.length)
    (hsz : ls.size = B.2.2.1) (W : Nat) (hW : (rest.map fun v => v.category).sum = W) (hf : rm.frames + 1 ≤ B.2.2.2.2.frames) (hl : W + (maxL + 11) + rm.locals ≤ B.2.2.2.2.locals) (hk : k + rm.cells ≤ B.2.2.2.2.cells) (hn : n + rm.slots ≤ B.2.2.2.2.slots)
    (H : ∀ v ds', Q' v ds' → GoW J B Z a0 h0 Q (k + rm.cells) (n + rm.slots) ds' q ls (v.toList ++ rest)) : GoW J B Z a0 h0 Q k n ds pc ls st := by
  subst hp hst
  intro p l e kz s0 s rl m args below meth c T locs hs as Cc X N M R
  have hZ := Cc.2.1
  obtain ⟨cq, kq, qa, qb, qc⟩ := isOf hZ rfl (hE _ M)
  obtain ⟨v, _, ⟨T', L', k', n'⟩, -, X', ⟨Lc, hQ, l1, y1, z1⟩, st'⟩ := X.interfaceBack Cc.1 (xi := y) (y := z) Cc.2.2.2.2.1 (mvT hZ w1) (mvT hZ w2) (mvT hZ wf (hd := tf)) (mvT hZ w3) (mvT hZ w4) (mvT hZ wp) (mvT hZ wu) (mvT hZ wc) hy (backOf (W := W) (hM l [] T.heap M) hZ w6 w5 hf hl) qa qb qc (g := mkF m pc ls (argsL.reverse ++ .ref a :: rest)) rfl (hsz.trans Cc.2.2.2.1.symm) (Steps.refl _) (argsL := argsL) (rest := rest) (lenOf hpd hlen) rfl (by show 2 * 0 + _ ≤ _; omega) (hb Cc.2.2.1 hd) (fun _ _ => ⟨rfl, rfl, hk, hn⟩)
  dsimp only [Pt.U, Pt.locs, Pt.cells, Pt.slots] at X' l1 y1 z1 st' hQ
  subst l1 y1 z1
  obtain ⟨N', ds', M', R', hq⟩ := hQ
  exact (H v ds' hq p l e kz s0 s rl m args below meth c T' _ hs as Cc X' (Fr.app N N') M' (R.call R')).back fun t hr => st'.trans hr
theorem gw_cast {a : Addr} {K : String} (q : Nat) (hp : pc + 3 = q) (hd : decode B.2.1 pc = .ok (.checkcast idx, 3)) (hst : st = .ref a :: rest) (w : (Jvm.Cond.classLink B.1.cls idx K).before a0 Z = true) (hI : ∀ h, Mo Z a0 h0 ds h → Ins Z h a K true) (H : GoW J B Z a0 h0 Q k n ds q ls st) : GoW J B Z a0 h0 Q k n ds pc ls st := by
  subst hp hst
  intro p l e kz s0 s rl m args below meth c T locs hs as Cc X N M R
  obtain ⟨T', X', e', st'⟩ := castY X Cc.1 Cc.2.1 Cc.2.2.2.2.1 w rfl (hI _ M) (g := mkF m pc ls (.ref a :: rest)) rfl rfl (hb Cc.2.2.1 hd)
  exact (H p l e kz s0 s rl m args below meth c T' locs hs as Cc X' N (by rw [e']; exact M) (by rw [e']; exact R)).back st'
theorem gw_instY {a : Addr} {K : String} (q : Nat) (hp : pc + 3 = q) (hd : decode B.2.1 pc = .ok (.instanceof idx, 3)) (hst : st = .ref a :: rest) (w : (Jvm.Cond.classLink B.1.cls idx K).before a0 Z = true) (hI : ∀ h, Mo Z a0 h0 ds h → Ins Z h a K true) (H : GoW J B Z a0 h0 Q k n ds q ls (.int 1 :: rest)) : GoW J B Z a0 h0 Q k n ds pc ls st := by
  subst hp hst
  intro p l e kz s0 s rl m args below meth c T locs hs as Cc X N M R
  obtain ⟨T', X', e', st'⟩ := instY X Cc.1 Cc.2.1 Cc.2.2.2.2.1 w rfl (hI _ M) (g := mkF m pc ls (.ref a :: rest)) rfl rfl (hb Cc.2.2.1 hd)
  exact (H p l e kz s0 s rl m args below meth c T' locs hs as Cc X' N (by rw [e']; exact M) (by rw [e']; exact R)).back st'
theorem gw_getN {a : Addr} {C O nm d host : String} {fs : Fds} {v : Value} (i j q : Nat) (hp : pc + 3 = q) (hd : decode B.2.1 pc = .ok (.getfield idx, 3)) (hst : st = .ref a :: rest) (hi : ds[i]? = some (ob a C fs)) (hj : fs[j]? = some (O, nm, d, v)) (w : (Jvm.Cond.fieldLinkNest B.1.cls idx O nm d host).before a0 Z = true)
    (H : GoW J B Z a0 h0 Q k n ds q ls (v :: rest)) : GoW J B Z a0 h0 Q k n ds pc ls st := by
  subst hp hst
  intro p l e kz s0 s rl m args below meth c T locs hs as Cc X N M R
  obtain ⟨T', X', e', st'⟩ := getF X Cc.1 Cc.2.1 Cc.2.2.2.2.1 (host := host) (Or.inr w) Via.refl rfl ((M.at hi).2.1 _ (List.mem_of_getElem? hj)).1 (g := mkF m pc ls (.ref a :: rest)) rfl rfl (hb Cc.2.2.1 hd)
  exact (H p l e kz s0 s rl m args below meth c T' locs hs as Cc X' N (by rw [e']; exact M) (by rw [e']; exact R)).back st'
end CoreW

section WideCalls
variable {B : Bdy} {Z : State} {a0 : Array Value} {h0 : Heap} {Q : Option Value → Mem → Prop} {k n : Nat} {ds : Mem} {pc : Nat} {ls : Array Slot} {st : List Value} {J : Vm → Prop}
variable {y z : MethodName} {bytes : ByteArray} {maxL : Nat} {ret : Option FieldType} {rm : Room} {idx : Nat} {argsL rest : List Value} {ps : List FieldType} {Q' : Option Value → Mem → Prop}
/-- what J must bear: the tables warmed, nothing interned -/
def Keeps (Z : State) (J : Vm → Prop) : Prop := ∀ (s : State) (vm₁ : Vm), Z.Warmed39 s.vm → s.WarmedH vm₁ → J s.vm → J vm₁
theorem backOfJ {l : Launch} {R : Room} {p : Program} {e : Env} {below : List Frame} {s : State} {args : Array Value} {h : Heap} {len W : Nat} {as' : Array Value} {Qh : Option Value → Heap → List Loc → Prop} (KJ : Keeps Z J)
    (hM : MetFree l y (head1 [Jvm.Cond.code y bytes maxL ret] rm) (fun a U => a = as' ∧ Z.Warmed39 U.vm ∧ U.heap = h ∧ J U.vm) (fun _ _ _ _ _ => True) (fun _ U o U' => ∃ v L, o = .returned v ∧ Qh v U'.heap L ∧ ReturnedEndW U o U' L rm.cells rm.slots))
    (hZ : Z.Warmed39 s.vm) (hJ : J s.vm) (wc : (Jvm.Cond.code y bytes maxL ret).before a0 Z = true) (wz : (Jvm.Cond.initialized y.cls).before a0 Z = true) (hf : rm.frames + 1 ≤ R.frames) (hl : W + (maxL + 11) + rm.locals ≤ R.locals) :
    BackS l R p e below s args y len W (fun A a => a = as' ∧ A.U.heap = h ∧ A.cells + rm.cells ≤ R.cells ∧ A.slots + rm.slots ≤ R.slots)
      (fun A _ v B => ∃ L, Qh v B.U.heap L ∧ B.locs = A.locs ++ L ∧ B.cells = A.cells + rm.cells ∧ B.slots = A.slots + rm.slots) :=
  BackS.of_freeW (bytes := bytes) (maxL := maxL) (ret := ret) (E := fun _ _ o t L k n => k = rm.cells ∧ n = rm.slots ∧ ∃ v, o = .returned v ∧ Qh v t.heap L) hM hf hl
    (fun m meth c A a Y hp => have hU : Z.Warmed39 A.U.vm := wtrans hZ Y.warmed
      ⟨by show (Jvm.Cond.and _ .tt).before a A.U = true; rw [Jvm.Cond.before_and, mv hU wc]; rfl, mv hU wc, mv hU wz, hp.2.2.1, hp.2.2.2⟩)
    (fun m meth c A a g mk Y hp => ⟨hp.1, wtrans hZ Y.warmed, hp.2.1, KJ s _ hZ Y.warmed hJ⟩) (fun _ _ _ _ _ _ _ _ _ => trivial)
    (fun _ _ _ _ ⟨v, L, h1, h2, h3⟩ => ⟨L, _, _, h3, rfl, rfl, v, h1, h2⟩)
    (fun m meth c A a g mk v t L k n Y hp _ _ ⟨e1, e2, v', e3, e4⟩ => by cases e3; subst e1 e2; exact ⟨L, e4, rfl, rfl, rfl⟩)
/-- behind a wide call: the walk goes on over the new tables -/
theorem wideOn {J' : Vm → Prop} {p : Program} {l : Launch} {e : Env} {kz : Nat} {s0 s : State} {m : MethodId} {args : Array Value} {below : List Frame} {meth : Method} {c : Code} {T U : State} {locs : List Loc} {hs : Heap} {as : List Addr} {u : State} {ds' : Mem} {k' n' : Nat}
    (H : GoW J' B Z a0 h0 Q k' n' ds' pc ls st) (hJ' : J' U.vm) (rl : RelJ J s0 s kz) (Cc : Cx B Z p s m meth c) (R : TrW kz hs as ds T.heap) (X : Stand p l e B.2.2.2.2 (s.setVm U.vm) m args below meth c U locs k' n') (hS : s.Since U.vm U.heap.size) (hg : T.heap.size ≤ U.heap.size)
    (N : Fr h0.size locs) (M : Mo Z a0 h0 ds' U.heap) (R' : Tr hs as ds' U.heap) (st' : ∀ t, Steps p.tables e below (U.setTop (mkF m pc ls st)) t → Steps p.tables e below u t) : EndsW B Z a0 h0 hs as Q p e below s0 u := by
  obtain ⟨-, vm0, k0, rfl, hS0, hk0⟩ := rl
  have hS2 : s0.Since U.vm U.heap.size := hS0.trans hS (Nat.le_trans hk0 (Nat.le_trans R.1 hg))
  have hZ2 : Z.Warmed39 U.vm := State.Warmed39.trans (t := s0.setVm vm0) Cc.2.1 hS.1
  have hf : (s0.setVm U.vm).vm.findClass B.1.cls = some m.cls := by
    show U.vm.findClass _ = _
    rw [hS.1.alike.findClass]; exact Cc.2.2.2.2.1
  exact (H p l e U.heap.size s0 (s0.setVm U.vm) ⟨hJ', U.vm, _, rfl, hS2, Nat.le_refl _⟩ m args below meth c U locs hs as ⟨Cc.1, hZ2, Cc.2.2.1, Cc.2.2.2.1, hf, Cc.2.2.2.2.2⟩ X N M ⟨Nat.le_refl _, R'⟩).back st'
theorem gw_wcallI {a : Addr} (KJ : Keeps Z J) (q : Nat) (hp : pc + 3 = q) (hd : decode B.2.1 pc = .ok (.invokespecial idx, 3)) (hin : y.name = "<init>") (w1 : (Jvm.Cond.methodLink B.1.cls idx y).before a0 Z = true) (w2 : (Jvm.Cond.instanceMethod y).before a0 Z = true) (w3 : (Jvm.Cond.initialized y.cls).before a0 Z = true) (w4 : (Jvm.Cond.code y bytes maxL none).before a0 Z = true)
    (hy : y.cls ≠ "java/lang/invoke/MethodHandle" ∧ y.cls ≠ "java/lang/invoke/VarHandle") (hM : MetW J (y, bytes, maxL, none, rm) Z a0 h0 (.ref a :: argsL).toArray ds Q') (hst : st = argsL.reverse ++ .ref a :: rest) (hpd : parseMethodDescriptor y.desc = some ⟨ps, ret⟩) (hlen : argsL.length = ps.length)
    (hsz : ls.size = B.2.2.1) (W : Nat) (hW : (rest.map fun v => v.category).sum = W) (hf : rm.frames + 1 ≤ B.2.2.2.2.frames) (hl : W + (maxL + 11) + rm.locals ≤ B.2.2.2.2.locals) (hk : k + rm.cells ≤ B.2.2.2.2.cells) (hn : n + rm.slots ≤ B.2.2.2.2.slots)
    (H : ∀ v ds', Q' v ds' → GoW (fun _ => True) B Z a0 h0 Q (k + rm.cells) (n + rm.slots) ds' q ls (v.toList ++ rest)) : GoW J B Z a0 h0 Q k n ds pc ls st := by
  subst hp hst
  intro p l e kz s0 s rl m args below meth c T locs hs as Cc X N M R
  have hZ := Cc.2.1
  obtain ⟨v, _, ⟨T', L', k', n'⟩, -, X', hS, hg, ⟨Lc, hQ, l1, y1, z1⟩, st'⟩ := X.specialBackS Cc.1 (y := y) hin Cc.2.2.2.2.1 (mvT hZ w1) (mvT hZ w2) (mvT hZ w4) hy (backOfJ (W := W) KJ (hM l [] T.heap M) hZ rl.1 w4 w3 hf hl) (g := mkF m pc ls (argsL.reverse ++ .ref a :: rest)) rfl (hsz.trans Cc.2.2.2.1.symm) (Steps.refl _) (a := a) (argsL := argsL) (rest := rest) (lenOf hpd hlen) rfl (by show 2 * 0 + _ ≤ _; omega) (hb Cc.2.2.1 hd) (fun _ _ => ⟨rfl, rfl, hk, hn⟩)
  dsimp only [Pt.U, Pt.locs, Pt.cells, Pt.slots] at X' l1 y1 z1 st' hQ hS hg
  subst l1 y1 z1
  obtain ⟨N', ds', M', R', hq⟩ := hQ
  exact wideOn (H v ds' hq) trivial rl Cc R X' hS hg (Fr.app N N') M' (R.2.call R') fun t hr => st'.trans hr
theorem gw_wcallS (KJ : Keeps Z J) (q : Nat) (hp : pc + 3 = q) (hd : decode B.2.1 pc = .ok (.invokestatic idx, 3)) (w1 : (Jvm.Cond.methodLink B.1.cls idx y).before a0 Z = true) (w2 : (Jvm.Cond.static y).before a0 Z = true) (w3 : (Jvm.Cond.initialized y.cls).before a0 Z = true) (w4 : (Jvm.Cond.code y bytes maxL ret).before a0 Z = true)
    (hy : y.cls ≠ "java/lang/invoke/MethodHandle" ∧ y.cls ≠ "java/lang/invoke/VarHandle") (hM : MetW J (y, bytes, maxL, ret, rm) Z a0 h0 argsL.toArray ds Q') (hst : st = argsL.reverse ++ rest) (hpd : parseMethodDescriptor y.desc = some ⟨ps, ret⟩) (hlen : argsL.length = ps.length)
    (hsz : ls.size = B.2.2.1) (W : Nat) (hW : (rest.map fun v => v.category).sum = W) (hf : rm.frames + 1 ≤ B.2.2.2.2.frames) (hl : W + (maxL + 11) + rm.locals ≤ B.2.2.2.2.locals) (hk : k + rm.cells ≤ B.2.2.2.2.cells) (hn : n + rm.slots ≤ B.2.2.2.2.slots)
    (H : ∀ v ds', Q' v ds' → GoW (fun _ => True) B Z a0 h0 Q (k + rm.cells) (n + rm.slots) ds' q ls (v.toList ++ rest)) : GoW J B Z a0 h0 Q k n ds pc ls st := by
  subst hp hst
  intro p l e kz s0 s rl m args below meth c T locs hs as Cc X N M R
  have hZ := Cc.2.1
  obtain ⟨v, _, ⟨T', L', k', n'⟩, -, X', hS, hg, ⟨Lc, hQ, l1, y1, z1⟩, st'⟩ := callSS X Cc.1 (y := y) Cc.2.2.2.2.1 (mvT hZ w1) (mvT hZ w2) (mvT hZ w3) (mvT hZ w4) hy (backOfJ (W := W) KJ (hM l [] T.heap M) hZ rl.1 w4 w3 hf hl) (g := mkF m pc ls (argsL.reverse ++ rest)) rfl (hsz.trans Cc.2.2.2.1.symm) (argsL := argsL) (rest := rest) (lenOf hpd hlen) rfl (by show 2 * 0 + _ ≤ _; omega) (hb Cc.2.2.1 hd) (fun _ _ => ⟨rfl, rfl, hk, hn⟩)
  dsimp only [Pt.U, Pt.locs, Pt.cells, Pt.slots] at X' l1 y1 z1 st' hQ hS hg
  subst l1 y1 z1
  obtain ⟨N', ds', M', R', hq⟩ := hQ
  exact wideOn (H v ds' hq) trivial rl Cc R X' hS hg (Fr.app N N') M' (R.2.call R') fun t hr => st'.trans hr
end WideCalls
section WideEmpty
variable {B : Bdy} {Z : State} {a0 : Array Value} {h0 : Heap} {Q : Option Value → Mem → Prop} {k n : Nat} {pc : Nat} {ls : Array Slot}
abbrev sJ : String := "java/lang/String"
def OldE (Z : State) (h0 : Heap) (b : Addr) : Prop := ∃ c : Cell, Arr Z h0 b c .byte ∧ c.slots.size = 0
/-- the body's end where the text is empty: value and coder of the constant "" -/
theorem gw_empty {t : Addr} {EL : List (String × Nat)} {i7 iv ic kk : Nat} (hEL : EW Z a0 EL) (hmem : (sJ, i7) ∈ EL) (hB : B.1.cls = sJ ∧ B.1.name = "<init>") (hls : ls[0]? = some (.val (.ref t)))
    (d1 : decode B.2.1 pc = .ok (.ldc i7, 2)) (d2 : decode B.2.1 (pc + 2) = .ok (.getfield iv, 3)) (d3 : decode B.2.1 (pc + 5) = .ok (.putfield iv, 3)) (d4 : decode B.2.1 (pc + 8) = .ok (.aload_n 0, 1)) (d5 : decode B.2.1 (pc + 9) = .ok (.ldc i7, 2)) (d6 : decode B.2.1 (pc + 11) = .ok (.getfield ic, 3)) (d7 : decode B.2.1 (pc + 14) = .ok (.putfield ic, 3)) (d8 : decode B.2.1 (pc + 17) = .ok (.return_, 1))
    (hret : B.2.2.2.1 = none) (w : (Jvm.Cond.stringLink sJ i7 "").before a0 Z = true) (wS : ∀ a ∈ Bundle.stringAtoms, a.before a0 Z = true)
    (wv : (Jvm.Cond.fieldLink sJ iv sJ "value" "[B").before a0 Z = true) (wc : (Jvm.Cond.fieldLink sJ ic sJ "coder" "B").before a0 Z = true) (wi : (Jvm.Cond.instantiable sJ kk).before a0 Z = true)
    (Lv : (Jvm.Cond.laysFinal sJ sJ "value" "[B").before a0 Z = true) (Lc : (Jvm.Cond.laysFinal sJ sJ "coder" "B").before a0 Z = true)
    (hk : k + 2 + 2 ≤ B.2.2.2.2.cells) (hn : n + (0 + 4) + (0 + 4) ≤ B.2.2.2.2.slots)
    (HQ1 : ∀ b, OldE Z h0 b → Q none [ob t sJ [(sJ, "value", "[B", .ref b), (sJ, "coder", "B", .int 0)]])
    (HQ2 : ∀ b, Q none [ob t sJ [(sJ, "value", "[B", .ref b), (sJ, "coder", "B", .int 0)], ar b .byte []]) :
    GoW (fun vm => CHv Z EL vm h0) B Z a0 h0 Q k n [ob t sJ [(sJ, "value", "[B", .null), (sJ, "coder", "B", .int 0)]] pc ls [.ref t] := by
  intro p l e kz s0 s rl m args below meth c T locs hs as Cc X N M R
  obtain ⟨hJ, vm0, k0, rfl, hS, hk0⟩ := rl
  have hZ : Z.Warmed39 vm0 := Cc.2.1
  have hown : (s0.setVm vm0).vm.findClass sJ = some m.cls := by have q := Cc.2.2.2.2.1; rw [hB.1] at q; exact q
  have hi : [ob t sJ [(sJ, "value", "[B", .null), (sJ, "coder", "B", .int 0)]][0]? = some (ob t sJ [(sJ, "value", "[B", .null), (sJ, "coder", "B", .int 0)]) := rfl
  have nt := M.new hi id
  have HA := M.at hi
  obtain ⟨Fv, Lav, -⟩ := HA.2.1 _ (List.mem_of_getElem? (show [(sJ, "value", "[B", Value.null), (sJ, "coder", "B", .int 0)][0]? = some _ from rfl))
  obtain ⟨Fc, Lac, -⟩ := HA.2.1 _ (List.mem_of_getElem? (show [(sJ, "value", "[B", Value.null), (sJ, "coder", "B", .int 0)][1]? = some _ from rfl))
  have H1 : CHv Z EL vm0 T.heap := CHv.ext M.1 hJ
  have S0 : Safe Z EL vm0 T.heap t := Safe.ext M.1 hJ (Safe.new nt)
  obtain ⟨a, T1, h1, k1, b, kb, X1, e1, E1, hS1, hk1, hW1, hf1, xa, fc, fv, AV, la, lb, CR, LT, SF, st1⟩ := ldcCH X Cc.1 hZ hown w wS rfl hS (Nat.le_trans hk0 R.1) hEL hmem H1 (vs := []) (z := 0) ⟨by simp, rfl⟩ (by decide) rfl (g := mkF m pc ls [.ref t]) rfl (hb Cc.2.2.1 d1) (n := 0) (by decide) (by decide) (by omega) (by omega)
  have St1 : Safe Z EL T1.vm h1 t := CR.safe HA.1.lt S0
  have btn : t ≠ b := (SF t St1).2
  obtain ⟨T2, X2, e2, st2⟩ := getF X1 Cc.1 hW1 hf1 (host := "") (Or.inl wv) Via.refl e1 fv (g := mkF m (pc + 2) ls [.ref a, .ref t]) rfl rfl (hb Cc.2.2.1 d2)
  obtain ⟨T3, h3, X3, e3, W3, st3⟩ := putF X2 Cc.1 hW1 hf1 (host := "") (Or.inl wv) Via.refl e2 (Fv.ext E1) (HA.1.ext E1) (Or.inr ⟨Lv, rfl, Cc.2.2.2.2.2.2.2.trans hB.2⟩) wi (ty := .array .byte) (by decide) rfl rfl (g := mkF m (pc + 5) ls [.ref b, .ref t]) rfl rfl (hb Cc.2.2.1 d3)
  have H3 : CHv Z EL T1.vm h3 := CHv.wr W3 St1 CR.1
  have z3 : h1.size = h3.size := W3.size.symm
  obtain ⟨a', T4, h4, k4, b', kb', X4, e4, E4, hS4, hk4, hW4, hf4, xa4, fc4, fv4, AV4, la4, lb4, CR4, LT4, SF4, st4⟩ := ldcCH X3 Cc.1 hW1 hf1 w wS e3 hS1 (by rw [← z3]; exact hk1) hEL hmem H3 (vs := []) (z := 0) ⟨by simp, rfl⟩ (by decide) rfl (g := mkF m (pc + 9) ls [.ref t]) rfl (hb Cc.2.2.1 d5) (n := 0) (by decide) (by decide) (by omega) (by omega)
  have ne : Jvm.RoadKit.slotOf Z sJ "coder" "B" ≠ Jvm.RoadKit.slotOf Z sJ "value" "[B" := slot_ne Lac Lav (by decide) (show parseFieldDescriptor "B" = some .byte by decide) (show parseFieldDescriptor "[B" = some (.array .byte) by decide)
  have Fc3 := (Fc.ext E1).other W3 (Or.inr ne)
  obtain ⟨T5, X5, e5, st5⟩ := getF X4 Cc.1 hW4 hf4 (host := "") (Or.inl wc) Via.refl e4 fc4 (g := mkF m (pc + 11) ls [.ref a', .ref t]) rfl rfl (hb Cc.2.2.1 d6)
  obtain ⟨T6, h6, X6, e6, W6, st6⟩ := putF X5 Cc.1 hW4 hf4 (host := "") (Or.inl wc) Via.refl e5 (Fc3.ext E4) (((HA.1.ext E1).wr W3).ext E4) (Or.inr ⟨Lc, rfl, Cc.2.2.2.2.2.2.2.trans hB.2⟩) wi (ty := .byte) (by decide) rfl rfl (g := mkF m (pc + 14) ls [.int 0, .ref t]) rfl rfl (hb Cc.2.2.1 d7)
  have z6 : h4.size = h6.size := W6.size.symm
  have M1 := M.ext E1
  have nd : ∀ x : Value, (([(sJ, "value", "[B", x), (sJ, "coder", "B", .int 0)] : Fds).map (·.2.1)).Nodup := fun x => by simp
  have M3 : Mo Z a0 h0 [ob t sJ [(sJ, "value", "[B", .ref b), (sJ, "coder", "B", .int 0)]] h3 := M1.wr hi id W3 ⟨(HA.1.ext E1).wr W3, (fun f hf => by
    rcases List.mem_cons.mp hf with rfl | hf
    · exact ⟨(Fv.ext E1).same W3, Lav, _, (by decide : parseFieldDescriptor "[B" = some (.array .byte))⟩
    · rcases List.mem_cons.mp hf with rfl | hf
      · exact ⟨Fc3, Lac, _, (by decide : parseFieldDescriptor "B" = some .byte)⟩
      · cases hf), nd _⟩
  have M4 := M3.ext E4
  have hi3 : [ob t sJ [(sJ, "value", "[B", .ref b), (sJ, "coder", "B", .int 0)]][0]? = some (ob t sJ [(sJ, "value", "[B", .ref b), (sJ, "coder", "B", .int 0)]) := rfl
  have M6 : Mo Z a0 h0 [ob t sJ [(sJ, "value", "[B", .ref b), (sJ, "coder", "B", .int 0)]] h6 := M4.wr hi3 id W6 ⟨((((HA.1.ext E1).wr W3).ext E4).wr W6), (fun f hf => by
    rcases List.mem_cons.mp hf with rfl | hf
    · exact ⟨(((Fv.ext E1).same W3).ext E4).other W6 (Or.inr ne.symm), Lav, _, (by decide : parseFieldDescriptor "[B" = some (.array .byte))⟩
    · rcases List.mem_cons.mp hf with rfl | hf
      · exact ⟨(Fc3.ext E4).same W6, Lac, _, (by decide : parseFieldDescriptor "B" = some .byte)⟩
      · cases hf), nd _⟩
  have R6 : Tr hs as [ob t sJ [(sJ, "value", "[B", .ref b), (sJ, "coder", "B", .int 0)]] h6 := (((R.2.ext E1).wr hi W3 (D' := .inl (sJ, [(sJ, "value", "[B", .ref b), (sJ, "coder", "B", .int 0)]))).ext E4).wr hi3 W6 (D' := .inl (sJ, [(sJ, "value", "[B", .ref b), (sJ, "coder", "B", .int 0)]))
  obtain ⟨cb, Ab, -, szb, -, -⟩ := AV
  have szb0 : cb.slots.size = 0 := szb
  have Ab6 : Arr Z h6 b cb .byte := ((Ab.other W3 btn.symm).ext E4).other W6 btn.symm
  have N6 := Fr.snoc X6 (Fr.snoc X3 N nt) nt
  obtain ⟨fs, hr, hrun, hended, hEnd⟩ := X6.leaveW hS4 (by rw [e6, ← z6]; exact hk4) (v := none) (fun _ => rfl) Cc.2.2.2.2.2.2.1
  have steps : Steps p.tables e below (T.setTop (mkF m pc ls [.ref t])) (T6.setFrames fs) :=
    st1 _ (st2 _ (st3 _ (XS.aloadN X3.here Cc.1 rfl (hb Cc.2.2.1 d4) hls rfl (st4 _ (st5 _ (st6 _ (X6.returnOut Cc.1 (Cc.2.2.2.2.2.1.trans hret) (hb Cc.2.2.1 d8) hr)))))))
  have fin : ReturnedEndW s0 (.returned none) (T6.setFrames fs) (locs ++ [⟨t, Jvm.RoadKit.slotOf Z sJ "value" "[B"⟩] ++ [⟨t, Jvm.RoadKit.slotOf Z sJ "coder" "B"⟩]) B.2.2.2.2.cells B.2.2.2.2.slots := ⟨hEnd.1, hEnd.2.1, hEnd.2.2.1, hEnd.2.2.2.mono hk hn⟩
  have hh : (T6.setFrames fs).heap = h6 := e6
  by_cases old : b < h0.size
  · refine ⟨_, none, _, _, steps, hrun, hended, by rw [hh]; exact M6, by rw [hh]; exact R6, HQ1 b ⟨cb, ⟨?_, Ab6.2⟩, szb0⟩, N6, fin⟩
    have q : h0[b]? = some h0[b] := Array.getElem?_eq_getElem old
    have q2 := M6.1.2 _ _ q
    rw [q]; exact q2.symm.trans Ab6.1
  · have hBk : Bk Z EL T1.vm h1 b := Classical.byContradiction fun hnb => (SF b hnb).2 rfl
    have hbT : T.heap.size ≤ b := by
      rcases CR.2.2 b hBk with q | q
      · exact absurd ((CHv.step hJ fun y _ cell r => M.1.2 y cell r).2 _ q) (Safe.new (Nat.not_lt.mp old))
      · exact q
    refine ⟨_, none, _, [ob t sJ [(sJ, "value", "[B", .ref b), (sJ, "coder", "B", .int 0)], ar b .byte []], steps, hrun, hended, ?_, ?_, HQ2 b, N6, fin⟩
    · rw [hh]
      refine ⟨M6.1, fun q hq => ?_, ?_⟩
      · rcases List.mem_cons.mp hq with rfl | hq
        · exact M6.2.1 _ (List.mem_cons_self ..)
        · rcases List.mem_cons.mp hq with rfl | hq
          · refine ⟨Or.inl (Nat.not_lt.mp old), cb, Ab6, ?_, fun C q => by cases q⟩
            have : cb.slots.toList.length = 0 := by simpa using szb0
            exact List.eq_nil_of_length_eq_zero this
          · cases hq
      · refine List.Pairwise.cons (fun q hq => ?_) (List.pairwise_singleton _ _)
        cases List.mem_singleton.mp hq; exact btn
    · rw [hh]
      refine ⟨R6.1, R6.2.1, fun q hq => ?_⟩
      rcases List.mem_cons.mp hq with rfl | hq
      · exact R6.2.2 _ (List.mem_cons_self ..)
      · cases List.mem_singleton.mp hq; exact Or.inr (Nat.le_trans R.2.1 hbT)
end WideEmpty

section WideEnd
variable {B : Bdy} {Z : State} {a0 : Array Value} {h0 : Heap} {Q : Option Value → Mem → Prop} {ds : Mem} {J : Vm → Prop}
theorem Met.wide {as : Array Value} (H : Met B Z a0 h0 as ds Q) : MetW J B Z a0 h0 as ds Q := by
  intro l ws h M p e h1 h2 h3 s m args below h4 h5 h6 h7
  obtain ⟨n, o, g1, g2, g3, v, L, g4, g5, g8⟩ := H l ws h M p e h1 h2 h3 s m args below h4 h5 ⟨h6.1, h6.2.1, h6.2.2.1⟩ h7
  exact ⟨n, o, g1, g2, g3, v, L, g4, g5, Jvm.RoadKit.wide g8⟩
theorem keepsC {EL : List (String × Nat)} (hEL : EW Z a0 EL) : Keeps Z (fun vm => CHv Z EL vm h0) := fun s vm₁ hZ hW H =>
  (CHv.later (h' := h0) hZ (hW := (show (Wst Z s.vm h0).Warmed39 vm₁ from hW.wide)) hEL ⟨Nat.le_refl _, fun _ _ q => q⟩ (Or.inl hW.interned_eq) H).1
end WideEnd
end Jvm.OwnW

namespace Jvm.Pilot.@@N@@
open Jvm Jvm.ClassFile Sem Op Lib Jvm.Free Jvm.Stand Jvm.LawKit Jvm.RoadKit Bundle Jvm.OwnW Jvm.Pilot.@@N@@.Jvm.D

theorem nar_c (y : Int32) : nar .char (y.toUInt32.toUInt16.toUInt32.toInt32) = y.toUInt32.toUInt16.toUInt32.toInt32 := by
  apply Int32.toInt_inj.mp
  have a := c_i2c y
  have b := c_i2c y.toUInt32.toUInt16.toUInt32.toInt32
  show (y.toUInt32.toUInt16.toUInt32.toInt32).toUInt32.toUInt16.toUInt32.toInt32.toInt = _
  omega
theorem nar_z (z : Int32) (h : 0 ≤ z.toInt ∧ z.toInt ≤ 65535) : nar .char z = z := by
  apply Int32.toInt_inj.mp
  have b := c_i2c z
  show z.toUInt32.toUInt16.toUInt32.toInt32.toInt = _
  omega
/-- a Latin-1 byte read back -/
theorem lat (z : Int32) (h : 0 ≤ z.toInt ∧ z.toInt ≤ 255) : ((nar .byte (z.toInt8.toInt32)) &&& (255 : Int32)).toUInt32.toUInt16.toUInt32.toInt32 = z := by
  apply Int32.toInt_inj.mp
  have a := c_i2b z; have b := c_i2b z.toInt8.toInt32
  have m := c_mask (nar .byte (z.toInt8.toInt32)) (255 : Int32) 8 (by decide) (by decide)
  have k := c_i2c ((nar .byte (z.toInt8.toInt32)) &&& (255 : Int32))
  have e : (nar .byte (z.toInt8.toInt32)).toInt = z.toInt8.toInt32.toInt8.toInt32.toInt := rfl
  have p : ((2 ^ 8 : Nat) : Int) = 256 := rfl
  rw [e, p] at m
  omega
theorem or_add (a b : Int32) (ha : 0 ≤ a.toInt ∧ a.toInt < 256) (q : 0 ≤ b.toInt ∧ b.toInt < 256) : ((a <<< ((0 : Int32) &&& 31)) ||| (b <<< ((8 : Int32) &&& 31))).toInt = a.toInt + 256 * b.toInt := by
  have e0 := c_ishl a 0 0 rfl
  have e8 := c_ishl b 8 8 rfl
  have r0 := rng32 (a <<< ((0 : Int32) &&& 31)); have r8 := rng32 (b <<< ((8 : Int32) &&& 31))
  have p0 : ((2 ^ 0 : Nat) : Int) = 1 := rfl
  have p8 : ((2 ^ 8 : Nat) : Int) = 256 := rfl
  rw [p0] at e0; rw [p8] at e8
  have f0 : (a <<< ((0 : Int32) &&& 31)).toInt = a.toInt := by omega
  have f8 : (b <<< ((8 : Int32) &&& 31)).toInt = 256 * b.toInt := by omega
  obtain ⟨x, hx⟩ : ∃ x, (a <<< ((0 : Int32) &&& 31)) = x := ⟨_, rfl⟩
  obtain ⟨y, hy⟩ : ∃ y, (b <<< ((8 : Int32) &&& 31)) = y := ⟨_, rfl⟩
  rw [hx] at f0 ⊢; rw [hy] at f8 ⊢
  have nx : (x.toBitVec.toNat : Int) = a.toInt := by have := BitVec.toInt_eq_toNat_cond x.toBitVec; have l := x.toBitVec.isLt; have t : x.toInt = x.toBitVec.toInt := rfl; split at this <;> omega
  have ny : (y.toBitVec.toNat : Int) = 256 * b.toInt := by have := BitVec.toInt_eq_toNat_cond y.toBitVec; have l := y.toBitVec.isLt; have t : y.toInt = y.toBitVec.toInt := rfl; split at this <;> omega
  obtain ⟨bn, hbn⟩ : ∃ bn : Nat, (bn : Int) = b.toInt := ⟨b.toInt.toNat, by omega⟩
  have ny' : y.toBitVec.toNat = 2 ^ 8 * bn := by have : ((2 ^ 8 : Nat) : Int) = 256 := rfl; omega
  have lx : x.toBitVec.toNat < 2 ^ 8 := by have : ((2 ^ 8 : Nat) : Int) = 256 := rfl; omega
  have o : (x ||| y).toBitVec.toNat = 2 ^ 8 * bn + x.toBitVec.toNat := by
    show (x.toBitVec ||| y.toBitVec).toNat = _
    rw [BitVec.toNat_or, ny', Nat.or_comm, Nat.two_pow_add_eq_or_of_lt lx]
  have t : (x ||| y).toInt = (x ||| y).toBitVec.toInt := rfl
  have cc := BitVec.toInt_eq_toNat_cond (x ||| y).toBitVec
  rw [t, cc, o]
  have : ((2 ^ 8 : Nat) : Int) = 256 := rfl
  split <;> omega
/-- two bytes read back -/
theorem utf (z : Int32) (h : 0 ≤ z.toInt ∧ z.toInt ≤ 65535) : ((((nar .byte ((z >>> ((0 : Int32) &&& 31)).toInt8.toInt32)) &&& (255 : Int32)) <<< ((0 : Int32) &&& 31)) ||| (((nar .byte ((z >>> ((8 : Int32) &&& 31)).toInt8.toInt32)) &&& (255 : Int32)) <<< ((8 : Int32) &&& 31))).toUInt32.toUInt16.toUInt32.toInt32 = z := by
  apply Int32.toInt_inj.mp
  have s0 := c_ishr z 0 0 rfl; have s8 := c_ishr z 8 8 rfl
  have p0 : ((2 ^ 0 : Nat) : Int) = 1 := rfl
  have p8 : ((2 ^ 8 : Nat) : Int) = 256 := rfl
  rw [p0] at s0; rw [p8] at s8
  obtain ⟨u, hu⟩ : ∃ u, (z >>> ((0 : Int32) &&& 31)) = u := ⟨_, rfl⟩
  obtain ⟨v, hv⟩ : ∃ v, (z >>> ((8 : Int32) &&& 31)) = v := ⟨_, rfl⟩
  rw [hu] at s0 ⊢; rw [hv] at s8 ⊢
  have a1 := c_i2b u; have a2 := c_i2b u.toInt8.toInt32
  have b1 := c_i2b v; have b2 := c_i2b v.toInt8.toInt32
  have m1 := c_mask (nar .byte (u.toInt8.toInt32)) (255 : Int32) 8 (by decide) (by decide)
  have m2 := c_mask (nar .byte (v.toInt8.toInt32)) (255 : Int32) 8 (by decide) (by decide)
  have e1 : (nar .byte (u.toInt8.toInt32)).toInt = u.toInt8.toInt32.toInt8.toInt32.toInt := rfl
  have e2 : (nar .byte (v.toInt8.toInt32)).toInt = v.toInt8.toInt32.toInt8.toInt32.toInt := rfl
  rw [e1, p8] at m1; rw [e2, p8] at m2
  have o := or_add ((nar .byte (u.toInt8.toInt32)) &&& (255 : Int32)) ((nar .byte (v.toInt8.toInt32)) &&& (255 : Int32)) (by omega) (by omega)
  have k := c_i2c ((((nar .byte (u.toInt8.toInt32)) &&& (255 : Int32)) <<< ((0 : Int32) &&& 31)) ||| (((nar .byte (v.toInt8.toInt32)) &&& (255 : Int32)) <<< ((8 : Int32) &&& 31)))
  rw [o] at k
  omega
theorem four (i : Int32) : (i &&& (3 : Int32)) = 0 ∨ (i &&& (3 : Int32)) = 1 ∨ (i &&& (3 : Int32)) = 2 ∨ (i &&& (3 : Int32)) = 3 := by
  have h := c_and i (3 : Int32) (by decide)
  have e3 : (3 : Int32).toInt = 3 := rfl
  have : (i &&& (3 : Int32)).toInt = 0 ∨ (i &&& (3 : Int32)).toInt = 1 ∨ (i &&& (3 : Int32)).toInt = 2 ∨ (i &&& (3 : Int32)).toInt = 3 := by omega
  rcases this with q | q | q | q
  · exact Or.inl (Int32.toInt_inj.mp q)
  · exact Or.inr (Or.inl (Int32.toInt_inj.mp q))
  · exact Or.inr (Or.inr (Or.inl (Int32.toInt_inj.mp q)))
  · exact Or.inr (Or.inr (Or.inr (Int32.toInt_inj.mp q)))

def Sts (Z : State) (h0 : Heap) (zc : Int32) (r99 : Value) : Prop := Sta Z h0 "java/lang/String" "COMPACT_STRINGS" "Z" (.int zc) ∧ (¬ zc = 0) ∧ Sta Z h0 "jdk/internal/util/Preconditions" "SIOOBE_FORMATTER" "Ljava/util/function/BiFunction;" r99 ∧ r99.isRef = true ∧ Sta Z h0 "java/lang/StringUTF16" "$assertionsDisabled" "Z" (.int 1) ∧ Sta Z h0 "java/lang/StringUTF16" "HI_BYTE_SHIFT" "I" (.int 0) ∧ Sta Z h0 "java/lang/StringUTF16" "LO_BYTE_SHIFT" "I" (.int 8)
abbrev EL1 : List (String × Nat) := [("java/lang/String", 7)]
abbrev JJ (Z : State) (h0 : Heap) : Vm → Prop := fun vm => CHv Z EL1 vm h0
theorem sat : ∀ d ∈ Bundle.stringAtoms, d ∈ tables_1 := by decide +kernel
abbrev mem1 (x0 : Addr) (x1 : Int32) (x2 : Int32) (x3 : Addr) (x4 : Addr) (x5 : Addr) : Mem := [ar x0 .byte [(.int (nar .byte ((x1 >>> ((0 : Int32) &&& 31)).toInt8.toInt32))), (.int (nar .byte ((x1 >>> ((8 : Int32) &&& 31)).toInt8.toInt32))), (.int (nar .byte ((x2 >>> ((0 : Int32) &&& 31)).toInt8.toInt32))), (.int (nar .byte ((x2 >>> ((8 : Int32) &&& 31)).toInt8.toInt32)))], ar x3 .char [(.int x1), (.int x2)], ar x4 .byte [(.int (nar .byte (x1.toInt8.toInt32))), (.int (0 : Int32))], ob x5 "java/lang/String" [("java/lang/String", "value", "[B", .null), ("java/lang/String", "coder", "B", (.int (0 : Int32)))]]
abbrev mem2 (x0 : Addr) (x1 : Int32) (x2 : Int32) (x3 : Addr) (x4 : Addr) (x5 : Addr) : Mem := [ar x0 .byte [(.int (nar .byte ((x1 >>> ((0 : Int32) &&& 31)).toInt8.toInt32))), (.int (nar .byte ((x1 >>> ((8 : Int32) &&& 31)).toInt8.toInt32))), (.int (nar .byte ((x2 >>> ((0 : Int32) &&& 31)).toInt8.toInt32))), (.int (nar .byte ((x2 >>> ((8 : Int32) &&& 31)).toInt8.toInt32)))], ar x3 .char [(.int x1), (.int x2)], ar x4 .byte [(.int (nar .byte (x1.toInt8.toInt32))), (.int (0 : Int32))], ob x5 "java/lang/String" [("java/lang/String", "value", "[B", .null), ("java/lang/String", "coder", "B", (.int (1 : Int32)))]]
abbrev mem3 (x0 : Addr) (x1 : Int32) (x2 : Int32) (x3 : Addr) (x4 : Addr) (x5 : Addr) : Mem := [ar x0 .byte [(.int (nar .byte ((x1 >>> ((0 : Int32) &&& 31)).toInt8.toInt32))), (.int (nar .byte ((x1 >>> ((8 : Int32) &&& 31)).toInt8.toInt32))), (.int (nar .byte ((x2 >>> ((0 : Int32) &&& 31)).toInt8.toInt32))), (.int (nar .byte ((x2 >>> ((8 : Int32) &&& 31)).toInt8.toInt32)))], ar x3 .char [(.int x1), (.int x2)], ar x4 .byte [(.int (nar .byte (x1.toInt8.toInt32))), (.int (0 : Int32))], ob x5 "java/lang/String" [("java/lang/String", "value", "[B", (.ref x0)), ("java/lang/String", "coder", "B", (.int (1 : Int32)))]]
abbrev mem4 (x0 : Addr) (x1 : Int32) (x2 : Int32) (x3 : Addr) (x4 : Addr) (x5 : Addr) : Mem := [ar x0 .byte [(.int (nar .byte ((x1 >>> ((0 : Int32) &&& 31)).toInt8.toInt32))), (.int (nar .byte ((x1 >>> ((8 : Int32) &&& 31)).toInt8.toInt32))), (.int (nar .byte ((x2 >>> ((0 : Int32) &&& 31)).toInt8.toInt32))), (.int (nar .byte ((x2 >>> ((8 : Int32) &&& 31)).toInt8.toInt32)))], ob x3 "java/lang/String" [("java/lang/String", "value", "[B", (.ref x0)), ("java/lang/String", "coder", "B", (.int (1 : Int32)))], ar x4 .char [(.int x1), (.int x2)], ar x5 .byte [(.int (nar .byte (x1.toInt8.toInt32))), (.int (0 : Int32))]]
abbrev mem5 (x0 : Addr) (x1 : Int32) (x2 : Int32) (x3 : Addr) : Mem := [ar x0 .byte [(.int (nar .byte ((x1 >>> ((0 : Int32) &&& 31)).toInt8.toInt32))), (.int (nar .byte ((x1 >>> ((8 : Int32) &&& 31)).toInt8.toInt32))), (.int (nar .byte ((x2 >>> ((0 : Int32) &&& 31)).toInt8.toInt32))), (.int (nar .byte ((x2 >>> ((8 : Int32) &&& 31)).toInt8.toInt32)))], ob x3 "java/lang/String" [("java/lang/String", "value", "[B", (.ref x0)), ("java/lang/String", "coder", "B", (.int (1 : Int32)))]]
abbrev mem6 (x0 : Addr) (x1 : Int32) (x2 : Int32) (x3 : Addr) (x4 : Addr) (x5 : Addr) : Mem := [ar x0 .byte [(.int (nar .byte ((x1 >>> ((0 : Int32) &&& 31)).toInt8.toInt32))), (.int (nar .byte ((x1 >>> ((8 : Int32) &&& 31)).toInt8.toInt32))), (.int (nar .byte ((x2 >>> ((0 : Int32) &&& 31)).toInt8.toInt32))), (.int (nar .byte ((x2 >>> ((8 : Int32) &&& 31)).toInt8.toInt32)))], ar x3 .char [(.int x1), (.int x2)], ar x4 .byte [(.int (0 : Int32)), (.int (0 : Int32))], ob x5 "java/lang/String" [("java/lang/String", "value", "[B", .null), ("java/lang/String", "coder", "B", (.int (0 : Int32)))]]
abbrev mem7 (x0 : Addr) (x1 : Int32) (x2 : Int32) (x3 : Addr) (x4 : Addr) (x5 : Addr) : Mem := [ar x0 .byte [(.int (nar .byte ((x1 >>> ((0 : Int32) &&& 31)).toInt8.toInt32))), (.int (nar .byte ((x1 >>> ((8 : Int32) &&& 31)).toInt8.toInt32))), (.int (nar .byte ((x2 >>> ((0 : Int32) &&& 31)).toInt8.toInt32))), (.int (nar .byte ((x2 >>> ((8 : Int32) &&& 31)).toInt8.toInt32)))], ar x3 .char [(.int x1), (.int x2)], ar x4 .byte [(.int (0 : Int32)), (.int (0 : Int32))], ob x5 "java/lang/String" [("java/lang/String", "value", "[B", .null), ("java/lang/String", "coder", "B", (.int (1 : Int32)))]]
abbrev mem8 (x0 : Addr) (x1 : Int32) (x2 : Int32) (x3 : Addr) (x4 : Addr) (x5 : Addr) : Mem := [ar x0 .byte [(.int (nar .byte ((x1 >>> ((0 : Int32) &&& 31)).toInt8.toInt32))), (.int (nar .byte ((x1 >>> ((8 : Int32) &&& 31)).toInt8.toInt32))), (.int (nar .byte ((x2 >>> ((0 : Int32) &&& 31)).toInt8.toInt32))), (.int (nar .byte ((x2 >>> ((8 : Int32) &&& 31)).toInt8.toInt32)))], ar x3 .char [(.int x1), (.int x2)], ar x4 .byte [(.int (0 : Int32)), (.int (0 : Int32))], ob x5 "java/lang/String" [("java/lang/String", "value", "[B", (.ref x0)), ("java/lang/String", "coder", "B", (.int (1 : Int32)))]]
abbrev mem9 (x0 : Addr) (x1 : Int32) (x2 : Int32) (x3 : Addr) (x4 : Addr) (x5 : Addr) : Mem := [ar x0 .byte [(.int (nar .byte ((x1 >>> ((0 : Int32) &&& 31)).toInt8.toInt32))), (.int (nar .byte ((x1 >>> ((8 : Int32) &&& 31)).toInt8.toInt32))), (.int (nar .byte ((x2 >>> ((0 : Int32) &&& 31)).toInt8.toInt32))), (.int (nar .byte ((x2 >>> ((8 : Int32) &&& 31)).toInt8.toInt32)))], ob x3 "java/lang/String" [("java/lang/String", "value", "[B", (.ref x0)), ("java/lang/String", "coder", "B", (.int (1 : Int32)))], ar x4 .char [(.int x1), (.int x2)], ar x5 .byte [(.int (0 : Int32)), (.int (0 : Int32))]]
abbrev mem10 (x0 : Addr) (x1 : Int32) (x2 : Int32) (x3 : Int32) : Mem := [ar x0 .byte [(.int (nar .byte ((x1 >>> ((0 : Int32) &&& 31)).toInt8.toInt32))), (.int (nar .byte ((x1 >>> ((8 : Int32) &&& 31)).toInt8.toInt32))), (.int (nar .byte ((x2 >>> ((0 : Int32) &&& 31)).toInt8.toInt32))), (.int (nar .byte ((x2 >>> ((8 : Int32) &&& 31)).toInt8.toInt32))), (.int (nar .byte ((x3 >>> ((0 : Int32) &&& 31)).toInt8.toInt32))), (.int (nar .byte ((x3 >>> ((8 : Int32) &&& 31)).toInt8.toInt32)))]]
abbrev mem11 (x0 : Addr) (x1 : Int32) (x2 : Int32) (x3 : Int32) (x4 : Addr) : Mem := [ar x0 .byte [(.int (nar .byte ((x1 >>> ((0 : Int32) &&& 31)).toInt8.toInt32))), (.int (nar .byte ((x1 >>> ((8 : Int32) &&& 31)).toInt8.toInt32))), (.int (nar .byte ((x2 >>> ((0 : Int32) &&& 31)).toInt8.toInt32))), (.int (nar .byte ((x2 >>> ((8 : Int32) &&& 31)).toInt8.toInt32))), (.int (nar .byte ((x3 >>> ((0 : Int32) &&& 31)).toInt8.toInt32))), (.int (nar .byte ((x3 >>> ((8 : Int32) &&& 31)).toInt8.toInt32)))], ar x4 .char [(.int x1), (.int x2), (.int x3)]]
abbrev mem12 (x0 : Addr) (x1 : Int32) (x2 : Int32) (x3 : Int32) (x4 : Addr) (x5 : Addr) : Mem := [ar x0 .byte [(.int (nar .byte ((x1 >>> ((0 : Int32) &&& 31)).toInt8.toInt32))), (.int (nar .byte ((x1 >>> ((8 : Int32) &&& 31)).toInt8.toInt32))), (.int (nar .byte ((x2 >>> ((0 : Int32) &&& 31)).toInt8.toInt32))), (.int (nar .byte ((x2 >>> ((8 : Int32) &&& 31)).toInt8.toInt32))), (.int (nar .byte ((x3 >>> ((0 : Int32) &&& 31)).toInt8.toInt32))), (.int (nar .byte ((x3 >>> ((8 : Int32) &&& 31)).toInt8.toInt32)))], ar x4 .char [(.int x1), (.int x2), (.int x3)], ar x5 .byte [(.int (nar .byte (x1.toInt8.toInt32))), (.int (nar .byte (x2.toInt8.toInt32))), (.int (0 : Int32))]]
abbrev mem13 (x0 : Addr) (x1 : Int32) (x2 : Int32) (x3 : Int32) (x4 : Addr) (x5 : Addr) (x6 : Addr) : Mem := [ar x0 .byte [(.int (nar .byte ((x1 >>> ((0 : Int32) &&& 31)).toInt8.toInt32))), (.int (nar .byte ((x1 >>> ((8 : Int32) &&& 31)).toInt8.toInt32))), (.int (nar .byte ((x2 >>> ((0 : Int32) &&& 31)).toInt8.toInt32))), (.int (nar .byte ((x2 >>> ((8 : Int32) &&& 31)).toInt8.toInt32))), (.int (nar .byte ((x3 >>> ((0 : Int32) &&& 31)).toInt8.toInt32))), (.int (nar .byte ((x3 >>> ((8 : Int32) &&& 31)).toInt8.toInt32)))], ar x4 .char [(.int x1), (.int x2), (.int x3)], ar x5 .byte [(.int (nar .byte (x1.toInt8.toInt32))), (.int (nar .byte (x2.toInt8.toInt32))), (.int (0 : Int32))], ob x6 "java/lang/String" [("java/lang/String", "value", "[B", .null), ("java/lang/String", "coder", "B", (.int (0 : Int32)))]]
abbrev mem14 (x0 : Addr) (x1 : Int32) (x2 : Int32) (x3 : Int32) (x4 : Addr) (x5 : Addr) (x6 : Addr) : Mem := [ar x0 .byte [(.int (nar .byte ((x1 >>> ((0 : Int32) &&& 31)).toInt8.toInt32))), (.int (nar .byte ((x1 >>> ((8 : Int32) &&& 31)).toInt8.toInt32))), (.int (nar .byte ((x2 >>> ((0 : Int32) &&& 31)).toInt8.toInt32))), (.int (nar .byte ((x2 >>> ((8 : Int32) &&& 31)).toInt8.toInt32))), (.int (nar .byte ((x3 >>> ((0 : Int32) &&& 31)).toInt8.toInt32))), (.int (nar .byte ((x3 >>> ((8 : Int32) &&& 31)).toInt8.toInt32)))], ar x4 .char [(.int x1), (.int x2), (.int x3)], ar x5 .byte [(.int (nar .byte (x1.toInt8.toInt32))), (.int (nar .byte (x2.toInt8.toInt32))), (.int (0 : Int32))], ob x6 "java/lang/String" [("java/lang/String", "value", "[B", .null), ("java/lang/String", "coder", "B", (.int (1 : Int32)))]]
abbrev mem15 (x0 : Addr) (x1 : Int32) (x2 : Int32) (x3 : Int32) (x4 : Addr) (x5 : Addr) (x6 : Addr) : Mem := [ar x0 .byte [(.int (nar .byte ((x1 >>> ((0 : Int32) &&& 31)).toInt8.toInt32))), (.int (nar .byte ((x1 >>> ((8 : Int32) &&& 31)).toInt8.toInt32))), (.int (nar .byte ((x2 >>> ((0 : Int32) &&& 31)).toInt8.toInt32))), (.int (nar .byte ((x2 >>> ((8 : Int32) &&& 31)).toInt8.toInt32))), (.int (nar .byte ((x3 >>> ((0 : Int32) &&& 31)).toInt8.toInt32))), (.int (nar .byte ((x3 >>> ((8 : Int32) &&& 31)).toInt8.toInt32)))], ar x4 .char [(.int x1), (.int x2), (.int x3)], ar x5 .byte [(.int (nar .byte (x1.toInt8.toInt32))), (.int (nar .byte (x2.toInt8.toInt32))), (.int (0 : Int32))], ob x6 "java/lang/String" [("java/lang/String", "value", "[B", (.ref x0)), ("java/lang/String", "coder", "B", (.int (1 : Int32)))]]
abbrev mem16 (x0 : Addr) (x1 : Int32) (x2 : Int32) (x3 : Int32) (x4 : Addr) (x5 : Addr) (x6 : Addr) : Mem := [ar x0 .byte [(.int (nar .byte ((x1 >>> ((0 : Int32) &&& 31)).toInt8.toInt32))), (.int (nar .byte ((x1 >>> ((8 : Int32) &&& 31)).toInt8.toInt32))), (.int (nar .byte ((x2 >>> ((0 : Int32) &&& 31)).toInt8.toInt32))), (.int (nar .byte ((x2 >>> ((8 : Int32) &&& 31)).toInt8.toInt32))), (.int (nar .byte ((x3 >>> ((0 : Int32) &&& 31)).toInt8.toInt32))), (.int (nar .byte ((x3 >>> ((8 : Int32) &&& 31)).toInt8.toInt32)))], ob x4 "java/lang/String" [("java/lang/String", "value", "[B", (.ref x0)), ("java/lang/String", "coder", "B", (.int (1 : Int32)))], ar x5 .char [(.int x1), (.int x2), (.int x3)], ar x6 .byte [(.int (nar .byte (x1.toInt8.toInt32))), (.int (nar .byte (x2.toInt8.toInt32))), (.int (0 : Int32))]]
abbrev mem17 (x0 : Addr) (x1 : Int32) (x2 : Int32) (x3 : Int32) (x4 : Addr) : Mem := [ar x0 .byte [(.int (nar .byte ((x1 >>> ((0 : Int32) &&& 31)).toInt8.toInt32))), (.int (nar .byte ((x1 >>> ((8 : Int32) &&& 31)).toInt8.toInt32))), (.int (nar .byte ((x2 >>> ((0 : Int32) &&& 31)).toInt8.toInt32))), (.int (nar .byte ((x2 >>> ((8 : Int32) &&& 31)).toInt8.toInt32))), (.int (nar .byte ((x3 >>> ((0 : Int32) &&& 31)).toInt8.toInt32))), (.int (nar .byte ((x3 >>> ((8 : Int32) &&& 31)).toInt8.toInt32)))], ob x4 "java/lang/String" [("java/lang/String", "value", "[B", (.ref x0)), ("java/lang/String", "coder", "B", (.int (1 : Int32)))]]
abbrev mem18 (x0 : Addr) (x1 : Int32) (x2 : Int32) (x3 : Int32) (x4 : Addr) (x5 : Addr) : Mem := [ar x0 .byte [(.int (nar .byte ((x1 >>> ((0 : Int32) &&& 31)).toInt8.toInt32))), (.int (nar .byte ((x1 >>> ((8 : Int32) &&& 31)).toInt8.toInt32))), (.int (nar .byte ((x2 >>> ((0 : Int32) &&& 31)).toInt8.toInt32))), (.int (nar .byte ((x2 >>> ((8 : Int32) &&& 31)).toInt8.toInt32))), (.int (nar .byte ((x3 >>> ((0 : Int32) &&& 31)).toInt8.toInt32))), (.int (nar .byte ((x3 >>> ((8 : Int32) &&& 31)).toInt8.toInt32)))], ar x4 .char [(.int x1), (.int x2), (.int x3)], ar x5 .byte [(.int (nar .byte (x1.toInt8.toInt32))), (.int (0 : Int32)), (.int (0 : Int32))]]
abbrev mem19 (x0 : Addr) (x1 : Int32) (x2 : Int32) (x3 : Int32) (x4 : Addr) (x5 : Addr) (x6 : Addr) : Mem := [ar x0 .byte [(.int (nar .byte ((x1 >>> ((0 : Int32) &&& 31)).toInt8.toInt32))), (.int (nar .byte ((x1 >>> ((8 : Int32) &&& 31)).toInt8.toInt32))), (.int (nar .byte ((x2 >>> ((0 : Int32) &&& 31)).toInt8.toInt32))), (.int (nar .byte ((x2 >>> ((8 : Int32) &&& 31)).toInt8.toInt32))), (.int (nar .byte ((x3 >>> ((0 : Int32) &&& 31)).toInt8.toInt32))), (.int (nar .byte ((x3 >>> ((8 : Int32) &&& 31)).toInt8.toInt32)))], ar x4 .char [(.int x1), (.int x2), (.int x3)], ar x5 .byte [(.int (nar .byte (x1.toInt8.toInt32))), (.int (0 : Int32)), (.int (0 : Int32))], ob x6 "java/lang/String" [("java/lang/String", "value", "[B", .null), ("java/lang/String", "coder", "B", (.int (0 : Int32)))]]
abbrev mem20 (x0 : Addr) (x1 : Int32) (x2 : Int32) (x3 : Int32) (x4 : Addr) (x5 : Addr) (x6 : Addr) : Mem := [ar x0 .byte [(.int (nar .byte ((x1 >>> ((0 : Int32) &&& 31)).toInt8.toInt32))), (.int (nar .byte ((x1 >>> ((8 : Int32) &&& 31)).toInt8.toInt32))), (.int (nar .byte ((x2 >>> ((0 : Int32) &&& 31)).toInt8.toInt32))), (.int (nar .byte ((x2 >>> ((8 : Int32) &&& 31)).toInt8.toInt32))), (.int (nar .byte ((x3 >>> ((0 : Int32) &&& 31)).toInt8.toInt32))), (.int (nar .byte ((x3 >>> ((8 : Int32) &&& 31)).toInt8.toInt32)))], ar x4 .char [(.int x1), (.int x2), (.int x3)], ar x5 .byte [(.int (nar .byte (x1.toInt8.toInt32))), (.int (0 : Int32)), (.int (0 : Int32))], ob x6 "java/lang/String" [("java/lang/String", "value", "[B", .null), ("java/lang/String", "coder", "B", (.int (1 : Int32)))]]
abbrev mem21 (x0 : Addr) (x1 : Int32) (x2 : Int32) (x3 : Int32) (x4 : Addr) (x5 : Addr) (x6 : Addr) : Mem := [ar x0 .byte [(.int (nar .byte ((x1 >>> ((0 : Int32) &&& 31)).toInt8.toInt32))), (.int (nar .byte ((x1 >>> ((8 : Int32) &&& 31)).toInt8.toInt32))), (.int (nar .byte ((x2 >>> ((0 : Int32) &&& 31)).toInt8.toInt32))), (.int (nar .byte ((x2 >>> ((8 : Int32) &&& 31)).toInt8.toInt32))), (.int (nar .byte ((x3 >>> ((0 : Int32) &&& 31)).toInt8.toInt32))), (.int (nar .byte ((x3 >>> ((8 : Int32) &&& 31)).toInt8.toInt32)))], ar x4 .char [(.int x1), (.int x2), (.int x3)], ar x5 .byte [(.int (nar .byte (x1.toInt8.toInt32))), (.int (0 : Int32)), (.int (0 : Int32))], ob x6 "java/lang/String" [("java/lang/String", "value", "[B", (.ref x0)), ("java/lang/String", "coder", "B", (.int (1 : Int32)))]]
abbrev mem22 (x0 : Addr) (x1 : Int32) (x2 : Int32) (x3 : Int32) (x4 : Addr) (x5 : Addr) (x6 : Addr) : Mem := [ar x0 .byte [(.int (nar .byte ((x1 >>> ((0 : Int32) &&& 31)).toInt8.toInt32))), (.int (nar .byte ((x1 >>> ((8 : Int32) &&& 31)).toInt8.toInt32))), (.int (nar .byte ((x2 >>> ((0 : Int32) &&& 31)).toInt8.toInt32))), (.int (nar .byte ((x2 >>> ((8 : Int32) &&& 31)).toInt8.toInt32))), (.int (nar .byte ((x3 >>> ((0 : Int32) &&& 31)).toInt8.toInt32))), (.int (nar .byte ((x3 >>> ((8 : Int32) &&& 31)).toInt8.toInt32)))], ob x4 "java/lang/String" [("java/lang/String", "value", "[B", (.ref x0)), ("java/lang/String", "coder", "B", (.int (1 : Int32)))], ar x5 .char [(.int x1), (.int x2), (.int x3)], ar x6 .byte [(.int (nar .byte (x1.toInt8.toInt32))), (.int (0 : Int32)), (.int (0 : Int32))]]
abbrev mem23 (x0 : Addr) (x1 : Int32) (x2 : Int32) (x3 : Int32) (x4 : Addr) (x5 : Addr) : Mem := [ar x0 .byte [(.int (nar .byte ((x1 >>> ((0 : Int32) &&& 31)).toInt8.toInt32))), (.int (nar .byte ((x1 >>> ((8 : Int32) &&& 31)).toInt8.toInt32))), (.int (nar .byte ((x2 >>> ((0 : Int32) &&& 31)).toInt8.toInt32))), (.int (nar .byte ((x2 >>> ((8 : Int32) &&& 31)).toInt8.toInt32))), (.int (nar .byte ((x3 >>> ((0 : Int32) &&& 31)).toInt8.toInt32))), (.int (nar .byte ((x3 >>> ((8 : Int32) &&& 31)).toInt8.toInt32)))], ar x4 .char [(.int x1), (.int x2), (.int x3)], ar x5 .byte [(.int (0 : Int32)), (.int (0 : Int32)), (.int (0 : Int32))]]
abbrev mem24 (x0 : Addr) (x1 : Int32) (x2 : Int32) (x3 : Int32) (x4 : Addr) (x5 : Addr) (x6 : Addr) : Mem := [ar x0 .byte [(.int (nar .byte ((x1 >>> ((0 : Int32) &&& 31)).toInt8.toInt32))), (.int (nar .byte ((x1 >>> ((8 : Int32) &&& 31)).toInt8.toInt32))), (.int (nar .byte ((x2 >>> ((0 : Int32) &&& 31)).toInt8.toInt32))), (.int (nar .byte ((x2 >>> ((8 : Int32) &&& 31)).toInt8.toInt32))), (.int (nar .byte ((x3 >>> ((0 : Int32) &&& 31)).toInt8.toInt32))), (.int (nar .byte ((x3 >>> ((8 : Int32) &&& 31)).toInt8.toInt32)))], ar x4 .char [(.int x1), (.int x2), (.int x3)], ar x5 .byte [(.int (0 : Int32)), (.int (0 : Int32)), (.int (0 : Int32))], ob x6 "java/lang/String" [("java/lang/String", "value", "[B", .null), ("java/lang/String", "coder", "B", (.int (0 : Int32)))]]
abbrev mem25 (x0 : Addr) (x1 : Int32) (x2 : Int32) (x3 : Int32) (x4 : Addr) (x5 : Addr) (x6 : Addr) : Mem := [ar x0 .byte [(.int (nar .byte ((x1 >>> ((0 : Int32) &&& 31)).toInt8.toInt32))), (.int (nar .byte ((x1 >>> ((8 : Int32) &&& 31)).toInt8.toInt32))), (.int (nar .byte ((x2 >>> ((0 : Int32) &&& 31)).toInt8.toInt32))), (.int (nar .byte ((x2 >>> ((8 : Int32) &&& 31)).toInt8.toInt32))), (.int (nar .byte ((x3 >>> ((0 : Int32) &&& 31)).toInt8.toInt32))), (.int (nar .byte ((x3 >>> ((8 : Int32) &&& 31)).toInt8.toInt32)))], ar x4 .char [(.int x1), (.int x2), (.int x3)], ar x5 .byte [(.int (0 : Int32)), (.int (0 : Int32)), (.int (0 : Int32))], ob x6 "java/lang/String" [("java/lang/String", "value", "[B", .null), ("java/lang/String", "coder", "B", (.int (1 : Int32)))]]
abbrev mem26 (x0 : Addr) (x1 : Int32) (x2 : Int32) (x3 : Int32) (x4 : Addr) (x5 : Addr) (x6 : Addr) : Mem := [ar x0 .byte [(.int (nar .byte ((x1 >>> ((0 : Int32) &&& 31)).toInt8.toInt32))), (.int (nar .byte ((x1 >>> ((8 : Int32) &&& 31)).toInt8.toInt32))), (.int (nar .byte ((x2 >>> ((0 : Int32) &&& 31)).toInt8.toInt32))), (.int (nar .byte ((x2 >>> ((8 : Int32) &&& 31)).toInt8.toInt32))), (.int (nar .byte ((x3 >>> ((0 : Int32) &&& 31)).toInt8.toInt32))), (.int (nar .byte ((x3 >>> ((8 : Int32) &&& 31)).toInt8.toInt32)))], ar x4 .char [(.int x1), (.int x2), (.int x3)], ar x5 .byte [(.int (0 : Int32)), (.int (0 : Int32)), (.int (0 : Int32))], ob x6 "java/lang/String" [("java/lang/String", "value", "[B", (.ref x0)), ("java/lang/String", "coder", "B", (.int (1 : Int32)))]]
abbrev mem27 (x0 : Addr) (x1 : Int32) (x2 : Int32) (x3 : Int32) (x4 : Addr) (x5 : Addr) (x6 : Addr) : Mem := [ar x0 .byte [(.int (nar .byte ((x1 >>> ((0 : Int32) &&& 31)).toInt8.toInt32))), (.int (nar .byte ((x1 >>> ((8 : Int32) &&& 31)).toInt8.toInt32))), (.int (nar .byte ((x2 >>> ((0 : Int32) &&& 31)).toInt8.toInt32))), (.int (nar .byte ((x2 >>> ((8 : Int32) &&& 31)).toInt8.toInt32))), (.int (nar .byte ((x3 >>> ((0 : Int32) &&& 31)).toInt8.toInt32))), (.int (nar .byte ((x3 >>> ((8 : Int32) &&& 31)).toInt8.toInt32)))], ob x4 "java/lang/String" [("java/lang/String", "value", "[B", (.ref x0)), ("java/lang/String", "coder", "B", (.int (1 : Int32)))], ar x5 .char [(.int x1), (.int x2), (.int x3)], ar x6 .byte [(.int (0 : Int32)), (.int (0 : Int32)), (.int (0 : Int32))]]

theorem d1_0 : decode method_3_code 0 = .ok (.iload_n 0, 1) := by decide +kernel
theorem d1_1 : decode method_3_code 1 = .ok (.bipush 16, 2) := by decide +kernel
theorem d1_3 : decode method_3_code 3 = .ok (.iushr, 1) := by decide +kernel
theorem d1_4 : decode method_3_code 4 = .ok (.iconst 1, 1) := by decide +kernel
theorem d1_5 : decode method_3_code 5 = .ok (.iand, 1) := by decide +kernel
theorem d1_6 : decode method_3_code 6 = .ok (.ifCond .eq 9, 3) := by decide +kernel
theorem d1_9 : decode method_3_code 9 = .ok (.iload_n 0, 1) := by decide +kernel
theorem d1_10 : decode method_3_code 10 = .ok (.ldc 28, 2) := by decide +kernel
theorem d1_12 : decode method_3_code 12 = .ok (.iand, 1) := by decide +kernel
theorem d1_13 : decode method_3_code 13 = .ok (.i2c, 1) := by decide +kernel
theorem d1_14 : decode method_3_code 14 = .ok (.ireturn, 1) := by decide +kernel
theorem d1_15 : decode method_3_code 15 = .ok (.iload_n 0, 1) := by decide +kernel
theorem d1_16 : decode method_3_code 16 = .ok (.sipush 511, 3) := by decide +kernel
theorem d1_19 : decode method_3_code 19 = .ok (.iand, 1) := by decide +kernel
theorem d1_20 : decode method_3_code 20 = .ok (.i2c, 1) := by decide +kernel
theorem d1_21 : decode method_3_code 21 = .ok (.ireturn, 1) := by decide +kernel
theorem pn1 : plainFor (⟨"com/example/tool_port/toolport/http/HttpSyntaxIsFieldValuePinLaw", "draw", "(I)C"⟩ : MethodName) = true := by first | (apply plainFor_of_name; simp [plainName, overriddenIn]; done) | decide +kernel
def B1 : Bdy := (⟨"com/example/tool_port/toolport/http/HttpSyntaxIsFieldValuePinLaw", "draw", "(I)C"⟩, method_3_code, 1, (some .char), ({ frames := 0, cells := 0, slots := 0, locals := 0 } : Room))
set_option maxRecDepth 65536 in
set_option maxHeartbeats 4000000 in
theorem m_draw (Z : State) (a0 : Array Value) (hw : ∀ d ∈ tables_1, d.before a0 Z = true) (h0 : Heap) (ds : Mem) (p1 : Int32) :
    Met B1 Z a0 h0 #[(.int p1)] ds (fun v ds' => ∃ z : Int32, v = some (.int z) ∧ ds = ds' ∧ (0 ≤ z.toInt ∧ z.toInt ≤ 65535)) := by
  refine Met.of pn1 (ls := #[.val (.int p1)]) (fun m => by first | (simp [entryFrame, mkF, argsToLocals, Value.category, B1]; done) | rfl) ?_
  show Go B1 Z a0 h0 _ 0 0 ds 0 #[.val (.int p1)] []
  refine go_iloadN 1 rfl d1_0 rfl ?_
  refine go_bipush (16 : Int32) 3 rfl d1_1 rfl ?_
  refine go_iushr 4 rfl d1_3 rfl ?_
  refine go_iconst (1 : Int32) 5 rfl d1_4 rfl ?_
  refine go_iand 6 rfl d1_5 rfl ?_
  refine go_if 15 9 rfl (by decide) rfl d1_6 rfl (fun (hc6_0 : (((p1.toUInt32 >>> ((16 : Int32) &&& 31).toUInt32).toInt32) &&& (1 : Int32)).toInt = 0) => ?_) (fun (hc6_0 : ¬ ((((p1.toUInt32 >>> ((16 : Int32) &&& 31).toUInt32).toInt32) &&& (1 : Int32)).toInt = 0)) => ?_)
  · refine go_iloadN 16 rfl d1_15 rfl ?_
    refine go_sipush (511 : Int32) 19 rfl d1_16 rfl ?_
    refine go_iand 20 rfl d1_19 rfl ?_
    refine go_i2c 21 rfl d1_20 rfl ?_
    exact go_ireturn d1_21 rfl (Or.inr (Or.inr (Or.inr (Or.inl rfl)))) rfl (congrArg Value.int (nar_c _)) (by decide) (by decide) ⟨_, rfl, rfl, by have := c_i2c (p1 &&& (511 : Int32)); omega⟩
  · refine go_iloadN 10 rfl d1_9 rfl ?_
    refine go_ldc (v := (65535 : Int32)) 12 rfl d1_10 (wd hw 79 rfl) ?_
    refine go_iand 13 rfl d1_12 rfl ?_
    refine go_i2c 14 rfl d1_13 rfl ?_
    exact go_ireturn d1_14 rfl (Or.inr (Or.inr (Or.inr (Or.inl rfl)))) rfl (congrArg Value.int (nar_c _)) (by decide) (by decide) ⟨_, rfl, rfl, by have := c_i2c (p1 &&& (65535 : Int32)); omega⟩
theorem d11_0 : decode method_4_code 0 = .ok (.iload_n 0, 1) := by decide +kernel
theorem d11_1 : decode method_4_code 1 = .ok (.istore_n 1, 1) := by decide +kernel
theorem d11_2 : decode method_4_code 2 = .ok (.iload_n 1, 1) := by decide +kernel
theorem d11_3 : decode method_4_code 3 = .ok (.bipush 9, 2) := by decide +kernel
theorem d11_5 : decode method_4_code 5 = .ok (.if_icmp .ne 5, 3) := by decide +kernel
theorem d11_8 : decode method_4_code 8 = .ok (.iconst 1, 1) := by decide +kernel
theorem d11_9 : decode method_4_code 9 = .ok (.ireturn, 1) := by decide +kernel
theorem d11_10 : decode method_4_code 10 = .ok (.iload_n 1, 1) := by decide +kernel
theorem d11_11 : decode method_4_code 11 = .ok (.bipush 32, 2) := by decide +kernel
theorem d11_13 : decode method_4_code 13 = .ok (.if_icmp .ge 5, 3) := by decide +kernel
theorem d11_16 : decode method_4_code 16 = .ok (.iconst 0, 1) := by decide +kernel
theorem d11_17 : decode method_4_code 17 = .ok (.ireturn, 1) := by decide +kernel
theorem d11_18 : decode method_4_code 18 = .ok (.iload_n 1, 1) := by decide +kernel
theorem d11_19 : decode method_4_code 19 = .ok (.bipush 126, 2) := by decide +kernel
theorem d11_21 : decode method_4_code 21 = .ok (.if_icmp .gt 5, 3) := by decide +kernel
theorem d11_24 : decode method_4_code 24 = .ok (.iconst 1, 1) := by decide +kernel
theorem d11_25 : decode method_4_code 25 = .ok (.ireturn, 1) := by decide +kernel
theorem d11_26 : decode method_4_code 26 = .ok (.iload_n 1, 1) := by decide +kernel
theorem d11_27 : decode method_4_code 27 = .ok (.bipush 127, 2) := by decide +kernel
theorem d11_29 : decode method_4_code 29 = .ok (.if_icmp .ne 5, 3) := by decide +kernel
theorem d11_32 : decode method_4_code 32 = .ok (.iconst 0, 1) := by decide +kernel
theorem d11_33 : decode method_4_code 33 = .ok (.ireturn, 1) := by decide +kernel
theorem d11_34 : decode method_4_code 34 = .ok (.iload_n 1, 1) := by decide +kernel
theorem d11_35 : decode method_4_code 35 = .ok (.sipush 255, 3) := by decide +kernel
theorem d11_38 : decode method_4_code 38 = .ok (.if_icmp .gt 7, 3) := by decide +kernel
theorem d11_41 : decode method_4_code 41 = .ok (.iconst 1, 1) := by decide +kernel
theorem d11_42 : decode method_4_code 42 = .ok (.goto 4, 3) := by decide +kernel
theorem d11_45 : decode method_4_code 45 = .ok (.iconst 0, 1) := by decide +kernel
theorem d11_46 : decode method_4_code 46 = .ok (.ireturn, 1) := by decide +kernel
theorem pn11 : plainFor (⟨"com/example/tool_port/toolport/http/HttpSyntaxIsFieldValuePinLaw", "ok", "(C)Z"⟩ : MethodName) = true := by first | (apply plainFor_of_name; simp [plainName, overriddenIn]; done) | decide +kernel
def B11 : Bdy := (⟨"com/example/tool_port/toolport/http/HttpSyntaxIsFieldValuePinLaw", "ok", "(C)Z"⟩, method_4_code, 2, (some .boolean), ({ frames := 0, cells := 0, slots := 0, locals := 0 } : Room))
set_option maxRecDepth 65536 in
set_option maxHeartbeats 4000000 in
theorem m_ok (Z : State) (a0 : Array Value) (hw : ∀ d ∈ tables_1, d.before a0 Z = true) (h0 : Heap) (ds : Mem) (p1 : Int32) :
    Met B11 Z a0 h0 #[(.int p1)] ds (Qz (p1.toInt = 9 ∨ (32 ≤ p1.toInt ∧ p1.toInt ≠ 127 ∧ p1.toInt ≤ 255)) ds) := by
  refine Met.of pn11 (ls := #[.val (.int p1), .unset]) (fun m => by first | (simp [entryFrame, mkF, argsToLocals, Value.category, B11]; done) | rfl) ?_
  show Go B11 Z a0 h0 _ 0 0 ds 0 #[.val (.int p1), .unset] []
  refine go_iloadN 1 rfl d11_0 rfl ?_
  refine go_istoreN #[.val (.int p1), .val (.int p1)] 2 rfl d11_1 rfl rfl ?_
  refine go_iloadN 3 rfl d11_2 rfl ?_
  refine go_bipush (9 : Int32) 5 rfl d11_3 rfl ?_
  refine go_icmp 10 8 rfl (by decide) rfl d11_5 rfl (fun (hc5_1 : p1.toInt ≠ (9 : Int)) => ?_) (fun (hc5_1 : ¬ (p1.toInt ≠ (9 : Int))) => ?_)
  · refine go_iloadN 11 rfl d11_10 rfl ?_
    refine go_bipush (32 : Int32) 13 rfl d11_11 rfl ?_
    refine go_icmp 18 16 rfl (by decide) rfl d11_13 rfl (fun (hc13_2 : (32 : Int) ≤ p1.toInt) => ?_) (fun (hc13_2 : ¬ ((32 : Int) ≤ p1.toInt)) => ?_)
    · refine go_iloadN 19 rfl d11_18 rfl ?_
      refine go_bipush (126 : Int32) 21 rfl d11_19 rfl ?_
      refine go_icmp 26 24 rfl (by decide) rfl d11_21 rfl (fun (hc21_3 : (126 : Int) < p1.toInt) => ?_) (fun (hc21_3 : ¬ ((126 : Int) < p1.toInt)) => ?_)
      · refine go_iloadN 27 rfl d11_26 rfl ?_
        refine go_bipush (127 : Int32) 29 rfl d11_27 rfl ?_
        refine go_icmp 34 32 rfl (by decide) rfl d11_29 rfl (fun (hc29_4 : p1.toInt ≠ (127 : Int)) => ?_) (fun (hc29_4 : ¬ (p1.toInt ≠ (127 : Int))) => ?_)
        · refine go_iloadN 35 rfl d11_34 rfl ?_
          refine go_sipush (255 : Int32) 38 rfl d11_35 rfl ?_
          refine go_icmp 45 41 rfl (by decide) rfl d11_38 rfl (fun (hc38_5 : (255 : Int) < p1.toInt) => ?_) (fun (hc38_5 : ¬ ((255 : Int) < p1.toInt)) => ?_)
          · refine go_iconst (0 : Int32) 46 rfl d11_45 rfl ?_
            exact go_ireturn d11_46 rfl (Or.inr (Or.inl rfl)) rfl rfl (by decide) (by decide) ⟨_, rfl, rfl, Or.inr ⟨rfl, by omega⟩⟩
          · refine go_iconst (1 : Int32) 42 rfl d11_41 rfl ?_
            refine go_goto 46 (by decide) rfl d11_42 ?_
            exact go_ireturn d11_46 rfl (Or.inr (Or.inl rfl)) rfl rfl (by decide) (by decide) ⟨_, rfl, rfl, Or.inl ⟨rfl, by omega⟩⟩
        · refine go_iconst (0 : Int32) 33 rfl d11_32 rfl ?_
          exact go_ireturn d11_33 rfl (Or.inr (Or.inl rfl)) rfl rfl (by decide) (by decide) ⟨_, rfl, rfl, Or.inr ⟨rfl, by omega⟩⟩
      · refine go_iconst (1 : Int32) 25 rfl d11_24 rfl ?_
        exact go_ireturn d11_25 rfl (Or.inr (Or.inl rfl)) rfl rfl (by decide) (by decide) ⟨_, rfl, rfl, Or.inl ⟨rfl, by omega⟩⟩
    · refine go_iconst (0 : Int32) 17 rfl d11_16 rfl ?_
      exact go_ireturn d11_17 rfl (Or.inr (Or.inl rfl)) rfl rfl (by decide) (by decide) ⟨_, rfl, rfl, Or.inr ⟨rfl, by omega⟩⟩
  · refine go_iconst (1 : Int32) 9 rfl d11_8 rfl ?_
    exact go_ireturn d11_9 rfl (Or.inr (Or.inl rfl)) rfl rfl (by decide) (by decide) ⟨_, rfl, rfl, Or.inl ⟨rfl, by omega⟩⟩
theorem d17_0 : decode prog_33_method_5_code 0 = .ok (.iload_n 0, 1) := by decide +kernel
theorem d17_1 : decode prog_33_method_5_code 1 = .ok (.bipush 9, 2) := by decide +kernel
theorem d17_3 : decode prog_33_method_5_code 3 = .ok (.if_icmp .eq 22, 3) := by decide +kernel
theorem d17_6 : decode prog_33_method_5_code 6 = .ok (.iload_n 0, 1) := by decide +kernel
theorem d17_7 : decode prog_33_method_5_code 7 = .ok (.bipush 32, 2) := by decide +kernel
theorem d17_9 : decode prog_33_method_5_code 9 = .ok (.if_icmp .lt 20, 3) := by decide +kernel
theorem d17_12 : decode prog_33_method_5_code 12 = .ok (.iload_n 0, 1) := by decide +kernel
theorem d17_13 : decode prog_33_method_5_code 13 = .ok (.bipush 127, 2) := by decide +kernel
theorem d17_15 : decode prog_33_method_5_code 15 = .ok (.if_icmp .eq 14, 3) := by decide +kernel
theorem d17_18 : decode prog_33_method_5_code 18 = .ok (.iload_n 0, 1) := by decide +kernel
theorem d17_19 : decode prog_33_method_5_code 19 = .ok (.sipush 255, 3) := by decide +kernel
theorem d17_22 : decode prog_33_method_5_code 22 = .ok (.if_icmp .gt 7, 3) := by decide +kernel
theorem d17_25 : decode prog_33_method_5_code 25 = .ok (.iconst 1, 1) := by decide +kernel
theorem d17_26 : decode prog_33_method_5_code 26 = .ok (.goto 4, 3) := by decide +kernel
theorem d17_29 : decode prog_33_method_5_code 29 = .ok (.iconst 0, 1) := by decide +kernel
theorem d17_30 : decode prog_33_method_5_code 30 = .ok (.ireturn, 1) := by decide +kernel
theorem pn17 : plainFor (⟨"com/example/tool_port/toolport/http/HttpSyntax", "isFieldValueChar", "(I)Z"⟩ : MethodName) = true := by first | (apply plainFor_of_name; simp [plainName, overriddenIn]; done) | decide +kernel
def B17 : Bdy := (⟨"com/example/tool_port/toolport/http/HttpSyntax", "isFieldValueChar", "(I)Z"⟩, prog_33_method_5_code, 1, (some .boolean), ({ frames := 0, cells := 0, slots := 0, locals := 0 } : Room))
set_option maxRecDepth 65536 in
set_option maxHeartbeats 4000000 in
theorem m_isFieldValueChar (Z : State) (a0 : Array Value) (hw : ∀ d ∈ tables_1, d.before a0 Z = true) (h0 : Heap) (ds : Mem) (p1 : Int32) :
    Met B17 Z a0 h0 #[(.int p1)] ds (Qz (p1.toInt = 9 ∨ (32 ≤ p1.toInt ∧ p1.toInt ≠ 127 ∧ p1.toInt ≤ 255)) ds) := by
  refine Met.of pn17 (ls := #[.val (.int p1)]) (fun m => by first | (simp [entryFrame, mkF, argsToLocals, Value.category, B17]; done) | rfl) ?_
  show Go B17 Z a0 h0 _ 0 0 ds 0 #[.val (.int p1)] []
  refine go_iloadN 1 rfl d17_0 rfl ?_
  refine go_bipush (9 : Int32) 3 rfl d17_1 rfl ?_
  refine go_icmp 25 6 rfl (by decide) rfl d17_3 rfl (fun (hc3_6 : p1.toInt = (9 : Int)) => ?_) (fun (hc3_6 : ¬ (p1.toInt = (9 : Int))) => ?_)
  · refine go_iconst (1 : Int32) 26 rfl d17_25 rfl ?_
    refine go_goto 30 (by decide) rfl d17_26 ?_
    exact go_ireturn d17_30 rfl (Or.inr (Or.inl rfl)) rfl rfl (by decide) (by decide) ⟨_, rfl, rfl, Or.inl ⟨rfl, by omega⟩⟩
  · refine go_iloadN 7 rfl d17_6 rfl ?_
    refine go_bipush (32 : Int32) 9 rfl d17_7 rfl ?_
    refine go_icmp 29 12 rfl (by decide) rfl d17_9 rfl (fun (hc9_7 : p1.toInt < (32 : Int)) => ?_) (fun (hc9_7 : ¬ (p1.toInt < (32 : Int))) => ?_)
    · refine go_iconst (0 : Int32) 30 rfl d17_29 rfl ?_
      exact go_ireturn d17_30 rfl (Or.inr (Or.inl rfl)) rfl rfl (by decide) (by decide) ⟨_, rfl, rfl, Or.inr ⟨rfl, by omega⟩⟩
    · refine go_iloadN 13 rfl d17_12 rfl ?_
      refine go_bipush (127 : Int32) 15 rfl d17_13 rfl ?_
      refine go_icmp 29 18 rfl (by decide) rfl d17_15 rfl (fun (hc15_8 : p1.toInt = (127 : Int)) => ?_) (fun (hc15_8 : ¬ (p1.toInt = (127 : Int))) => ?_)
      · refine go_iconst (0 : Int32) 30 rfl d17_29 rfl ?_
        exact go_ireturn d17_30 rfl (Or.inr (Or.inl rfl)) rfl rfl (by decide) (by decide) ⟨_, rfl, rfl, Or.inr ⟨rfl, by omega⟩⟩
      · refine go_iloadN 19 rfl d17_18 rfl ?_
        refine go_sipush (255 : Int32) 22 rfl d17_19 rfl ?_
        refine go_icmp 29 25 rfl (by decide) rfl d17_22 rfl (fun (hc22_9 : (255 : Int) < p1.toInt) => ?_) (fun (hc22_9 : ¬ ((255 : Int) < p1.toInt)) => ?_)
        · refine go_iconst (0 : Int32) 30 rfl d17_29 rfl ?_
          exact go_ireturn d17_30 rfl (Or.inr (Or.inl rfl)) rfl rfl (by decide) (by decide) ⟨_, rfl, rfl, Or.inr ⟨rfl, by omega⟩⟩
        · refine go_iconst (1 : Int32) 26 rfl d17_25 rfl ?_
          refine go_goto 30 (by decide) rfl d17_26 ?_
          exact go_ireturn d17_30 rfl (Or.inr (Or.inl rfl)) rfl rfl (by decide) (by decide) ⟨_, rfl, rfl, Or.inl ⟨rfl, by omega⟩⟩
theorem d9_0 : decode jdk_52_method_21_code 0 = .ok (.iconst 0, 1) := by decide +kernel
theorem d9_1 : decode jdk_52_method_21_code 1 = .ok (.istore 5, 2) := by decide +kernel
theorem d9_3 : decode jdk_52_method_21_code 3 = .ok (.iload 5, 2) := by decide +kernel
theorem d9_5 : decode jdk_52_method_21_code 5 = .ok (.iload 4, 2) := by decide +kernel
theorem d9_7 : decode jdk_52_method_21_code 7 = .ok (.if_icmp .ge 37, 3) := by decide +kernel
theorem d9_10 : decode jdk_52_method_21_code 10 = .ok (.aload_n 0, 1) := by decide +kernel
theorem d9_11 : decode jdk_52_method_21_code 11 = .ok (.iload_n 1, 1) := by decide +kernel
theorem d9_12 : decode jdk_52_method_21_code 12 = .ok (.caload, 1) := by decide +kernel
theorem d9_13 : decode jdk_52_method_21_code 13 = .ok (.istore 6, 2) := by decide +kernel
theorem d9_15 : decode jdk_52_method_21_code 15 = .ok (.iload 6, 2) := by decide +kernel
theorem d9_17 : decode jdk_52_method_21_code 17 = .ok (.sipush 255, 3) := by decide +kernel
theorem d9_20 : decode jdk_52_method_21_code 20 = .ok (.if_icmp .le 6, 3) := by decide +kernel
theorem d9_26 : decode jdk_52_method_21_code 26 = .ok (.aload_n 2, 1) := by decide +kernel
theorem d9_27 : decode jdk_52_method_21_code 27 = .ok (.iload_n 3, 1) := by decide +kernel
theorem d9_28 : decode jdk_52_method_21_code 28 = .ok (.iload 6, 2) := by decide +kernel
theorem d9_30 : decode jdk_52_method_21_code 30 = .ok (.i2b, 1) := by decide +kernel
theorem d9_31 : decode jdk_52_method_21_code 31 = .ok (.bastore, 1) := by decide +kernel
theorem d9_32 : decode jdk_52_method_21_code 32 = .ok (.iinc 1 1, 3) := by decide +kernel
theorem d9_35 : decode jdk_52_method_21_code 35 = .ok (.iinc 3 1, 3) := by decide +kernel
theorem d9_38 : decode jdk_52_method_21_code 38 = .ok (.iinc 5 1, 3) := by decide +kernel
theorem d9_41 : decode jdk_52_method_21_code 41 = .ok (.goto (-38), 3) := by decide +kernel
theorem d9_44 : decode jdk_52_method_21_code 44 = .ok (.iload 4, 2) := by decide +kernel
theorem d9_46 : decode jdk_52_method_21_code 46 = .ok (.ireturn, 1) := by decide +kernel
theorem pn9 : plainFor (⟨"java/lang/StringUTF16", "compress", "([CI[BII)I"⟩ : MethodName) = true := by first | (apply plainFor_of_name; simp [plainName, overriddenIn]; done) | decide +kernel
def B9_14 : Bdy := (⟨"java/lang/StringUTF16", "compress", "([CI[BII)I"⟩, jdk_52_method_21_code, 7, (some .int), ({ frames := 0, cells := 0, slots := 0, locals := 0 } : Room))
set_option maxRecDepth 65536 in
set_option maxHeartbeats 4000000 in
theorem mt14 (Z : State) (a0 : Array Value) (hw : ∀ d ∈ tables_1, d.before a0 Z = true) (h0 : Heap) (zc : Int32) (r99 : Value) (SS : Sts Z h0 zc r99) (z0 : Int32) (h_0 : 0 ≤ z0.toInt ∧ z0.toInt ≤ 65535) (g0 : z0.toInt ≤ 255) (a2 : Addr) (a303 : Addr) :
    Met B9_14 Z a0 h0 #[(.ref a2), (.int (0 : Int32)), (.ref a303), (.int (0 : Int32)), (.int (1 : Int32))] [ar a2 .char [(.int z0)], ar a303 .byte [(.int (0 : Int32))]] (Ret (some (.int (1 : Int32))) [ar a2 .char [(.int z0)], ar a303 .byte [(.int (nar .byte (z0.toInt8.toInt32)))]]) := by
  refine Met.of pn9 (ls := #[.val (.ref a2), .val (.int (0 : Int32)), .val (.ref a303), .val (.int (0 : Int32)), .val (.int (1 : Int32)), .unset, .unset]) (fun m => by first | (simp [entryFrame, mkF, argsToLocals, Value.category, B9_14]; done) | rfl) ?_
  show Go B9_14 Z a0 h0 _ 0 0 [ar a2 .char [(.int z0)], ar a303 .byte [(.int (0 : Int32))]] 0 #[.val (.ref a2), .val (.int (0 : Int32)), .val (.ref a303), .val (.int (0 : Int32)), .val (.int (1 : Int32)), .unset, .unset] []
  refine go_iconst (0 : Int32) 1 rfl d9_0 rfl ?_
  refine go_istore #[.val (.ref a2), .val (.int (0 : Int32)), .val (.ref a303), .val (.int (0 : Int32)), .val (.int (1 : Int32)), .val (.int (0 : Int32)), .unset] 3 rfl d9_1 rfl rfl ?_
  refine go_iload 5 rfl d9_3 rfl ?_
  refine go_iload 7 rfl d9_5 rfl ?_
  refine go_icmp 44 10 rfl (by decide) rfl d9_7 rfl (fun (hc7 : (1 : Int) ≤ (0 : Int)) => absurd hc7 (by decide)) (fun (hc7 : ¬ ((1 : Int) ≤ (0 : Int))) => ?_)
  refine go_aloadN 11 rfl d9_10 rfl rfl ?_
  refine go_iloadN 12 rfl d9_11 rfl ?_
  refine go_caload 13 rfl d9_12 rfl (Mo.el (i := 0) rfl (by decide) rfl) ?_
  refine go_istore #[.val (.ref a2), .val (.int (0 : Int32)), .val (.ref a303), .val (.int (0 : Int32)), .val (.int (1 : Int32)), .val (.int (0 : Int32)), .val (.int z0)] 15 rfl d9_13 rfl rfl ?_
  refine go_iload 17 rfl d9_15 rfl ?_
  refine go_sipush (255 : Int32) 20 rfl d9_17 rfl ?_
  refine go_icmp 26 23 rfl (by decide) rfl d9_20 rfl (fun (hc20 : z0.toInt ≤ (255 : Int)) => ?_) (fun (hc20 : ¬ (z0.toInt ≤ (255 : Int))) => absurd hc20 (by omega))
  refine go_aloadN 27 rfl d9_26 rfl rfl ?_
  refine go_iloadN 28 rfl d9_27 rfl ?_
  refine go_iload 30 rfl d9_28 rfl ?_
  refine go_i2b 31 rfl d9_30 rfl ?_
  refine go_bastore 1 32 rfl d9_31 rfl rfl (by decide) (Nat.le_of_ble_eq_true rfl) ?_
  show Go B9_14 Z a0 h0 _ 0 0 [ar a2 .char [(.int z0)], ar a303 .byte [(.int (nar .byte (z0.toInt8.toInt32)))]] 32 #[.val (.ref a2), .val (.int (0 : Int32)), .val (.ref a303), .val (.int (0 : Int32)), .val (.int (1 : Int32)), .val (.int (0 : Int32)), .val (.int z0)] []
  refine go_iinc #[.val (.ref a2), .val (.int (1 : Int32)), .val (.ref a303), .val (.int (0 : Int32)), .val (.int (1 : Int32)), .val (.int (0 : Int32)), .val (.int z0)] 35 rfl d9_32 rfl rfl ?_
  refine go_iinc #[.val (.ref a2), .val (.int (1 : Int32)), .val (.ref a303), .val (.int (1 : Int32)), .val (.int (1 : Int32)), .val (.int (0 : Int32)), .val (.int z0)] 38 rfl d9_35 rfl rfl ?_
  refine go_iinc #[.val (.ref a2), .val (.int (1 : Int32)), .val (.ref a303), .val (.int (1 : Int32)), .val (.int (1 : Int32)), .val (.int (1 : Int32)), .val (.int z0)] 41 rfl d9_38 rfl rfl ?_
  refine go_goto 3 (by decide) rfl d9_41 ?_
  refine go_iload 5 rfl d9_3 rfl ?_
  refine go_iload 7 rfl d9_5 rfl ?_
  refine go_icmp 44 10 rfl (by decide) rfl d9_7 rfl (fun (hc7 : (1 : Int) ≤ (1 : Int)) => ?_) (fun (hc7 : ¬ ((1 : Int) ≤ (1 : Int))) => absurd hc7 (by decide))
  refine go_iload 46 rfl d9_44 rfl ?_
  exact go_ireturn d9_46 rfl (Or.inl rfl) rfl rfl (by decide) (by decide) ⟨rfl, rfl⟩
theorem d8_0 : decode jdk_52_method_16_code 0 = .ok (.iload_n 2, 1) := by decide +kernel
theorem d8_1 : decode jdk_52_method_16_code 1 = .ok (.newarray .byte, 2) := by decide +kernel
theorem d8_3 : decode jdk_52_method_16_code 3 = .ok (.astore_n 3, 1) := by decide +kernel
theorem d8_4 : decode jdk_52_method_16_code 4 = .ok (.aload_n 0, 1) := by decide +kernel
theorem d8_5 : decode jdk_52_method_16_code 5 = .ok (.iload_n 1, 1) := by decide +kernel
theorem d8_6 : decode jdk_52_method_16_code 6 = .ok (.aload_n 3, 1) := by decide +kernel
theorem d8_7 : decode jdk_52_method_16_code 7 = .ok (.iconst 0, 1) := by decide +kernel
theorem d8_8 : decode jdk_52_method_16_code 8 = .ok (.iload_n 2, 1) := by decide +kernel
theorem d8_9 : decode jdk_52_method_16_code 9 = .ok (.invokestatic 115, 3) := by decide +kernel
theorem d8_12 : decode jdk_52_method_16_code 12 = .ok (.istore 4, 2) := by decide +kernel
theorem d8_14 : decode jdk_52_method_16_code 14 = .ok (.iload 4, 2) := by decide +kernel
theorem d8_16 : decode jdk_52_method_16_code 16 = .ok (.iload_n 2, 1) := by decide +kernel
theorem d8_17 : decode jdk_52_method_16_code 17 = .ok (.if_icmp .eq 40, 3) := by decide +kernel
theorem d8_57 : decode jdk_52_method_16_code 57 = .ok (.aload_n 3, 1) := by decide +kernel
theorem d8_58 : decode jdk_52_method_16_code 58 = .ok (.areturn, 1) := by decide +kernel
theorem pn8 : plainFor (⟨"java/lang/StringUTF16", "compress", "([CII)[B"⟩ : MethodName) = true := by first | (apply plainFor_of_name; simp [plainName, overriddenIn]; done) | decide +kernel
def B8_13 : Bdy := (⟨"java/lang/StringUTF16", "compress", "([CII)[B"⟩, jdk_52_method_16_code, 6, (some (.array .byte)), ({ frames := 1, cells := 1, slots := 1, locals := 18 } : Room))
set_option maxRecDepth 65536 in
set_option maxHeartbeats 4000000 in
theorem mt13 (Z : State) (a0 : Array Value) (hw : ∀ d ∈ tables_1, d.before a0 Z = true) (h0 : Heap) (zc : Int32) (r99 : Value) (SS : Sts Z h0 zc r99) (z0 : Int32) (h_0 : 0 ≤ z0.toInt ∧ z0.toInt ≤ 65535) (g0 : z0.toInt ≤ 255) (a2 : Addr) :
    Met B8_13 Z a0 h0 #[(.ref a2), (.int (0 : Int32)), (.int (1 : Int32))] [ar a2 .char [(.int z0)]] (fun v ds => ∃ a303 : Addr, Ret (some (.ref a303)) [ar a2 .char [(.int z0)], ar a303 .byte [(.int (nar .byte (z0.toInt8.toInt32)))]] v ds) := by
  refine Met.of pn8 (ls := #[.val (.ref a2), .val (.int (0 : Int32)), .val (.int (1 : Int32)), .unset, .unset, .unset]) (fun m => by first | (simp [entryFrame, mkF, argsToLocals, Value.category, B8_13]; done) | rfl) ?_
  show Go B8_13 Z a0 h0 _ 0 0 [ar a2 .char [(.int z0)]] 0 #[.val (.ref a2), .val (.int (0 : Int32)), .val (.int (1 : Int32)), .unset, .unset, .unset] []
  refine go_iloadN 1 rfl d8_0 rfl ?_
  refine go_newarr 3 rfl d8_1 rfl (wd hw 19 rfl) (by decide) 1 (by decide) (by decide) (by decide) (by decide) (fun a303 => ?_)
  show Go B8_13 Z a0 h0 _ 1 1 [ar a2 .char [(.int z0)], ar a303 .byte [(.int (0 : Int32))]] 3 #[.val (.ref a2), .val (.int (0 : Int32)), .val (.int (1 : Int32)), .unset, .unset, .unset] [(.ref a303)]
  refine go_astoreN #[.val (.ref a2), .val (.int (0 : Int32)), .val (.int (1 : Int32)), .val (.ref a303), .unset, .unset] 4 rfl d8_3 rfl rfl rfl ?_
  refine go_aloadN 5 rfl d8_4 rfl rfl ?_
  refine go_iloadN 6 rfl d8_5 rfl ?_
  refine go_aloadN 7 rfl d8_6 rfl rfl ?_
  refine go_iconst (0 : Int32) 8 rfl d8_7 rfl ?_
  refine go_iloadN 9 rfl d8_8 rfl ?_
  refine go_callS 12 rfl d8_9 (wd hw 45 rfl) (wd hw 46 rfl) (wd hw 43 rfl) (wd hw 47 rfl) (by decide) (mt14 Z a0 hw h0 zc r99 SS z0 h_0 g0 a2 a303) (argsL := [(.ref a2), (.int (0 : Int32)), (.ref a303), (.int (0 : Int32)), (.int (1 : Int32))]) (rest := []) rfl (ps := [(.array .char), .int, (.array .byte), .int, .int]) (by decide +kernel) rfl rfl 0 rfl (by decide) (by decide) (by decide) (by decide) ?_
  rintro _ _ ⟨rfl, rfl⟩
  show Go B8_13 Z a0 h0 _ 1 1 [ar a2 .char [(.int z0)], ar a303 .byte [(.int (nar .byte (z0.toInt8.toInt32)))]] 12 #[.val (.ref a2), .val (.int (0 : Int32)), .val (.int (1 : Int32)), .val (.ref a303), .unset, .unset] [(.int (1 : Int32))]
  refine go_istore #[.val (.ref a2), .val (.int (0 : Int32)), .val (.int (1 : Int32)), .val (.ref a303), .val (.int (1 : Int32)), .unset] 14 rfl d8_12 rfl rfl ?_
  refine go_iload 16 rfl d8_14 rfl ?_
  refine go_iloadN 17 rfl d8_16 rfl ?_
  refine go_icmp 57 20 rfl (by decide) rfl d8_17 rfl (fun (hc17 : (1 : Int) = (1 : Int)) => ?_) (fun (hc17 : ¬ ((1 : Int) = (1 : Int))) => absurd hc17 (by decide))
  refine go_aloadN 58 rfl d8_57 rfl rfl ?_
  exact go_areturn d8_58 rfl rfl rfl rfl (by decide) (by decide) ⟨a303, rfl, rfl⟩
theorem d10_0 : decode jdk_52_method_15_code 0 = .ok (.iload_n 1, 1) := by decide +kernel
theorem d10_1 : decode jdk_52_method_15_code 1 = .ok (.aload_n 0, 1) := by decide +kernel
theorem d10_2 : decode jdk_52_method_15_code 2 = .ok (.arraylength, 1) := by decide +kernel
theorem d10_3 : decode jdk_52_method_15_code 3 = .ok (.isub, 1) := by decide +kernel
theorem d10_4 : decode jdk_52_method_15_code 4 = .ok (.bipush 31, 2) := by decide +kernel
theorem d10_6 : decode jdk_52_method_15_code 6 = .ok (.iushr, 1) := by decide +kernel
theorem d10_7 : decode jdk_52_method_15_code 7 = .ok (.i2b, 1) := by decide +kernel
theorem d10_8 : decode jdk_52_method_15_code 8 = .ok (.ireturn, 1) := by decide +kernel
theorem pn10 : plainFor (⟨"java/lang/StringUTF16", "coderFromArrayLen", "([BI)B"⟩ : MethodName) = true := by first | (apply plainFor_of_name; simp [plainName, overriddenIn]; done) | decide +kernel
def B10_15 : Bdy := (⟨"java/lang/StringUTF16", "coderFromArrayLen", "([BI)B"⟩, jdk_52_method_15_code, 2, (some .byte), ({ frames := 0, cells := 0, slots := 0, locals := 0 } : Room))
set_option maxRecDepth 65536 in
set_option maxHeartbeats 4000000 in
theorem mt15 (Z : State) (a0 : Array Value) (hw : ∀ d ∈ tables_1, d.before a0 Z = true) (h0 : Heap) (zc : Int32) (r99 : Value) (SS : Sts Z h0 zc r99) (z0 : Int32) (h_0 : 0 ≤ z0.toInt ∧ z0.toInt ≤ 65535) (g0 : z0.toInt ≤ 255) (a203 : Addr) :
    Met B10_15 Z a0 h0 #[(.ref a203), (.int (1 : Int32))] [ar a203 .byte [(.int (nar .byte (z0.toInt8.toInt32)))]] (Ret (some (.int (0 : Int32))) [ar a203 .byte [(.int (nar .byte (z0.toInt8.toInt32)))]]) := by
  refine Met.of pn10 (ls := #[.val (.ref a203), .val (.int (1 : Int32))]) (fun m => by first | (simp [entryFrame, mkF, argsToLocals, Value.category, B10_15]; done) | rfl) ?_
  show Go B10_15 Z a0 h0 _ 0 0 [ar a203 .byte [(.int (nar .byte (z0.toInt8.toInt32)))]] 0 #[.val (.ref a203), .val (.int (1 : Int32))] []
  refine go_iloadN 1 rfl d10_0 rfl ?_
  refine go_aloadN 2 rfl d10_1 rfl rfl ?_
  refine go_alen 0 3 rfl d10_2 rfl rfl ?_
  show Go B10_15 Z a0 h0 _ 0 0 [ar a203 .byte [(.int (nar .byte (z0.toInt8.toInt32)))]] 3 #[.val (.ref a203), .val (.int (1 : Int32))] [(.int (1 : Int32)), (.int (1 : Int32))]
  refine go_isub 4 rfl d10_3 rfl ?_
  show Go B10_15 Z a0 h0 _ 0 0 [ar a203 .byte [(.int (nar .byte (z0.toInt8.toInt32)))]] 4 #[.val (.ref a203), .val (.int (1 : Int32))] [(.int (0 : Int32))]
  refine go_bipush (31 : Int32) 6 rfl d10_4 rfl ?_
  refine go_iushr 7 rfl d10_6 rfl ?_
  show Go B10_15 Z a0 h0 _ 0 0 [ar a203 .byte [(.int (nar .byte (z0.toInt8.toInt32)))]] 7 #[.val (.ref a203), .val (.int (1 : Int32))] [(.int (0 : Int32))]
  refine go_i2b 8 rfl d10_7 rfl ?_
  show Go B10_15 Z a0 h0 _ 0 0 [ar a203 .byte [(.int (nar .byte (z0.toInt8.toInt32)))]] 8 #[.val (.ref a203), .val (.int (1 : Int32))] [(.int (0 : Int32))]
  exact go_ireturn d10_8 rfl (Or.inr (Or.inr (Or.inl rfl))) rfl rfl (by decide) (by decide) ⟨rfl, rfl⟩
theorem d3_0 : decode jdk_42_method_149_code 0 = .ok (.aload_n 0, 1) := by decide +kernel
theorem d3_1 : decode jdk_42_method_149_code 1 = .ok (.invokespecial 1, 3) := by decide +kernel
theorem d3_4 : decode jdk_42_method_149_code 4 = .ok (.iload_n 3, 1) := by decide +kernel
theorem d3_5 : decode jdk_42_method_149_code 5 = .ok (.ifCond .ne 22, 3) := by decide +kernel
theorem d3_27 : decode jdk_42_method_149_code 27 = .ok (.getstatic 38, 3) := by decide +kernel
theorem d3_30 : decode jdk_42_method_149_code 30 = .ok (.ifCond .eq 28, 3) := by decide +kernel
theorem d3_33 : decode jdk_42_method_149_code 33 = .ok (.aload_n 1, 1) := by decide +kernel
theorem d3_34 : decode jdk_42_method_149_code 34 = .ok (.iload_n 2, 1) := by decide +kernel
theorem d3_35 : decode jdk_42_method_149_code 35 = .ok (.iload_n 3, 1) := by decide +kernel
theorem d3_36 : decode jdk_42_method_149_code 36 = .ok (.invokestatic 177, 3) := by decide +kernel
theorem d3_39 : decode jdk_42_method_149_code 39 = .ok (.astore 5, 2) := by decide +kernel
theorem d3_41 : decode jdk_42_method_149_code 41 = .ok (.aload_n 0, 1) := by decide +kernel
theorem d3_42 : decode jdk_42_method_149_code 42 = .ok (.aload 5, 2) := by decide +kernel
theorem d3_44 : decode jdk_42_method_149_code 44 = .ok (.iload_n 3, 1) := by decide +kernel
theorem d3_45 : decode jdk_42_method_149_code 45 = .ok (.invokestatic 47, 3) := by decide +kernel
theorem d3_48 : decode jdk_42_method_149_code 48 = .ok (.putfield 15, 3) := by decide +kernel
theorem d3_51 : decode jdk_42_method_149_code 51 = .ok (.aload_n 0, 1) := by decide +kernel
theorem d3_52 : decode jdk_42_method_149_code 52 = .ok (.aload 5, 2) := by decide +kernel
theorem d3_54 : decode jdk_42_method_149_code 54 = .ok (.putfield 9, 3) := by decide +kernel
theorem d3_57 : decode jdk_42_method_149_code 57 = .ok (.return_, 1) := by decide +kernel
theorem pn3 : plainFor (⟨"java/lang/String", "<init>", "([CIILjava/lang/Void;)V"⟩ : MethodName) = true := by first | (apply plainFor_of_name; simp [plainName, overriddenIn]; done) | decide +kernel
def B3_12 : Bdy := (⟨"java/lang/String", "<init>", "([CIILjava/lang/Void;)V"⟩, jdk_42_method_149_code, 6, none, ({ frames := 2, cells := 1, slots := 1, locals := 35 } : Room))
set_option maxRecDepth 65536 in
set_option maxHeartbeats 4000000 in
theorem mt12 (Z : State) (a0 : Array Value) (hw : ∀ d ∈ tables_1, d.before a0 Z = true) (h0 : Heap) (zc : Int32) (r99 : Value) (SS : Sts Z h0 zc r99) (z0 : Int32) (h_0 : 0 ≤ z0.toInt ∧ z0.toInt ≤ 65535) (g0 : z0.toInt ≤ 255) (a1 : Addr) (a2 : Addr) :
    Met B3_12 Z a0 h0 #[(.ref a1), (.ref a2), (.int (0 : Int32)), (.int (1 : Int32)), .null] [ob a1 "java/lang/String" [("java/lang/String", "value", "[B", .null), ("java/lang/String", "coder", "B", (.int (0 : Int32)))], ar a2 .char [(.int z0)]] (fun v ds => ∃ a203 : Addr, Ret none [ar a203 .byte [(.int (nar .byte (z0.toInt8.toInt32)))], ar a2 .char [(.int z0)], ob a1 "java/lang/String" [("java/lang/String", "value", "[B", (.ref a203)), ("java/lang/String", "coder", "B", (.int (0 : Int32)))]] v ds) := by
  refine Met.of pn3 (ls := #[.val (.ref a1), .val (.ref a2), .val (.int (0 : Int32)), .val (.int (1 : Int32)), .val .null, .unset]) (fun m => by first | (simp [entryFrame, mkF, argsToLocals, Value.category, B3_12]; done) | rfl) ?_
  show Go B3_12 Z a0 h0 _ 0 0 [ob a1 "java/lang/String" [("java/lang/String", "value", "[B", .null), ("java/lang/String", "coder", "B", (.int (0 : Int32)))], ar a2 .char [(.int z0)]] 0 #[.val (.ref a1), .val (.ref a2), .val (.int (0 : Int32)), .val (.int (1 : Int32)), .val .null, .unset] []
  refine go_aloadN 1 rfl d3_0 rfl rfl ?_
  refine go_initObj 4 rfl d3_1 rfl (wd hw 15 rfl) (wd hw 16 rfl) (wd hw 17 rfl) rfl (by decide) (by decide) ?_
  refine go_iloadN 5 rfl d3_4 rfl ?_
  refine go_if 27 8 rfl (by decide) rfl d3_5 rfl (fun (hc5 : (1 : Int) ≠ 0) => ?_) (fun (hc5 : ¬ ((1 : Int) ≠ 0)) => absurd hc5 (by decide))
  refine go_getS 30 rfl d3_27 (wd hw 40 rfl) SS.1 ?_
  refine go_if 58 33 rfl (by decide) rfl d3_30 rfl (fun (hc30 : zc.toInt = 0) => absurd hc30 (by exact fun q => SS.2.1 (Int32.toInt_inj.mp q))) (fun (hc30 : ¬ (zc.toInt = 0)) => ?_)
  refine go_aloadN 34 rfl d3_33 rfl rfl ?_
  refine go_iloadN 35 rfl d3_34 rfl ?_
  refine go_iloadN 36 rfl d3_35 rfl ?_
  refine Go.front 1 (Nat.le_of_ble_eq_true rfl) ?_
  show Go B3_12 Z a0 h0 _ 0 0 [ar a2 .char [(.int z0)], ob a1 "java/lang/String" [("java/lang/String", "value", "[B", .null), ("java/lang/String", "coder", "B", (.int (0 : Int32)))]] 36 #[.val (.ref a1), .val (.ref a2), .val (.int (0 : Int32)), .val (.int (1 : Int32)), .val .null, .unset] [(.int (1 : Int32)), (.int (0 : Int32)), (.ref a2)]
  refine go_callS 39 rfl d3_36 (wd hw 41 rfl) (wd hw 42 rfl) (wd hw 43 rfl) (wd hw 44 rfl) (by decide) (Met.frame [ob a1 "java/lang/String" [("java/lang/String", "value", "[B", .null), ("java/lang/String", "coder", "B", (.int (0 : Int32)))]] (mt13 Z a0 hw h0 zc r99 SS z0 h_0 g0 a2)) (argsL := [(.ref a2), (.int (0 : Int32)), (.int (1 : Int32))]) (rest := []) rfl (ps := [(.array .char), .int, .int]) (by decide +kernel) rfl rfl 0 rfl (by decide) (by decide) (by decide) (by decide) ?_
  rintro _ _ ⟨_, ⟨a203, rfl, rfl⟩, rfl⟩
  show Go B3_12 Z a0 h0 _ 1 1 [ar a2 .char [(.int z0)], ar a203 .byte [(.int (nar .byte (z0.toInt8.toInt32)))], ob a1 "java/lang/String" [("java/lang/String", "value", "[B", .null), ("java/lang/String", "coder", "B", (.int (0 : Int32)))]] 39 #[.val (.ref a1), .val (.ref a2), .val (.int (0 : Int32)), .val (.int (1 : Int32)), .val .null, .unset] [(.ref a203)]
  refine go_astore #[.val (.ref a1), .val (.ref a2), .val (.int (0 : Int32)), .val (.int (1 : Int32)), .val .null, .val (.ref a203)] 41 rfl d3_39 rfl rfl rfl ?_
  refine go_aloadN 42 rfl d3_41 rfl rfl ?_
  refine go_aload 44 rfl d3_42 rfl rfl ?_
  refine go_iloadN 45 rfl d3_44 rfl ?_
  refine Go.front 1 (Nat.le_of_ble_eq_true rfl) ?_
  show Go B3_12 Z a0 h0 _ 1 1 [ar a203 .byte [(.int (nar .byte (z0.toInt8.toInt32)))], ar a2 .char [(.int z0)], ob a1 "java/lang/String" [("java/lang/String", "value", "[B", .null), ("java/lang/String", "coder", "B", (.int (0 : Int32)))]] 45 #[.val (.ref a1), .val (.ref a2), .val (.int (0 : Int32)), .val (.int (1 : Int32)), .val .null, .val (.ref a203)] [(.int (1 : Int32)), (.ref a203), (.ref a1)]
  refine go_callS 48 rfl d3_45 (wd hw 48 rfl) (wd hw 49 rfl) (wd hw 43 rfl) (wd hw 50 rfl) (by decide) (Met.frame [ar a2 .char [(.int z0)], ob a1 "java/lang/String" [("java/lang/String", "value", "[B", .null), ("java/lang/String", "coder", "B", (.int (0 : Int32)))]] (mt15 Z a0 hw h0 zc r99 SS z0 h_0 g0 a203)) (argsL := [(.ref a203), (.int (1 : Int32))]) (rest := [(.ref a1)]) rfl (ps := [(.array .byte), .int]) (by decide +kernel) rfl rfl 1 rfl (by decide) (by decide) (by decide) (by decide) ?_
  rintro _ _ ⟨_, ⟨rfl, rfl⟩, rfl⟩
  show Go B3_12 Z a0 h0 _ 1 1 [ar a203 .byte [(.int (nar .byte (z0.toInt8.toInt32)))], ar a2 .char [(.int z0)], ob a1 "java/lang/String" [("java/lang/String", "value", "[B", .null), ("java/lang/String", "coder", "B", (.int (0 : Int32)))]] 48 #[.val (.ref a1), .val (.ref a2), .val (.int (0 : Int32)), .val (.int (1 : Int32)), .val .null, .val (.ref a203)] [(.int (0 : Int32)), (.ref a1)]
  refine go_put 2 1 51 rfl d3_48 rfl rfl rfl (wd hw 25 rfl) (Or.inr ⟨(wd hw 21 rfl), rfl, rfl⟩) (wd hw 5 rfl) (ty := .byte) (by decide) rfl rfl ?_
  show Go B3_12 Z a0 h0 _ 1 1 [ar a203 .byte [(.int (nar .byte (z0.toInt8.toInt32)))], ar a2 .char [(.int z0)], ob a1 "java/lang/String" [("java/lang/String", "value", "[B", .null), ("java/lang/String", "coder", "B", (.int (0 : Int32)))]] 51 #[.val (.ref a1), .val (.ref a2), .val (.int (0 : Int32)), .val (.int (1 : Int32)), .val .null, .val (.ref a203)] []
  refine go_aloadN 52 rfl d3_51 rfl rfl ?_
  refine go_aload 54 rfl d3_52 rfl rfl ?_
  refine go_put 2 0 57 rfl d3_54 rfl rfl rfl (wd hw 24 rfl) (Or.inr ⟨(wd hw 20 rfl), rfl, rfl⟩) (wd hw 5 rfl) (ty := (.array .byte)) (by decide) rfl rfl ?_
  show Go B3_12 Z a0 h0 _ 1 1 [ar a203 .byte [(.int (nar .byte (z0.toInt8.toInt32)))], ar a2 .char [(.int z0)], ob a1 "java/lang/String" [("java/lang/String", "value", "[B", (.ref a203)), ("java/lang/String", "coder", "B", (.int (0 : Int32)))]] 57 #[.val (.ref a1), .val (.ref a2), .val (.int (0 : Int32)), .val (.int (1 : Int32)), .val .null, .val (.ref a203)] []
  exact go_return d3_57 rfl rfl (by decide) (by decide) ⟨a203, rfl, rfl⟩
theorem d2_0 : decode jdk_42_method_3_code 0 = .ok (.aload_n 0, 1) := by decide +kernel
theorem d2_1 : decode jdk_42_method_3_code 1 = .ok (.aload_n 1, 1) := by decide +kernel
theorem d2_2 : decode jdk_42_method_3_code 2 = .ok (.iconst 0, 1) := by decide +kernel
theorem d2_3 : decode jdk_42_method_3_code 3 = .ok (.aload_n 1, 1) := by decide +kernel
theorem d2_4 : decode jdk_42_method_3_code 4 = .ok (.arraylength, 1) := by decide +kernel
theorem d2_5 : decode jdk_42_method_3_code 5 = .ok (.aconst_null, 1) := by decide +kernel
theorem d2_6 : decode jdk_42_method_3_code 6 = .ok (.invokespecial 27, 3) := by decide +kernel
theorem d2_9 : decode jdk_42_method_3_code 9 = .ok (.return_, 1) := by decide +kernel
theorem pn2 : plainFor (⟨"java/lang/String", "<init>", "([C)V"⟩ : MethodName) = true := by first | (apply plainFor_of_name; simp [plainName, overriddenIn]; done) | decide +kernel
def B2_11 : Bdy := (⟨"java/lang/String", "<init>", "([C)V"⟩, jdk_42_method_3_code, 2, none, ({ frames := 3, cells := 1, slots := 1, locals := 52 } : Room))
set_option maxRecDepth 65536 in
set_option maxHeartbeats 4000000 in
theorem mt11 (Z : State) (a0 : Array Value) (hw : ∀ d ∈ tables_1, d.before a0 Z = true) (h0 : Heap) (zc : Int32) (r99 : Value) (SS : Sts Z h0 zc r99) (z0 : Int32) (h_0 : 0 ≤ z0.toInt ∧ z0.toInt ≤ 65535) (g0 : z0.toInt ≤ 255) (a1 : Addr) (a2 : Addr) :
    Met B2_11 Z a0 h0 #[(.ref a1), (.ref a2)] [ob a1 "java/lang/String" [("java/lang/String", "value", "[B", .null), ("java/lang/String", "coder", "B", (.int (0 : Int32)))], ar a2 .char [(.int z0)]] (fun v ds => ∃ a103 : Addr, Ret none [ar a103 .byte [(.int (nar .byte (z0.toInt8.toInt32)))], ar a2 .char [(.int z0)], ob a1 "java/lang/String" [("java/lang/String", "value", "[B", (.ref a103)), ("java/lang/String", "coder", "B", (.int (0 : Int32)))]] v ds) := by
  refine Met.of pn2 (ls := #[.val (.ref a1), .val (.ref a2)]) (fun m => by first | (simp [entryFrame, mkF, argsToLocals, Value.category, B2_11]; done) | rfl) ?_
  show Go B2_11 Z a0 h0 _ 0 0 [ob a1 "java/lang/String" [("java/lang/String", "value", "[B", .null), ("java/lang/String", "coder", "B", (.int (0 : Int32)))], ar a2 .char [(.int z0)]] 0 #[.val (.ref a1), .val (.ref a2)] []
  refine go_aloadN 1 rfl d2_0 rfl rfl ?_
  refine go_aloadN 2 rfl d2_1 rfl rfl ?_
  refine go_iconst (0 : Int32) 3 rfl d2_2 rfl ?_
  refine go_aloadN 4 rfl d2_3 rfl rfl ?_
  refine go_alen 1 5 rfl d2_4 rfl rfl ?_
  show Go B2_11 Z a0 h0 _ 0 0 [ob a1 "java/lang/String" [("java/lang/String", "value", "[B", .null), ("java/lang/String", "coder", "B", (.int (0 : Int32)))], ar a2 .char [(.int z0)]] 5 #[.val (.ref a1), .val (.ref a2)] [(.int (1 : Int32)), (.int (0 : Int32)), (.ref a2), (.ref a1)]
  refine go_aconstNull 6 rfl d2_5 ?_
  refine go_callI 9 rfl d2_6 rfl (wd hw 11 rfl) (wd hw 12 rfl) (wd hw 6 rfl) (wd hw 14 rfl) (by decide) (mt12 Z a0 hw h0 zc r99 SS z0 h_0 g0 a1 a2) (argsL := [(.ref a2), (.int (0 : Int32)), (.int (1 : Int32)), .null]) (rest := []) rfl (ret := none) (ps := [(.array .char), .int, .int, (.object "java/lang/Void")]) (by decide +kernel) rfl rfl 0 rfl (by decide) (by decide) (by decide) (by decide) ?_
  rintro _ _ ⟨a103, rfl, rfl⟩
  show Go B2_11 Z a0 h0 _ 1 1 [ar a103 .byte [(.int (nar .byte (z0.toInt8.toInt32)))], ar a2 .char [(.int z0)], ob a1 "java/lang/String" [("java/lang/String", "value", "[B", (.ref a103)), ("java/lang/String", "coder", "B", (.int (0 : Int32)))]] 9 #[.val (.ref a1), .val (.ref a2)] []
  exact go_return d2_9 rfl rfl (by decide) (by decide) ⟨a103, rfl, rfl⟩
theorem d7_0 : decode jdk_42_method_152_code 0 = .ok (.getstatic 38, 3) := by decide +kernel
theorem d7_3 : decode jdk_42_method_152_code 3 = .ok (.ifCond .eq 10, 3) := by decide +kernel
theorem d7_6 : decode jdk_42_method_152_code 6 = .ok (.aload_n 0, 1) := by decide +kernel
theorem d7_7 : decode jdk_42_method_152_code 7 = .ok (.getfield 15, 3) := by decide +kernel
theorem d7_10 : decode jdk_42_method_152_code 10 = .ok (.goto 4, 3) := by decide +kernel
theorem d7_14 : decode jdk_42_method_152_code 14 = .ok (.ireturn, 1) := by decide +kernel
theorem pn7 : plainFor (⟨"java/lang/String", "coder", "()B"⟩ : MethodName) = true := by first | (apply plainFor_of_name; simp [plainName, overriddenIn]; done) | decide +kernel
def B7_18 : Bdy := (⟨"java/lang/String", "coder", "()B"⟩, jdk_42_method_152_code, 1, (some .byte), ({ frames := 0, cells := 0, slots := 0, locals := 0 } : Room))
set_option maxRecDepth 65536 in
set_option maxHeartbeats 4000000 in
theorem mt18 (Z : State) (a0 : Array Value) (hw : ∀ d ∈ tables_1, d.before a0 Z = true) (h0 : Heap) (zc : Int32) (r99 : Value) (SS : Sts Z h0 zc r99) (z0 : Int32) (h_0 : 0 ≤ z0.toInt ∧ z0.toInt ≤ 65535) (g0 : z0.toInt ≤ 255) (a3 : Addr) (a1 : Addr) :
    Met B7_18 Z a0 h0 #[(.ref a1)] [ar a3 .byte [(.int (nar .byte (z0.toInt8.toInt32)))], ob a1 "java/lang/String" [("java/lang/String", "value", "[B", (.ref a3)), ("java/lang/String", "coder", "B", (.int (0 : Int32)))]] (Ret (some (.int (0 : Int32))) [ar a3 .byte [(.int (nar .byte (z0.toInt8.toInt32)))], ob a1 "java/lang/String" [("java/lang/String", "value", "[B", (.ref a3)), ("java/lang/String", "coder", "B", (.int (0 : Int32)))]]) := by
  refine Met.of pn7 (ls := #[.val (.ref a1)]) (fun m => by first | (simp [entryFrame, mkF, argsToLocals, Value.category, B7_18]; done) | rfl) ?_
  show Go B7_18 Z a0 h0 _ 0 0 [ar a3 .byte [(.int (nar .byte (z0.toInt8.toInt32)))], ob a1 "java/lang/String" [("java/lang/String", "value", "[B", (.ref a3)), ("java/lang/String", "coder", "B", (.int (0 : Int32)))]] 0 #[.val (.ref a1)] []
  refine go_getS 3 rfl d7_0 (wd hw 40 rfl) SS.1 ?_
  refine go_if 13 6 rfl (by decide) rfl d7_3 rfl (fun (hc3 : zc.toInt = 0) => absurd hc3 (by exact fun q => SS.2.1 (Int32.toInt_inj.mp q))) (fun (hc3 : ¬ (zc.toInt = 0)) => ?_)
  refine go_aloadN 7 rfl d7_6 rfl rfl ?_
  refine go_get 1 1 10 rfl d7_7 rfl rfl rfl (wd hw 25 rfl) ?_
  refine go_goto 14 (by decide) rfl d7_10 ?_
  exact go_ireturn d7_14 rfl (Or.inr (Or.inr (Or.inl rfl))) rfl rfl (by decide) (by decide) ⟨rfl, rfl⟩
theorem d6_0 : decode jdk_42_method_54_code 0 = .ok (.aload_n 0, 1) := by decide +kernel
theorem d6_1 : decode jdk_42_method_54_code 1 = .ok (.getfield 9, 3) := by decide +kernel
theorem d6_4 : decode jdk_42_method_54_code 4 = .ok (.arraylength, 1) := by decide +kernel
theorem d6_5 : decode jdk_42_method_54_code 5 = .ok (.aload_n 0, 1) := by decide +kernel
theorem d6_6 : decode jdk_42_method_54_code 6 = .ok (.invokevirtual 335, 3) := by decide +kernel
theorem d6_9 : decode jdk_42_method_54_code 9 = .ok (.ishr, 1) := by decide +kernel
theorem d6_10 : decode jdk_42_method_54_code 10 = .ok (.ireturn, 1) := by decide +kernel
theorem pn6 : plainFor (⟨"java/lang/String", "length", "()I"⟩ : MethodName) = true := by first | (apply plainFor_of_name; simp [plainName, overriddenIn]; done) | decide +kernel
def B6_17 : Bdy := (⟨"java/lang/String", "length", "()I"⟩, jdk_42_method_54_code, 1, (some .int), ({ frames := 1, cells := 0, slots := 0, locals := 13 } : Room))
set_option maxRecDepth 65536 in
set_option maxHeartbeats 4000000 in
theorem mt17 (Z : State) (a0 : Array Value) (hw : ∀ d ∈ tables_1, d.before a0 Z = true) (h0 : Heap) (zc : Int32) (r99 : Value) (SS : Sts Z h0 zc r99) (z0 : Int32) (h_0 : 0 ≤ z0.toInt ∧ z0.toInt ≤ 65535) (g0 : z0.toInt ≤ 255) (a3 : Addr) (a1 : Addr) :
    Met B6_17 Z a0 h0 #[(.ref a1)] [ar a3 .byte [(.int (nar .byte (z0.toInt8.toInt32)))], ob a1 "java/lang/String" [("java/lang/String", "value", "[B", (.ref a3)), ("java/lang/String", "coder", "B", (.int (0 : Int32)))]] (Ret (some (.int (1 : Int32))) [ar a3 .byte [(.int (nar .byte (z0.toInt8.toInt32)))], ob a1 "java/lang/String" [("java/lang/String", "value", "[B", (.ref a3)), ("java/lang/String", "coder", "B", (.int (0 : Int32)))]]) := by
  refine Met.of pn6 (ls := #[.val (.ref a1)]) (fun m => by first | (simp [entryFrame, mkF, argsToLocals, Value.category, B6_17]; done) | rfl) ?_
  show Go B6_17 Z a0 h0 _ 0 0 [ar a3 .byte [(.int (nar .byte (z0.toInt8.toInt32)))], ob a1 "java/lang/String" [("java/lang/String", "value", "[B", (.ref a3)), ("java/lang/String", "coder", "B", (.int (0 : Int32)))]] 0 #[.val (.ref a1)] []
  refine go_aloadN 1 rfl d6_0 rfl rfl ?_
  refine go_get 1 0 4 rfl d6_1 rfl rfl rfl (wd hw 24 rfl) ?_
  refine go_alen 0 5 rfl d6_4 rfl rfl ?_
  show Go B6_17 Z a0 h0 _ 0 0 [ar a3 .byte [(.int (nar .byte (z0.toInt8.toInt32)))], ob a1 "java/lang/String" [("java/lang/String", "value", "[B", (.ref a3)), ("java/lang/String", "coder", "B", (.int (0 : Int32)))]] 5 #[.val (.ref a1)] [(.int (1 : Int32))]
  refine go_aloadN 6 rfl d6_5 rfl rfl ?_
  refine go_callV 9 rfl d6_6 (wd hw 35 rfl) (wd hw 36 rfl) (wd hw 38 rfl) (wd hw 37 rfl) (wd hw 6 rfl) (wd hw 39 rfl) (by decide) (Mo.exa (i := 1) rfl) (mt18 Z a0 hw h0 zc r99 SS z0 h_0 g0 a3 a1) (argsL := []) (rest := [(.int (1 : Int32))]) rfl (ps := []) (by decide +kernel) rfl rfl 1 rfl (by decide) (by decide) (by decide) (by decide) ?_
  rintro _ _ ⟨rfl, rfl⟩
  show Go B6_17 Z a0 h0 _ 0 0 [ar a3 .byte [(.int (nar .byte (z0.toInt8.toInt32)))], ob a1 "java/lang/String" [("java/lang/String", "value", "[B", (.ref a3)), ("java/lang/String", "coder", "B", (.int (0 : Int32)))]] 9 #[.val (.ref a1)] [(.int (0 : Int32)), (.int (1 : Int32))]
  refine go_ishr 10 rfl d6_9 rfl ?_
  show Go B6_17 Z a0 h0 _ 0 0 [ar a3 .byte [(.int (nar .byte (z0.toInt8.toInt32)))], ob a1 "java/lang/String" [("java/lang/String", "value", "[B", (.ref a3)), ("java/lang/String", "coder", "B", (.int (0 : Int32)))]] 10 #[.val (.ref a1)] [(.int (1 : Int32))]
  exact go_ireturn d6_10 rfl (Or.inl rfl) rfl rfl (by decide) (by decide) ⟨rfl, rfl⟩
theorem d13_0 : decode jdk_42_method_154_code 0 = .ok (.getstatic 38, 3) := by decide +kernel
theorem d13_3 : decode jdk_42_method_154_code 3 = .ok (.ifCond .eq 14, 3) := by decide +kernel
theorem d13_6 : decode jdk_42_method_154_code 6 = .ok (.aload_n 0, 1) := by decide +kernel
theorem d13_7 : decode jdk_42_method_154_code 7 = .ok (.getfield 15, 3) := by decide +kernel
theorem d13_10 : decode jdk_42_method_154_code 10 = .ok (.ifCond .ne 7, 3) := by decide +kernel
theorem d13_13 : decode jdk_42_method_154_code 13 = .ok (.iconst 1, 1) := by decide +kernel
theorem d13_14 : decode jdk_42_method_154_code 14 = .ok (.goto 4, 3) := by decide +kernel
theorem d13_18 : decode jdk_42_method_154_code 18 = .ok (.ireturn, 1) := by decide +kernel
theorem pn13 : plainFor (⟨"java/lang/String", "isLatin1", "()Z"⟩ : MethodName) = true := by first | (apply plainFor_of_name; simp [plainName, overriddenIn]; done) | decide +kernel
def B13_20 : Bdy := (⟨"java/lang/String", "isLatin1", "()Z"⟩, jdk_42_method_154_code, 1, (some .boolean), ({ frames := 0, cells := 0, slots := 0, locals := 0 } : Room))
set_option maxRecDepth 65536 in
set_option maxHeartbeats 4000000 in
theorem mt20 (Z : State) (a0 : Array Value) (hw : ∀ d ∈ tables_1, d.before a0 Z = true) (h0 : Heap) (zc : Int32) (r99 : Value) (SS : Sts Z h0 zc r99) (z0 : Int32) (h_0 : 0 ≤ z0.toInt ∧ z0.toInt ≤ 65535) (g0 : z0.toInt ≤ 255) (a3 : Addr) (a1 : Addr) :
    Met B13_20 Z a0 h0 #[(.ref a1)] [ar a3 .byte [(.int (nar .byte (z0.toInt8.toInt32)))], ob a1 "java/lang/String" [("java/lang/String", "value", "[B", (.ref a3)), ("java/lang/String", "coder", "B", (.int (0 : Int32)))]] (Ret (some (.int (1 : Int32))) [ar a3 .byte [(.int (nar .byte (z0.toInt8.toInt32)))], ob a1 "java/lang/String" [("java/lang/String", "value", "[B", (.ref a3)), ("java/lang/String", "coder", "B", (.int (0 : Int32)))]]) := by
  refine Met.of pn13 (ls := #[.val (.ref a1)]) (fun m => by first | (simp [entryFrame, mkF, argsToLocals, Value.category, B13_20]; done) | rfl) ?_
  show Go B13_20 Z a0 h0 _ 0 0 [ar a3 .byte [(.int (nar .byte (z0.toInt8.toInt32)))], ob a1 "java/lang/String" [("java/lang/String", "value", "[B", (.ref a3)), ("java/lang/String", "coder", "B", (.int (0 : Int32)))]] 0 #[.val (.ref a1)] []
  refine go_getS 3 rfl d13_0 (wd hw 40 rfl) SS.1 ?_
  refine go_if 17 6 rfl (by decide) rfl d13_3 rfl (fun (hc3 : zc.toInt = 0) => absurd hc3 (by exact fun q => SS.2.1 (Int32.toInt_inj.mp q))) (fun (hc3 : ¬ (zc.toInt = 0)) => ?_)
  refine go_aloadN 7 rfl d13_6 rfl rfl ?_
  refine go_get 1 1 10 rfl d13_7 rfl rfl rfl (wd hw 25 rfl) ?_
  refine go_if 17 13 rfl (by decide) rfl d13_10 rfl (fun (hc10 : (0 : Int) ≠ 0) => absurd hc10 (by decide)) (fun (hc10 : ¬ ((0 : Int) ≠ 0)) => ?_)
  refine go_iconst (1 : Int32) 14 rfl d13_13 rfl ?_
  refine go_goto 18 (by decide) rfl d13_14 ?_
  exact go_ireturn d13_18 rfl (Or.inr (Or.inl rfl)) rfl rfl (by decide) (by decide) ⟨rfl, rfl⟩
theorem d16_0 : decode jdk_41_method_11_code 0 = .ok (.iload_n 0, 1) := by decide +kernel
theorem d16_1 : decode jdk_41_method_11_code 1 = .ok (.ifCond .lt 8, 3) := by decide +kernel
theorem d16_4 : decode jdk_41_method_11_code 4 = .ok (.iload_n 0, 1) := by decide +kernel
theorem d16_5 : decode jdk_41_method_11_code 5 = .ok (.iload_n 1, 1) := by decide +kernel
theorem d16_6 : decode jdk_41_method_11_code 6 = .ok (.if_icmp .lt 10, 3) := by decide +kernel
theorem d16_16 : decode jdk_41_method_11_code 16 = .ok (.iload_n 0, 1) := by decide +kernel
theorem d16_17 : decode jdk_41_method_11_code 17 = .ok (.ireturn, 1) := by decide +kernel
theorem pn16 : plainFor (⟨"jdk/internal/util/Preconditions", "checkIndex", "(IILjava/util/function/BiFunction;)I"⟩ : MethodName) = true := by first | (apply plainFor_of_name; simp [plainName, overriddenIn]; done) | decide +kernel
def B16_23 : Bdy := (⟨"jdk/internal/util/Preconditions", "checkIndex", "(IILjava/util/function/BiFunction;)I"⟩, jdk_41_method_11_code, 3, (some .int), ({ frames := 0, cells := 0, slots := 0, locals := 0 } : Room))
set_option maxRecDepth 65536 in
set_option maxHeartbeats 4000000 in
theorem mt23 (Z : State) (a0 : Array Value) (hw : ∀ d ∈ tables_1, d.before a0 Z = true) (h0 : Heap) (zc : Int32) (r99 : Value) (SS : Sts Z h0 zc r99) (z0 : Int32) (h_0 : 0 ≤ z0.toInt ∧ z0.toInt ≤ 65535) (g0 : z0.toInt ≤ 255) :
    Met B16_23 Z a0 h0 #[(.int (0 : Int32)), (.int (1 : Int32)), r99] [] (Ret (some (.int (0 : Int32))) []) := by
  refine Met.of pn16 (ls := #[.val (.int (0 : Int32)), .val (.int (1 : Int32)), .val r99]) (fun m => by rcases ref_cases SS.2.2.2.1 with rfl | ⟨_, rfl⟩ <;> first | (simp [entryFrame, mkF, argsToLocals, Value.category, B16_23]; done) | rfl) ?_
  show Go B16_23 Z a0 h0 _ 0 0 [] 0 #[.val (.int (0 : Int32)), .val (.int (1 : Int32)), .val r99] []
  refine go_iloadN 1 rfl d16_0 rfl ?_
  refine go_if 9 4 rfl (by decide) rfl d16_1 rfl (fun (hc1 : (0 : Int) < 0) => absurd hc1 (by decide)) (fun (hc1 : ¬ ((0 : Int) < 0)) => ?_)
  refine go_iloadN 5 rfl d16_4 rfl ?_
  refine go_iloadN 6 rfl d16_5 rfl ?_
  refine go_icmp 16 9 rfl (by decide) rfl d16_6 rfl (fun (hc6 : (0 : Int) < (1 : Int)) => ?_) (fun (hc6 : ¬ ((0 : Int) < (1 : Int))) => absurd hc6 (by decide))
  refine go_iloadN 17 rfl d16_16 rfl ?_
  exact go_ireturn d16_17 rfl (Or.inl rfl) rfl rfl (by decide) (by decide) ⟨rfl, rfl⟩
theorem d15_0 : decode jdk_42_method_155_code 0 = .ok (.iload_n 0, 1) := by decide +kernel
theorem d15_1 : decode jdk_42_method_155_code 1 = .ok (.iload_n 1, 1) := by decide +kernel
theorem d15_2 : decode jdk_42_method_155_code 2 = .ok (.getstatic 1053, 3) := by decide +kernel
theorem d15_5 : decode jdk_42_method_155_code 5 = .ok (.invokestatic 1059, 3) := by decide +kernel
theorem d15_8 : decode jdk_42_method_155_code 8 = .ok (.pop, 1) := by decide +kernel
theorem d15_9 : decode jdk_42_method_155_code 9 = .ok (.return_, 1) := by decide +kernel
theorem pn15 : plainFor (⟨"java/lang/String", "checkIndex", "(II)V"⟩ : MethodName) = true := by first | (apply plainFor_of_name; simp [plainName, overriddenIn]; done) | decide +kernel
def B15_22 : Bdy := (⟨"java/lang/String", "checkIndex", "(II)V"⟩, jdk_42_method_155_code, 2, none, ({ frames := 1, cells := 0, slots := 0, locals := 14 } : Room))
set_option maxRecDepth 65536 in
set_option maxHeartbeats 4000000 in
theorem mt22 (Z : State) (a0 : Array Value) (hw : ∀ d ∈ tables_1, d.before a0 Z = true) (h0 : Heap) (zc : Int32) (r99 : Value) (SS : Sts Z h0 zc r99) (z0 : Int32) (h_0 : 0 ≤ z0.toInt ∧ z0.toInt ≤ 65535) (g0 : z0.toInt ≤ 255) :
    Met B15_22 Z a0 h0 #[(.int (0 : Int32)), (.int (1 : Int32))] [] (Ret none []) := by
  refine Met.of pn15 (ls := #[.val (.int (0 : Int32)), .val (.int (1 : Int32))]) (fun m => by first | (simp [entryFrame, mkF, argsToLocals, Value.category, B15_22]; done) | rfl) ?_
  show Go B15_22 Z a0 h0 _ 0 0 [] 0 #[.val (.int (0 : Int32)), .val (.int (1 : Int32))] []
  refine go_iloadN 1 rfl d15_0 rfl ?_
  refine go_iloadN 2 rfl d15_1 rfl ?_
  refine go_getS 5 rfl d15_2 (wd hw 71 rfl) SS.2.2.1 ?_
  refine go_callS 8 rfl d15_5 (wd hw 73 rfl) (wd hw 74 rfl) (wd hw 72 rfl) (wd hw 75 rfl) (by decide) (mt23 Z a0 hw h0 zc r99 SS z0 h_0 g0) (argsL := [(.int (0 : Int32)), (.int (1 : Int32)), r99]) (rest := []) rfl (ps := [.int, .int, (.object "java/util/function/BiFunction")]) (by decide +kernel) rfl rfl 0 rfl (by decide) (by decide) (by decide) (by decide) ?_
  rintro _ _ ⟨rfl, rfl⟩
  show Go B15_22 Z a0 h0 _ 0 0 [] 8 #[.val (.int (0 : Int32)), .val (.int (1 : Int32))] [(.int (0 : Int32))]
  refine go_pop 9 rfl d15_8 rfl rfl ?_
  exact go_return d15_9 rfl rfl (by decide) (by decide) ⟨rfl, rfl⟩
theorem d14_0 : decode jdk_43_method_2_code 0 = .ok (.iload_n 1, 1) := by decide +kernel
theorem d14_1 : decode jdk_43_method_2_code 1 = .ok (.aload_n 0, 1) := by decide +kernel
theorem d14_2 : decode jdk_43_method_2_code 2 = .ok (.arraylength, 1) := by decide +kernel
theorem d14_3 : decode jdk_43_method_2_code 3 = .ok (.invokestatic 9, 3) := by decide +kernel
theorem d14_6 : decode jdk_43_method_2_code 6 = .ok (.aload_n 0, 1) := by decide +kernel
theorem d14_7 : decode jdk_43_method_2_code 7 = .ok (.iload_n 1, 1) := by decide +kernel
theorem d14_8 : decode jdk_43_method_2_code 8 = .ok (.baload, 1) := by decide +kernel
theorem d14_9 : decode jdk_43_method_2_code 9 = .ok (.sipush 255, 3) := by decide +kernel
theorem d14_12 : decode jdk_43_method_2_code 12 = .ok (.iand, 1) := by decide +kernel
theorem d14_13 : decode jdk_43_method_2_code 13 = .ok (.i2c, 1) := by decide +kernel
theorem d14_14 : decode jdk_43_method_2_code 14 = .ok (.ireturn, 1) := by decide +kernel
theorem pn14 : plainFor (⟨"java/lang/StringLatin1", "charAt", "([BI)C"⟩ : MethodName) = true := by first | (apply plainFor_of_name; simp [plainName, overriddenIn]; done) | decide +kernel
def B14_21 : Bdy := (⟨"java/lang/StringLatin1", "charAt", "([BI)C"⟩, jdk_43_method_2_code, 2, (some .char), ({ frames := 2, cells := 0, slots := 0, locals := 27 } : Room))
set_option maxRecDepth 65536 in
set_option maxHeartbeats 4000000 in
theorem mt21 (Z : State) (a0 : Array Value) (hw : ∀ d ∈ tables_1, d.before a0 Z = true) (h0 : Heap) (zc : Int32) (r99 : Value) (SS : Sts Z h0 zc r99) (z0 : Int32) (h_0 : 0 ≤ z0.toInt ∧ z0.toInt ≤ 65535) (g0 : z0.toInt ≤ 255) (a3 : Addr) :
    Met B14_21 Z a0 h0 #[(.ref a3), (.int (0 : Int32))] [ar a3 .byte [(.int (nar .byte (z0.toInt8.toInt32)))]] (Ret (some (.int z0)) [ar a3 .byte [(.int (nar .byte (z0.toInt8.toInt32)))]]) := by
  refine Met.of pn14 (ls := #[.val (.ref a3), .val (.int (0 : Int32))]) (fun m => by first | (simp [entryFrame, mkF, argsToLocals, Value.category, B14_21]; done) | rfl) ?_
  show Go B14_21 Z a0 h0 _ 0 0 [ar a3 .byte [(.int (nar .byte (z0.toInt8.toInt32)))]] 0 #[.val (.ref a3), .val (.int (0 : Int32))] []
  refine go_iloadN 1 rfl d14_0 rfl ?_
  refine go_aloadN 2 rfl d14_1 rfl rfl ?_
  refine go_alen 0 3 rfl d14_2 rfl rfl ?_
  show Go B14_21 Z a0 h0 _ 0 0 [ar a3 .byte [(.int (nar .byte (z0.toInt8.toInt32)))]] 3 #[.val (.ref a3), .val (.int (0 : Int32))] [(.int (1 : Int32)), (.int (0 : Int32))]
  refine go_callS 6 rfl d14_3 (wd hw 68 rfl) (wd hw 69 rfl) (wd hw 6 rfl) (wd hw 70 rfl) (by decide) (Met.frame [ar a3 .byte [(.int (nar .byte (z0.toInt8.toInt32)))]] (mt22 Z a0 hw h0 zc r99 SS z0 h_0 g0)) (argsL := [(.int (0 : Int32)), (.int (1 : Int32))]) (rest := []) rfl (ps := [.int, .int]) (by decide +kernel) rfl rfl 0 rfl (by decide) (by decide) (by decide) (by decide) ?_
  rintro _ _ ⟨_, ⟨rfl, rfl⟩, rfl⟩
  show Go B14_21 Z a0 h0 _ 0 0 [ar a3 .byte [(.int (nar .byte (z0.toInt8.toInt32)))]] 6 #[.val (.ref a3), .val (.int (0 : Int32))] []
  refine go_aloadN 7 rfl d14_6 rfl rfl ?_
  refine go_iloadN 8 rfl d14_7 rfl ?_
  refine go_baload 9 rfl d14_8 rfl (Mo.el (i := 0) rfl (by decide) rfl) ?_
  refine go_sipush (255 : Int32) 12 rfl d14_9 rfl ?_
  refine go_iand 13 rfl d14_12 rfl ?_
  refine go_i2c 14 rfl d14_13 rfl ?_
  exact go_ireturn d14_14 rfl (Or.inr (Or.inr (Or.inr (Or.inl rfl)))) rfl (congrArg Value.int (nar_c _)) (by decide) (by decide) (by rw [lat z0 (by omega)]; exact ⟨rfl, rfl⟩)
theorem d12_0 : decode jdk_42_method_56_code 0 = .ok (.aload_n 0, 1) := by decide +kernel
theorem d12_1 : decode jdk_42_method_56_code 1 = .ok (.invokevirtual 492, 3) := by decide +kernel
theorem d12_4 : decode jdk_42_method_56_code 4 = .ok (.ifCond .eq 12, 3) := by decide +kernel
theorem d12_7 : decode jdk_42_method_56_code 7 = .ok (.aload_n 0, 1) := by decide +kernel
theorem d12_8 : decode jdk_42_method_56_code 8 = .ok (.getfield 9, 3) := by decide +kernel
theorem d12_11 : decode jdk_42_method_56_code 11 = .ok (.iload_n 1, 1) := by decide +kernel
theorem d12_12 : decode jdk_42_method_56_code 12 = .ok (.invokestatic 495, 3) := by decide +kernel
theorem d12_15 : decode jdk_42_method_56_code 15 = .ok (.ireturn, 1) := by decide +kernel
theorem pn12 : plainFor (⟨"java/lang/String", "charAt", "(I)C"⟩ : MethodName) = true := by first | (apply plainFor_of_name; simp [plainName, overriddenIn]; done) | decide +kernel
def B12_19 : Bdy := (⟨"java/lang/String", "charAt", "(I)C"⟩, jdk_42_method_56_code, 2, (some .char), ({ frames := 3, cells := 0, slots := 0, locals := 40 } : Room))
set_option maxRecDepth 65536 in
set_option maxHeartbeats 4000000 in
theorem mt19 (Z : State) (a0 : Array Value) (hw : ∀ d ∈ tables_1, d.before a0 Z = true) (h0 : Heap) (zc : Int32) (r99 : Value) (SS : Sts Z h0 zc r99) (z0 : Int32) (h_0 : 0 ≤ z0.toInt ∧ z0.toInt ≤ 65535) (g0 : z0.toInt ≤ 255) (a3 : Addr) (a1 : Addr) :
    Met B12_19 Z a0 h0 #[(.ref a1), (.int (0 : Int32))] [ar a3 .byte [(.int (nar .byte (z0.toInt8.toInt32)))], ob a1 "java/lang/String" [("java/lang/String", "value", "[B", (.ref a3)), ("java/lang/String", "coder", "B", (.int (0 : Int32)))]] (Ret (some (.int z0)) [ar a3 .byte [(.int (nar .byte (z0.toInt8.toInt32)))], ob a1 "java/lang/String" [("java/lang/String", "value", "[B", (.ref a3)), ("java/lang/String", "coder", "B", (.int (0 : Int32)))]]) := by
  refine Met.of pn12 (ls := #[.val (.ref a1), .val (.int (0 : Int32))]) (fun m => by first | (simp [entryFrame, mkF, argsToLocals, Value.category, B12_19]; done) | rfl) ?_
  show Go B12_19 Z a0 h0 _ 0 0 [ar a3 .byte [(.int (nar .byte (z0.toInt8.toInt32)))], ob a1 "java/lang/String" [("java/lang/String", "value", "[B", (.ref a3)), ("java/lang/String", "coder", "B", (.int (0 : Int32)))]] 0 #[.val (.ref a1), .val (.int (0 : Int32))] []
  refine go_aloadN 1 rfl d12_0 rfl rfl ?_
  refine go_callV 4 rfl d12_1 (wd hw 59 rfl) (wd hw 60 rfl) (wd hw 62 rfl) (wd hw 61 rfl) (wd hw 6 rfl) (wd hw 63 rfl) (by decide) (Mo.exa (i := 1) rfl) (mt20 Z a0 hw h0 zc r99 SS z0 h_0 g0 a3 a1) (argsL := []) (rest := []) rfl (ps := []) (by decide +kernel) rfl rfl 0 rfl (by decide) (by decide) (by decide) (by decide) ?_
  rintro _ _ ⟨rfl, rfl⟩
  show Go B12_19 Z a0 h0 _ 0 0 [ar a3 .byte [(.int (nar .byte (z0.toInt8.toInt32)))], ob a1 "java/lang/String" [("java/lang/String", "value", "[B", (.ref a3)), ("java/lang/String", "coder", "B", (.int (0 : Int32)))]] 4 #[.val (.ref a1), .val (.int (0 : Int32))] [(.int (1 : Int32))]
  refine go_if 16 7 rfl (by decide) rfl d12_4 rfl (fun (hc4 : (1 : Int) = 0) => absurd hc4 (by decide)) (fun (hc4 : ¬ ((1 : Int) = 0)) => ?_)
  refine go_aloadN 8 rfl d12_7 rfl rfl ?_
  refine go_get 1 0 11 rfl d12_8 rfl rfl rfl (wd hw 24 rfl) ?_
  refine go_iloadN 12 rfl d12_11 rfl ?_
  refine go_callS 15 rfl d12_12 (wd hw 64 rfl) (wd hw 65 rfl) (wd hw 66 rfl) (wd hw 67 rfl) (by decide) (Met.frame [ob a1 "java/lang/String" [("java/lang/String", "value", "[B", (.ref a3)), ("java/lang/String", "coder", "B", (.int (0 : Int32)))]] (mt21 Z a0 hw h0 zc r99 SS z0 h_0 g0 a3)) (argsL := [(.ref a3), (.int (0 : Int32))]) (rest := []) rfl (ps := [(.array .byte), .int]) (by decide +kernel) rfl rfl 0 rfl (by decide) (by decide) (by decide) (by decide) ?_
  rintro _ _ ⟨_, ⟨rfl, rfl⟩, rfl⟩
  show Go B12_19 Z a0 h0 _ 0 0 [ar a3 .byte [(.int (nar .byte (z0.toInt8.toInt32)))], ob a1 "java/lang/String" [("java/lang/String", "value", "[B", (.ref a3)), ("java/lang/String", "coder", "B", (.int (0 : Int32)))]] 15 #[.val (.ref a1), .val (.int (0 : Int32))] [(.int z0)]
  exact go_ireturn d12_15 rfl (Or.inr (Or.inr (Or.inr (Or.inl rfl)))) rfl (congrArg Value.int (nar_z z0 h_0)) (by decide) (by decide) ⟨rfl, rfl⟩
theorem d5_0 : decode prog_33_method_3_code 0 = .ok (.iconst 0, 1) := by decide +kernel
theorem d5_1 : decode prog_33_method_3_code 1 = .ok (.istore_n 1, 1) := by decide +kernel
theorem d5_2 : decode prog_33_method_3_code 2 = .ok (.iload_n 1, 1) := by decide +kernel
theorem d5_3 : decode prog_33_method_3_code 3 = .ok (.aload_n 0, 1) := by decide +kernel
theorem d5_4 : decode prog_33_method_3_code 4 = .ok (.invokevirtual 13, 3) := by decide +kernel
theorem d5_7 : decode prog_33_method_3_code 7 = .ok (.if_icmp .ge 22, 3) := by decide +kernel
theorem d5_10 : decode prog_33_method_3_code 10 = .ok (.aload_n 0, 1) := by decide +kernel
theorem d5_11 : decode prog_33_method_3_code 11 = .ok (.iload_n 1, 1) := by decide +kernel
theorem d5_12 : decode prog_33_method_3_code 12 = .ok (.invokevirtual 17, 3) := by decide +kernel
theorem d5_15 : decode prog_33_method_3_code 15 = .ok (.invokestatic 27, 3) := by decide +kernel
theorem d5_18 : decode prog_33_method_3_code 18 = .ok (.ifCond .ne 5, 3) := by decide +kernel
theorem d5_21 : decode prog_33_method_3_code 21 = .ok (.iconst 0, 1) := by decide +kernel
theorem d5_22 : decode prog_33_method_3_code 22 = .ok (.ireturn, 1) := by decide +kernel
theorem d5_23 : decode prog_33_method_3_code 23 = .ok (.iinc 1 1, 3) := by decide +kernel
theorem d5_26 : decode prog_33_method_3_code 26 = .ok (.goto (-24), 3) := by decide +kernel
theorem d5_29 : decode prog_33_method_3_code 29 = .ok (.iconst 1, 1) := by decide +kernel
theorem d5_30 : decode prog_33_method_3_code 30 = .ok (.ireturn, 1) := by decide +kernel
theorem pn5 : plainFor (⟨"com/example/tool_port/toolport/http/HttpSyntax", "isFieldValue", "(Ljava/lang/String;)Z"⟩ : MethodName) = true := by first | (apply plainFor_of_name; simp [plainName, overriddenIn]; done) | decide +kernel
def B5_16 : Bdy := (⟨"com/example/tool_port/toolport/http/HttpSyntax", "isFieldValue", "(Ljava/lang/String;)Z"⟩, prog_33_method_3_code, 2, (some .boolean), ({ frames := 4, cells := 0, slots := 0, locals := 53 } : Room))
set_option maxRecDepth 65536 in
set_option maxHeartbeats 4000000 in
theorem mt16 (Z : State) (a0 : Array Value) (hw : ∀ d ∈ tables_1, d.before a0 Z = true) (h0 : Heap) (zc : Int32) (r99 : Value) (SS : Sts Z h0 zc r99) (z0 : Int32) (h_0 : 0 ≤ z0.toInt ∧ z0.toInt ≤ 65535) (g0 : z0.toInt ≤ 255) (a3 : Addr) (a1 : Addr) :
    Met B5_16 Z a0 h0 #[(.ref a1)] [ar a3 .byte [(.int (nar .byte (z0.toInt8.toInt32)))], ob a1 "java/lang/String" [("java/lang/String", "value", "[B", (.ref a3)), ("java/lang/String", "coder", "B", (.int (0 : Int32)))]] (Qz ((z0.toInt = 9 ∨ (32 ≤ z0.toInt ∧ z0.toInt ≠ 127 ∧ z0.toInt ≤ 255))) [ar a3 .byte [(.int (nar .byte (z0.toInt8.toInt32)))], ob a1 "java/lang/String" [("java/lang/String", "value", "[B", (.ref a3)), ("java/lang/String", "coder", "B", (.int (0 : Int32)))]]) := by
  refine Met.of pn5 (ls := #[.val (.ref a1), .unset]) (fun m => by first | (simp [entryFrame, mkF, argsToLocals, Value.category, B5_16]; done) | rfl) ?_
  show Go B5_16 Z a0 h0 _ 0 0 [ar a3 .byte [(.int (nar .byte (z0.toInt8.toInt32)))], ob a1 "java/lang/String" [("java/lang/String", "value", "[B", (.ref a3)), ("java/lang/String", "coder", "B", (.int (0 : Int32)))]] 0 #[.val (.ref a1), .unset] []
  refine go_iconst (0 : Int32) 1 rfl d5_0 rfl ?_
  refine go_istoreN #[.val (.ref a1), .val (.int (0 : Int32))] 2 rfl d5_1 rfl rfl ?_
  refine go_iloadN 3 rfl d5_2 rfl ?_
  refine go_aloadN 4 rfl d5_3 rfl rfl ?_
  refine go_callV 7 rfl d5_4 (wd hw 30 rfl) (wd hw 31 rfl) (wd hw 33 rfl) (wd hw 32 rfl) (wd hw 6 rfl) (wd hw 34 rfl) (by decide) (Mo.exa (i := 1) rfl) (mt17 Z a0 hw h0 zc r99 SS z0 h_0 g0 a3 a1) (argsL := []) (rest := [(.int (0 : Int32))]) rfl (ps := []) (by decide +kernel) rfl rfl 1 rfl (by decide) (by decide) (by decide) (by decide) ?_
  rintro _ _ ⟨rfl, rfl⟩
  show Go B5_16 Z a0 h0 _ 0 0 [ar a3 .byte [(.int (nar .byte (z0.toInt8.toInt32)))], ob a1 "java/lang/String" [("java/lang/String", "value", "[B", (.ref a3)), ("java/lang/String", "coder", "B", (.int (0 : Int32)))]] 7 #[.val (.ref a1), .val (.int (0 : Int32))] [(.int (1 : Int32)), (.int (0 : Int32))]
  refine go_icmp 29 10 rfl (by decide) rfl d5_7 rfl (fun (hc7 : (1 : Int) ≤ (0 : Int)) => absurd hc7 (by decide)) (fun (hc7 : ¬ ((1 : Int) ≤ (0 : Int))) => ?_)
  refine go_aloadN 11 rfl d5_10 rfl rfl ?_
  refine go_iloadN 12 rfl d5_11 rfl ?_
  refine go_callV 15 rfl d5_12 (wd hw 54 rfl) (wd hw 55 rfl) (wd hw 57 rfl) (wd hw 56 rfl) (wd hw 6 rfl) (wd hw 58 rfl) (by decide) (Mo.exa (i := 1) rfl) (mt19 Z a0 hw h0 zc r99 SS z0 h_0 g0 a3 a1) (argsL := [(.int (0 : Int32))]) (rest := []) rfl (ps := [.int]) (by decide +kernel) rfl rfl 0 rfl (by decide) (by decide) (by decide) (by decide) ?_
  rintro _ _ ⟨rfl, rfl⟩
  show Go B5_16 Z a0 h0 _ 0 0 [ar a3 .byte [(.int (nar .byte (z0.toInt8.toInt32)))], ob a1 "java/lang/String" [("java/lang/String", "value", "[B", (.ref a3)), ("java/lang/String", "coder", "B", (.int (0 : Int32)))]] 15 #[.val (.ref a1), .val (.int (0 : Int32))] [(.int z0)]
  refine go_callS 18 rfl d5_15 (wd hw 76 rfl) (wd hw 77 rfl) (wd hw 28 rfl) (wd hw 78 rfl) (by decide) (m_isFieldValueChar Z a0 hw h0 [ar a3 .byte [(.int (nar .byte (z0.toInt8.toInt32)))], ob a1 "java/lang/String" [("java/lang/String", "value", "[B", (.ref a3)), ("java/lang/String", "coder", "B", (.int (0 : Int32)))]] z0) (argsL := [(.int z0)]) (rest := []) rfl (ps := [.int]) (by decide +kernel) rfl rfl 0 rfl (by decide) (by decide) (by decide) (by decide) ?_
  rintro _ _ ⟨z103, rfl, rfl, hz103⟩
  show Go B5_16 Z a0 h0 _ 0 0 [ar a3 .byte [(.int (nar .byte (z0.toInt8.toInt32)))], ob a1 "java/lang/String" [("java/lang/String", "value", "[B", (.ref a3)), ("java/lang/String", "coder", "B", (.int (0 : Int32)))]] 18 #[.val (.ref a1), .val (.int (0 : Int32))] [(.int z103)]
  refine go_if 23 21 rfl (by decide) rfl d5_18 rfl (fun (hc18_23 : z103.toInt ≠ 0) => ?_) (fun (hc18_23 : ¬ (z103.toInt ≠ 0)) => ?_)
  · refine go_iinc #[.val (.ref a1), .val (.int (1 : Int32))] 26 rfl d5_23 rfl rfl ?_
    refine go_goto 2 (by decide) rfl d5_26 ?_
    refine go_iloadN 3 rfl d5_2 rfl ?_
    refine go_aloadN 4 rfl d5_3 rfl rfl ?_
    refine go_callV 7 rfl d5_4 (wd hw 30 rfl) (wd hw 31 rfl) (wd hw 33 rfl) (wd hw 32 rfl) (wd hw 6 rfl) (wd hw 34 rfl) (by decide) (Mo.exa (i := 1) rfl) (mt17 Z a0 hw h0 zc r99 SS z0 h_0 g0 a3 a1) (argsL := []) (rest := [(.int (1 : Int32))]) rfl (ps := []) (by decide +kernel) rfl rfl 1 rfl (by decide) (by decide) (by decide) (by decide) ?_
    rintro _ _ ⟨rfl, rfl⟩
    show Go B5_16 Z a0 h0 _ 0 0 [ar a3 .byte [(.int (nar .byte (z0.toInt8.toInt32)))], ob a1 "java/lang/String" [("java/lang/String", "value", "[B", (.ref a3)), ("java/lang/String", "coder", "B", (.int (0 : Int32)))]] 7 #[.val (.ref a1), .val (.int (1 : Int32))] [(.int (1 : Int32)), (.int (1 : Int32))]
    refine go_icmp 29 10 rfl (by decide) rfl d5_7 rfl (fun (hc7 : (1 : Int) ≤ (1 : Int)) => ?_) (fun (hc7 : ¬ ((1 : Int) ≤ (1 : Int))) => absurd hc7 (by decide))
    refine go_iconst (1 : Int32) 30 rfl d5_29 rfl ?_
    exact go_ireturn d5_30 rfl (Or.inr (Or.inl rfl)) rfl rfl (by decide) (by decide) ⟨_, rfl, rfl, Or.inl ⟨rfl, by omega⟩⟩
  · refine go_iconst (0 : Int32) 22 rfl d5_21 rfl ?_
    exact go_ireturn d5_22 rfl (Or.inr (Or.inl rfl)) rfl rfl (by decide) (by decide) ⟨_, rfl, rfl, Or.inr ⟨rfl, by omega⟩⟩
theorem d9_23 : decode jdk_52_method_21_code 23 = .ok (.iload 5, 2) := by decide +kernel
theorem d9_25 : decode jdk_52_method_21_code 25 = .ok (.ireturn, 1) := by decide +kernel
def B9_28 : Bdy := (⟨"java/lang/StringUTF16", "compress", "([CI[BII)I"⟩, jdk_52_method_21_code, 7, (some .int), ({ frames := 0, cells := 0, slots := 0, locals := 0 } : Room))
set_option maxRecDepth 65536 in
set_option maxHeartbeats 4000000 in
theorem mt28 (Z : State) (a0 : Array Value) (hw : ∀ d ∈ tables_1, d.before a0 Z = true) (h0 : Heap) (zc : Int32) (r99 : Value) (SS : Sts Z h0 zc r99) (z0 : Int32) (h_0 : 0 ≤ z0.toInt ∧ z0.toInt ≤ 65535) (g0 : ¬ z0.toInt ≤ 255) (a2 : Addr) (a304 : Addr) :
    Met B9_28 Z a0 h0 #[(.ref a2), (.int (0 : Int32)), (.ref a304), (.int (0 : Int32)), (.int (1 : Int32))] [ar a2 .char [(.int z0)], ar a304 .byte [(.int (0 : Int32))]] (Ret (some (.int (0 : Int32))) [ar a2 .char [(.int z0)], ar a304 .byte [(.int (0 : Int32))]]) := by
  refine Met.of pn9 (ls := #[.val (.ref a2), .val (.int (0 : Int32)), .val (.ref a304), .val (.int (0 : Int32)), .val (.int (1 : Int32)), .unset, .unset]) (fun m => by first | (simp [entryFrame, mkF, argsToLocals, Value.category, B9_28]; done) | rfl) ?_
  show Go B9_28 Z a0 h0 _ 0 0 [ar a2 .char [(.int z0)], ar a304 .byte [(.int (0 : Int32))]] 0 #[.val (.ref a2), .val (.int (0 : Int32)), .val (.ref a304), .val (.int (0 : Int32)), .val (.int (1 : Int32)), .unset, .unset] []
  refine go_iconst (0 : Int32) 1 rfl d9_0 rfl ?_
  refine go_istore #[.val (.ref a2), .val (.int (0 : Int32)), .val (.ref a304), .val (.int (0 : Int32)), .val (.int (1 : Int32)), .val (.int (0 : Int32)), .unset] 3 rfl d9_1 rfl rfl ?_
  refine go_iload 5 rfl d9_3 rfl ?_
  refine go_iload 7 rfl d9_5 rfl ?_
  refine go_icmp 44 10 rfl (by decide) rfl d9_7 rfl (fun (hc7 : (1 : Int) ≤ (0 : Int)) => absurd hc7 (by decide)) (fun (hc7 : ¬ ((1 : Int) ≤ (0 : Int))) => ?_)
  refine go_aloadN 11 rfl d9_10 rfl rfl ?_
  refine go_iloadN 12 rfl d9_11 rfl ?_
  refine go_caload 13 rfl d9_12 rfl (Mo.el (i := 0) rfl (by decide) rfl) ?_
  refine go_istore #[.val (.ref a2), .val (.int (0 : Int32)), .val (.ref a304), .val (.int (0 : Int32)), .val (.int (1 : Int32)), .val (.int (0 : Int32)), .val (.int z0)] 15 rfl d9_13 rfl rfl ?_
  refine go_iload 17 rfl d9_15 rfl ?_
  refine go_sipush (255 : Int32) 20 rfl d9_17 rfl ?_
  refine go_icmp 26 23 rfl (by decide) rfl d9_20 rfl (fun (hc20 : z0.toInt ≤ (255 : Int)) => absurd hc20 (by omega)) (fun (hc20 : ¬ (z0.toInt ≤ (255 : Int))) => ?_)
  refine go_iload 25 rfl d9_23 rfl ?_
  exact go_ireturn d9_25 rfl (Or.inl rfl) rfl rfl (by decide) (by decide) ⟨rfl, rfl⟩
theorem d20_0 : decode jdk_52_method_3_code 0 = .ok (.iload_n 0, 1) := by decide +kernel
theorem d20_1 : decode jdk_52_method_3_code 1 = .ok (.ifCond .ge 11, 3) := by decide +kernel
theorem d20_12 : decode jdk_52_method_3_code 12 = .ok (.iload_n 0, 1) := by decide +kernel
theorem d20_13 : decode jdk_52_method_3_code 13 = .ok (.ldc 20, 2) := by decide +kernel
theorem d20_15 : decode jdk_52_method_3_code 15 = .ok (.if_icmp .lt 40, 3) := by decide +kernel
theorem d20_55 : decode jdk_52_method_3_code 55 = .ok (.iload_n 0, 1) := by decide +kernel
theorem d20_56 : decode jdk_52_method_3_code 56 = .ok (.iconst 1, 1) := by decide +kernel
theorem d20_57 : decode jdk_52_method_3_code 57 = .ok (.ishl, 1) := by decide +kernel
theorem d20_58 : decode jdk_52_method_3_code 58 = .ok (.ireturn, 1) := by decide +kernel
theorem pn20 : plainFor (⟨"java/lang/StringUTF16", "newBytesLength", "(I)I"⟩ : MethodName) = true := by first | (apply plainFor_of_name; simp [plainName, overriddenIn]; done) | decide +kernel
def B20_31 : Bdy := (⟨"java/lang/StringUTF16", "newBytesLength", "(I)I"⟩, jdk_52_method_3_code, 1, (some .int), ({ frames := 0, cells := 0, slots := 0, locals := 0 } : Room))
set_option maxRecDepth 65536 in
set_option maxHeartbeats 4000000 in
theorem mt31 (Z : State) (a0 : Array Value) (hw : ∀ d ∈ tables_1, d.before a0 Z = true) (h0 : Heap) (zc : Int32) (r99 : Value) (SS : Sts Z h0 zc r99) (z0 : Int32) (h_0 : 0 ≤ z0.toInt ∧ z0.toInt ≤ 65535) :
    Met B20_31 Z a0 h0 #[(.int (1 : Int32))] [] (Ret (some (.int (2 : Int32))) []) := by
  refine Met.of pn20 (ls := #[.val (.int (1 : Int32))]) (fun m => by first | (simp [entryFrame, mkF, argsToLocals, Value.category, B20_31]; done) | rfl) ?_
  show Go B20_31 Z a0 h0 _ 0 0 [] 0 #[.val (.int (1 : Int32))] []
  refine go_iloadN 1 rfl d20_0 rfl ?_
  refine go_if 12 4 rfl (by decide) rfl d20_1 rfl (fun (hc1 : 0 ≤ (1 : Int)) => ?_) (fun (hc1 : ¬ (0 ≤ (1 : Int))) => absurd hc1 (by decide))
  refine go_iloadN 13 rfl d20_12 rfl ?_
  refine go_ldc (v := (1073741823 : Int32)) 15 rfl d20_13 (wd hw 89 rfl) ?_
  refine go_icmp 55 18 rfl (by decide) rfl d20_15 rfl (fun (hc15 : (1 : Int) < (1073741823 : Int)) => ?_) (fun (hc15 : ¬ ((1 : Int) < (1073741823 : Int))) => absurd hc15 (by decide))
  refine go_iloadN 56 rfl d20_55 rfl ?_
  refine go_iconst (1 : Int32) 57 rfl d20_56 rfl ?_
  refine go_ishl 58 rfl d20_57 rfl ?_
  show Go B20_31 Z a0 h0 _ 0 0 [] 58 #[.val (.int (1 : Int32))] [(.int (2 : Int32))]
  exact go_ireturn d20_58 rfl (Or.inl rfl) rfl rfl (by decide) (by decide) ⟨rfl, rfl⟩
theorem d19_0 : decode jdk_52_method_2_code 0 = .ok (.iload_n 0, 1) := by decide +kernel
theorem d19_1 : decode jdk_52_method_2_code 1 = .ok (.invokestatic 11, 3) := by decide +kernel
theorem d19_4 : decode jdk_52_method_2_code 4 = .ok (.newarray .byte, 2) := by decide +kernel
theorem d19_6 : decode jdk_52_method_2_code 6 = .ok (.areturn, 1) := by decide +kernel
theorem pn19 : plainFor (⟨"java/lang/StringUTF16", "newBytesFor", "(I)[B"⟩ : MethodName) = true := by first | (apply plainFor_of_name; simp [plainName, overriddenIn]; done) | decide +kernel
def B19_30 : Bdy := (⟨"java/lang/StringUTF16", "newBytesFor", "(I)[B"⟩, jdk_52_method_2_code, 1, (some (.array .byte)), ({ frames := 1, cells := 1, slots := 2, locals := 12 } : Room))
set_option maxRecDepth 65536 in
set_option maxHeartbeats 4000000 in
theorem mt30 (Z : State) (a0 : Array Value) (hw : ∀ d ∈ tables_1, d.before a0 Z = true) (h0 : Heap) (zc : Int32) (r99 : Value) (SS : Sts Z h0 zc r99) (z0 : Int32) (h_0 : 0 ≤ z0.toInt ∧ z0.toInt ≤ 65535) :
    Met B19_30 Z a0 h0 #[(.int (1 : Int32))] [] (fun v ds => ∃ a505 : Addr, Ret (some (.ref a505)) [ar a505 .byte [(.int (0 : Int32)), (.int (0 : Int32))]] v ds) := by
  refine Met.of pn19 (ls := #[.val (.int (1 : Int32))]) (fun m => by first | (simp [entryFrame, mkF, argsToLocals, Value.category, B19_30]; done) | rfl) ?_
  show Go B19_30 Z a0 h0 _ 0 0 [] 0 #[.val (.int (1 : Int32))] []
  refine go_iloadN 1 rfl d19_0 rfl ?_
  refine go_callS 4 rfl d19_1 (wd hw 86 rfl) (wd hw 87 rfl) (wd hw 43 rfl) (wd hw 88 rfl) (by decide) (mt31 Z a0 hw h0 zc r99 SS z0 h_0) (argsL := [(.int (1 : Int32))]) (rest := []) rfl (ps := [.int]) (by decide +kernel) rfl rfl 0 rfl (by decide) (by decide) (by decide) (by decide) ?_
  rintro _ _ ⟨rfl, rfl⟩
  show Go B19_30 Z a0 h0 _ 0 0 [] 4 #[.val (.int (1 : Int32))] [(.int (2 : Int32))]
  refine go_newarr 6 rfl d19_4 rfl (wd hw 19 rfl) (by decide) 2 (by decide) (by decide) (by decide) (by decide) (fun a505 => ?_)
  show Go B19_30 Z a0 h0 _ 1 2 [ar a505 .byte [(.int (0 : Int32)), (.int (0 : Int32))]] 6 #[.val (.int (1 : Int32))] [(.ref a505)]
  exact go_areturn d19_6 rfl rfl rfl rfl (by decide) (by decide) ⟨a505, rfl, rfl⟩
theorem d21_0 : decode jdk_52_method_4_code 0 = .ok (.getstatic 44, 3) := by decide +kernel
theorem d21_3 : decode jdk_52_method_4_code 3 = .ok (.ifCond .ne 25, 3) := by decide +kernel
theorem d21_28 : decode jdk_52_method_4_code 28 = .ok (.iload_n 1, 1) := by decide +kernel
theorem d21_29 : decode jdk_52_method_4_code 29 = .ok (.iconst 1, 1) := by decide +kernel
theorem d21_30 : decode jdk_52_method_4_code 30 = .ok (.ishl, 1) := by decide +kernel
theorem d21_31 : decode jdk_52_method_4_code 31 = .ok (.istore_n 1, 1) := by decide +kernel
theorem d21_32 : decode jdk_52_method_4_code 32 = .ok (.aload_n 0, 1) := by decide +kernel
theorem d21_33 : decode jdk_52_method_4_code 33 = .ok (.iload_n 1, 1) := by decide +kernel
theorem d21_34 : decode jdk_52_method_4_code 34 = .ok (.iinc 1 1, 3) := by decide +kernel
theorem d21_37 : decode jdk_52_method_4_code 37 = .ok (.iload_n 2, 1) := by decide +kernel
theorem d21_38 : decode jdk_52_method_4_code 38 = .ok (.getstatic 59, 3) := by decide +kernel
theorem d21_41 : decode jdk_52_method_4_code 41 = .ok (.ishr, 1) := by decide +kernel
theorem d21_42 : decode jdk_52_method_4_code 42 = .ok (.i2b, 1) := by decide +kernel
theorem d21_43 : decode jdk_52_method_4_code 43 = .ok (.bastore, 1) := by decide +kernel
theorem d21_44 : decode jdk_52_method_4_code 44 = .ok (.aload_n 0, 1) := by decide +kernel
theorem d21_45 : decode jdk_52_method_4_code 45 = .ok (.iload_n 1, 1) := by decide +kernel
theorem d21_46 : decode jdk_52_method_4_code 46 = .ok (.iload_n 2, 1) := by decide +kernel
theorem d21_47 : decode jdk_52_method_4_code 47 = .ok (.getstatic 63, 3) := by decide +kernel
theorem d21_50 : decode jdk_52_method_4_code 50 = .ok (.ishr, 1) := by decide +kernel
theorem d21_51 : decode jdk_52_method_4_code 51 = .ok (.i2b, 1) := by decide +kernel
theorem d21_52 : decode jdk_52_method_4_code 52 = .ok (.bastore, 1) := by decide +kernel
theorem d21_53 : decode jdk_52_method_4_code 53 = .ok (.return_, 1) := by decide +kernel
theorem pn21 : plainFor (⟨"java/lang/StringUTF16", "putChar", "([BII)V"⟩ : MethodName) = true := by first | (apply plainFor_of_name; simp [plainName, overriddenIn]; done) | decide +kernel
def B21_32 : Bdy := (⟨"java/lang/StringUTF16", "putChar", "([BII)V"⟩, jdk_52_method_4_code, 3, none, ({ frames := 0, cells := 0, slots := 0, locals := 0 } : Room))
set_option maxRecDepth 65536 in
set_option maxHeartbeats 4000000 in
theorem mt32 (Z : State) (a0 : Array Value) (hw : ∀ d ∈ tables_1, d.before a0 Z = true) (h0 : Heap) (zc : Int32) (r99 : Value) (SS : Sts Z h0 zc r99) (z0 : Int32) (h_0 : 0 ≤ z0.toInt ∧ z0.toInt ≤ 65535) (a405 : Addr) :
    Met B21_32 Z a0 h0 #[(.ref a405), (.int (0 : Int32)), (.int z0)] [ar a405 .byte [(.int (0 : Int32)), (.int (0 : Int32))]] (Ret none [ar a405 .byte [(.int (nar .byte ((z0 >>> ((0 : Int32) &&& 31)).toInt8.toInt32))), (.int (nar .byte ((z0 >>> ((8 : Int32) &&& 31)).toInt8.toInt32)))]]) := by
  refine Met.of pn21 (ls := #[.val (.ref a405), .val (.int (0 : Int32)), .val (.int z0)]) (fun m => by first | (simp [entryFrame, mkF, argsToLocals, Value.category, B21_32]; done) | rfl) ?_
  show Go B21_32 Z a0 h0 _ 0 0 [ar a405 .byte [(.int (0 : Int32)), (.int (0 : Int32))]] 0 #[.val (.ref a405), .val (.int (0 : Int32)), .val (.int z0)] []
  refine go_getS 3 rfl d21_0 (wd hw 93 rfl) SS.2.2.2.2.1 ?_
  refine go_if 28 6 rfl (by decide) rfl d21_3 rfl (fun (hc3 : (1 : Int) ≠ 0) => ?_) (fun (hc3 : ¬ ((1 : Int) ≠ 0)) => absurd hc3 (by decide))
  refine go_iloadN 29 rfl d21_28 rfl ?_
  refine go_iconst (1 : Int32) 30 rfl d21_29 rfl ?_
  refine go_ishl 31 rfl d21_30 rfl ?_
  show Go B21_32 Z a0 h0 _ 0 0 [ar a405 .byte [(.int (0 : Int32)), (.int (0 : Int32))]] 31 #[.val (.ref a405), .val (.int (0 : Int32)), .val (.int z0)] [(.int (0 : Int32))]
  refine go_istoreN #[.val (.ref a405), .val (.int (0 : Int32)), .val (.int z0)] 32 rfl d21_31 rfl rfl ?_
  refine go_aloadN 33 rfl d21_32 rfl rfl ?_
  refine go_iloadN 34 rfl d21_33 rfl ?_
  refine go_iinc #[.val (.ref a405), .val (.int (1 : Int32)), .val (.int z0)] 37 rfl d21_34 rfl rfl ?_
  refine go_iloadN 38 rfl d21_37 rfl ?_
  refine go_getS 41 rfl d21_38 (wd hw 94 rfl) SS.2.2.2.2.2.1 ?_
  refine go_ishr 42 rfl d21_41 rfl ?_
  refine go_i2b 43 rfl d21_42 rfl ?_
  refine go_bastore 0 44 rfl d21_43 rfl rfl (by decide) (Nat.le_of_ble_eq_true rfl) ?_
  show Go B21_32 Z a0 h0 _ 0 0 [ar a405 .byte [(.int (nar .byte ((z0 >>> ((0 : Int32) &&& 31)).toInt8.toInt32))), (.int (0 : Int32))]] 44 #[.val (.ref a405), .val (.int (1 : Int32)), .val (.int z0)] []
  refine go_aloadN 45 rfl d21_44 rfl rfl ?_
  refine go_iloadN 46 rfl d21_45 rfl ?_
  refine go_iloadN 47 rfl d21_46 rfl ?_
  refine go_getS 50 rfl d21_47 (wd hw 95 rfl) SS.2.2.2.2.2.2 ?_
  refine go_ishr 51 rfl d21_50 rfl ?_
  refine go_i2b 52 rfl d21_51 rfl ?_
  refine go_bastore 0 53 rfl d21_52 rfl rfl (by decide) (Nat.le_of_ble_eq_true rfl) ?_
  show Go B21_32 Z a0 h0 _ 0 0 [ar a405 .byte [(.int (nar .byte ((z0 >>> ((0 : Int32) &&& 31)).toInt8.toInt32))), (.int (nar .byte ((z0 >>> ((8 : Int32) &&& 31)).toInt8.toInt32)))]] 53 #[.val (.ref a405), .val (.int (1 : Int32)), .val (.int z0)] []
  exact go_return d21_53 rfl rfl (by decide) (by decide) ⟨rfl, rfl⟩
theorem d18_0 : decode jdk_52_method_14_code 0 = .ok (.iload_n 2, 1) := by decide +kernel
theorem d18_1 : decode jdk_52_method_14_code 1 = .ok (.invokestatic 107, 3) := by decide +kernel
theorem d18_4 : decode jdk_52_method_14_code 4 = .ok (.astore_n 3, 1) := by decide +kernel
theorem d18_5 : decode jdk_52_method_14_code 5 = .ok (.iconst 0, 1) := by decide +kernel
theorem d18_6 : decode jdk_52_method_14_code 6 = .ok (.istore 4, 2) := by decide +kernel
theorem d18_8 : decode jdk_52_method_14_code 8 = .ok (.iload 4, 2) := by decide +kernel
theorem d18_10 : decode jdk_52_method_14_code 10 = .ok (.iload_n 2, 1) := by decide +kernel
theorem d18_11 : decode jdk_52_method_14_code 11 = .ok (.if_icmp .ge 21, 3) := by decide +kernel
theorem d18_14 : decode jdk_52_method_14_code 14 = .ok (.aload_n 3, 1) := by decide +kernel
theorem d18_15 : decode jdk_52_method_14_code 15 = .ok (.iload 4, 2) := by decide +kernel
theorem d18_17 : decode jdk_52_method_14_code 17 = .ok (.aload_n 0, 1) := by decide +kernel
theorem d18_18 : decode jdk_52_method_14_code 18 = .ok (.iload_n 1, 1) := by decide +kernel
theorem d18_19 : decode jdk_52_method_14_code 19 = .ok (.caload, 1) := by decide +kernel
theorem d18_20 : decode jdk_52_method_14_code 20 = .ok (.invokestatic 111, 3) := by decide +kernel
theorem d18_23 : decode jdk_52_method_14_code 23 = .ok (.iinc 1 1, 3) := by decide +kernel
theorem d18_26 : decode jdk_52_method_14_code 26 = .ok (.iinc 4 1, 3) := by decide +kernel
theorem d18_29 : decode jdk_52_method_14_code 29 = .ok (.goto (-21), 3) := by decide +kernel
theorem d18_32 : decode jdk_52_method_14_code 32 = .ok (.aload_n 3, 1) := by decide +kernel
theorem d18_33 : decode jdk_52_method_14_code 33 = .ok (.areturn, 1) := by decide +kernel
theorem pn18 : plainFor (⟨"java/lang/StringUTF16", "toBytes", "([CII)[B"⟩ : MethodName) = true := by first | (apply plainFor_of_name; simp [plainName, overriddenIn]; done) | decide +kernel
def B18_29 : Bdy := (⟨"java/lang/StringUTF16", "toBytes", "([CII)[B"⟩, jdk_52_method_14_code, 5, (some (.array .byte)), ({ frames := 2, cells := 1, slots := 2, locals := 24 } : Room))
set_option maxRecDepth 65536 in
set_option maxHeartbeats 4000000 in
theorem mt29 (Z : State) (a0 : Array Value) (hw : ∀ d ∈ tables_1, d.before a0 Z = true) (h0 : Heap) (zc : Int32) (r99 : Value) (SS : Sts Z h0 zc r99) (z0 : Int32) (h_0 : 0 ≤ z0.toInt ∧ z0.toInt ≤ 65535) (a2 : Addr) :
    Met B18_29 Z a0 h0 #[(.ref a2), (.int (0 : Int32)), (.int (1 : Int32))] [ar a2 .char [(.int z0)]] (fun v ds => ∃ a405 : Addr, Ret (some (.ref a405)) [ar a405 .byte [(.int (nar .byte ((z0 >>> ((0 : Int32) &&& 31)).toInt8.toInt32))), (.int (nar .byte ((z0 >>> ((8 : Int32) &&& 31)).toInt8.toInt32)))], ar a2 .char [(.int z0)]] v ds) := by
  refine Met.of pn18 (ls := #[.val (.ref a2), .val (.int (0 : Int32)), .val (.int (1 : Int32)), .unset, .unset]) (fun m => by first | (simp [entryFrame, mkF, argsToLocals, Value.category, B18_29]; done) | rfl) ?_
  show Go B18_29 Z a0 h0 _ 0 0 [ar a2 .char [(.int z0)]] 0 #[.val (.ref a2), .val (.int (0 : Int32)), .val (.int (1 : Int32)), .unset, .unset] []
  refine go_iloadN 1 rfl d18_0 rfl ?_
  refine go_callS 4 rfl d18_1 (wd hw 83 rfl) (wd hw 84 rfl) (wd hw 43 rfl) (wd hw 85 rfl) (by decide) (Met.frame [ar a2 .char [(.int z0)]] (mt30 Z a0 hw h0 zc r99 SS z0 h_0)) (argsL := [(.int (1 : Int32))]) (rest := []) rfl (ps := [.int]) (by decide +kernel) rfl rfl 0 rfl (by decide) (by decide) (by decide) (by decide) ?_
  rintro _ _ ⟨_, ⟨a405, rfl, rfl⟩, rfl⟩
  show Go B18_29 Z a0 h0 _ 1 2 [ar a405 .byte [(.int (0 : Int32)), (.int (0 : Int32))], ar a2 .char [(.int z0)]] 4 #[.val (.ref a2), .val (.int (0 : Int32)), .val (.int (1 : Int32)), .unset, .unset] [(.ref a405)]
  refine go_astoreN #[.val (.ref a2), .val (.int (0 : Int32)), .val (.int (1 : Int32)), .val (.ref a405), .unset] 5 rfl d18_4 rfl rfl rfl ?_
  refine go_iconst (0 : Int32) 6 rfl d18_5 rfl ?_
  refine go_istore #[.val (.ref a2), .val (.int (0 : Int32)), .val (.int (1 : Int32)), .val (.ref a405), .val (.int (0 : Int32))] 8 rfl d18_6 rfl rfl ?_
  refine go_iload 10 rfl d18_8 rfl ?_
  refine go_iloadN 11 rfl d18_10 rfl ?_
  refine go_icmp 32 14 rfl (by decide) rfl d18_11 rfl (fun (hc11 : (1 : Int) ≤ (0 : Int)) => absurd hc11 (by decide)) (fun (hc11 : ¬ ((1 : Int) ≤ (0 : Int))) => ?_)
  refine go_aloadN 15 rfl d18_14 rfl rfl ?_
  refine go_iload 17 rfl d18_15 rfl ?_
  refine go_aloadN 18 rfl d18_17 rfl rfl ?_
  refine go_iloadN 19 rfl d18_18 rfl ?_
  refine go_caload 20 rfl d18_19 rfl (Mo.el (i := 1) rfl (by decide) rfl) ?_
  refine go_callS 23 rfl d18_20 (wd hw 90 rfl) (wd hw 91 rfl) (wd hw 43 rfl) (wd hw 92 rfl) (by decide) (Met.frame [ar a2 .char [(.int z0)]] (mt32 Z a0 hw h0 zc r99 SS z0 h_0 a405)) (argsL := [(.ref a405), (.int (0 : Int32)), (.int z0)]) (rest := []) rfl (ps := [(.array .byte), .int, .int]) (by decide +kernel) rfl rfl 0 rfl (by decide) (by decide) (by decide) (by decide) ?_
  rintro _ _ ⟨_, ⟨rfl, rfl⟩, rfl⟩
  show Go B18_29 Z a0 h0 _ 1 2 [ar a405 .byte [(.int (nar .byte ((z0 >>> ((0 : Int32) &&& 31)).toInt8.toInt32))), (.int (nar .byte ((z0 >>> ((8 : Int32) &&& 31)).toInt8.toInt32)))], ar a2 .char [(.int z0)]] 23 #[.val (.ref a2), .val (.int (0 : Int32)), .val (.int (1 : Int32)), .val (.ref a405), .val (.int (0 : Int32))] []
  refine go_iinc #[.val (.ref a2), .val (.int (1 : Int32)), .val (.int (1 : Int32)), .val (.ref a405), .val (.int (0 : Int32))] 26 rfl d18_23 rfl rfl ?_
  refine go_iinc #[.val (.ref a2), .val (.int (1 : Int32)), .val (.int (1 : Int32)), .val (.ref a405), .val (.int (1 : Int32))] 29 rfl d18_26 rfl rfl ?_
  refine go_goto 8 (by decide) rfl d18_29 ?_
  refine go_iload 10 rfl d18_8 rfl ?_
  refine go_iloadN 11 rfl d18_10 rfl ?_
  refine go_icmp 32 14 rfl (by decide) rfl d18_11 rfl (fun (hc11 : (1 : Int) ≤ (1 : Int)) => ?_) (fun (hc11 : ¬ ((1 : Int) ≤ (1 : Int))) => absurd hc11 (by decide))
  refine go_aloadN 33 rfl d18_32 rfl rfl ?_
  exact go_areturn d18_33 rfl rfl rfl rfl (by decide) (by decide) ⟨a405, rfl, rfl⟩
theorem d22_0 : decode jdk_52_method_5_code 0 = .ok (.getstatic 44, 3) := by decide +kernel
theorem d22_3 : decode jdk_52_method_5_code 3 = .ok (.ifCond .ne 25, 3) := by decide +kernel
theorem d22_28 : decode jdk_52_method_5_code 28 = .ok (.iload_n 1, 1) := by decide +kernel
theorem d22_29 : decode jdk_52_method_5_code 29 = .ok (.iconst 1, 1) := by decide +kernel
theorem d22_30 : decode jdk_52_method_5_code 30 = .ok (.ishl, 1) := by decide +kernel
theorem d22_31 : decode jdk_52_method_5_code 31 = .ok (.istore_n 1, 1) := by decide +kernel
theorem d22_32 : decode jdk_52_method_5_code 32 = .ok (.aload_n 0, 1) := by decide +kernel
theorem d22_33 : decode jdk_52_method_5_code 33 = .ok (.iload_n 1, 1) := by decide +kernel
theorem d22_34 : decode jdk_52_method_5_code 34 = .ok (.iinc 1 1, 3) := by decide +kernel
theorem d22_37 : decode jdk_52_method_5_code 37 = .ok (.baload, 1) := by decide +kernel
theorem d22_38 : decode jdk_52_method_5_code 38 = .ok (.sipush 255, 3) := by decide +kernel
theorem d22_41 : decode jdk_52_method_5_code 41 = .ok (.iand, 1) := by decide +kernel
theorem d22_42 : decode jdk_52_method_5_code 42 = .ok (.getstatic 59, 3) := by decide +kernel
theorem d22_45 : decode jdk_52_method_5_code 45 = .ok (.ishl, 1) := by decide +kernel
theorem d22_46 : decode jdk_52_method_5_code 46 = .ok (.aload_n 0, 1) := by decide +kernel
theorem d22_47 : decode jdk_52_method_5_code 47 = .ok (.iload_n 1, 1) := by decide +kernel
theorem d22_48 : decode jdk_52_method_5_code 48 = .ok (.baload, 1) := by decide +kernel
theorem d22_49 : decode jdk_52_method_5_code 49 = .ok (.sipush 255, 3) := by decide +kernel
theorem d22_52 : decode jdk_52_method_5_code 52 = .ok (.iand, 1) := by decide +kernel
theorem d22_53 : decode jdk_52_method_5_code 53 = .ok (.getstatic 63, 3) := by decide +kernel
theorem d22_56 : decode jdk_52_method_5_code 56 = .ok (.ishl, 1) := by decide +kernel
theorem d22_57 : decode jdk_52_method_5_code 57 = .ok (.ior, 1) := by decide +kernel
theorem d22_58 : decode jdk_52_method_5_code 58 = .ok (.i2c, 1) := by decide +kernel
theorem d22_59 : decode jdk_52_method_5_code 59 = .ok (.ireturn, 1) := by decide +kernel
theorem pn22 : plainFor (⟨"java/lang/StringUTF16", "getChar", "([BI)C"⟩ : MethodName) = true := by first | (apply plainFor_of_name; simp [plainName, overriddenIn]; done) | decide +kernel
def B22_33 : Bdy := (⟨"java/lang/StringUTF16", "getChar", "([BI)C"⟩, jdk_52_method_5_code, 2, (some .char), ({ frames := 0, cells := 0, slots := 0, locals := 0 } : Room))
set_option maxRecDepth 65536 in
set_option maxHeartbeats 4000000 in
theorem mt33 (Z : State) (a0 : Array Value) (hw : ∀ d ∈ tables_1, d.before a0 Z = true) (h0 : Heap) (zc : Int32) (r99 : Value) (SS : Sts Z h0 zc r99) (z0 : Int32) (h_0 : 0 ≤ z0.toInt ∧ z0.toInt ≤ 65535) (a305 : Addr) :
    Met B22_33 Z a0 h0 #[(.ref a305), (.int (0 : Int32))] [ar a305 .byte [(.int (nar .byte ((z0 >>> ((0 : Int32) &&& 31)).toInt8.toInt32))), (.int (nar .byte ((z0 >>> ((8 : Int32) &&& 31)).toInt8.toInt32)))]] (Ret (some (.int z0)) [ar a305 .byte [(.int (nar .byte ((z0 >>> ((0 : Int32) &&& 31)).toInt8.toInt32))), (.int (nar .byte ((z0 >>> ((8 : Int32) &&& 31)).toInt8.toInt32)))]]) := by
  refine Met.of pn22 (ls := #[.val (.ref a305), .val (.int (0 : Int32))]) (fun m => by first | (simp [entryFrame, mkF, argsToLocals, Value.category, B22_33]; done) | rfl) ?_
  show Go B22_33 Z a0 h0 _ 0 0 [ar a305 .byte [(.int (nar .byte ((z0 >>> ((0 : Int32) &&& 31)).toInt8.toInt32))), (.int (nar .byte ((z0 >>> ((8 : Int32) &&& 31)).toInt8.toInt32)))]] 0 #[.val (.ref a305), .val (.int (0 : Int32))] []
  refine go_getS 3 rfl d22_0 (wd hw 93 rfl) SS.2.2.2.2.1 ?_
  refine go_if 28 6 rfl (by decide) rfl d22_3 rfl (fun (hc3 : (1 : Int) ≠ 0) => ?_) (fun (hc3 : ¬ ((1 : Int) ≠ 0)) => absurd hc3 (by decide))
  refine go_iloadN 29 rfl d22_28 rfl ?_
  refine go_iconst (1 : Int32) 30 rfl d22_29 rfl ?_
  refine go_ishl 31 rfl d22_30 rfl ?_
  show Go B22_33 Z a0 h0 _ 0 0 [ar a305 .byte [(.int (nar .byte ((z0 >>> ((0 : Int32) &&& 31)).toInt8.toInt32))), (.int (nar .byte ((z0 >>> ((8 : Int32) &&& 31)).toInt8.toInt32)))]] 31 #[.val (.ref a305), .val (.int (0 : Int32))] [(.int (0 : Int32))]
  refine go_istoreN #[.val (.ref a305), .val (.int (0 : Int32))] 32 rfl d22_31 rfl rfl ?_
  refine go_aloadN 33 rfl d22_32 rfl rfl ?_
  refine go_iloadN 34 rfl d22_33 rfl ?_
  refine go_iinc #[.val (.ref a305), .val (.int (1 : Int32))] 37 rfl d22_34 rfl rfl ?_
  refine go_baload 38 rfl d22_37 rfl (Mo.el (i := 0) rfl (by decide) rfl) ?_
  refine go_sipush (255 : Int32) 41 rfl d22_38 rfl ?_
  refine go_iand 42 rfl d22_41 rfl ?_
  refine go_getS 45 rfl d22_42 (wd hw 94 rfl) SS.2.2.2.2.2.1 ?_
  refine go_ishl 46 rfl d22_45 rfl ?_
  refine go_aloadN 47 rfl d22_46 rfl rfl ?_
  refine go_iloadN 48 rfl d22_47 rfl ?_
  refine go_baload 49 rfl d22_48 rfl (Mo.el (i := 0) rfl (by decide) rfl) ?_
  refine go_sipush (255 : Int32) 52 rfl d22_49 rfl ?_
  refine go_iand 53 rfl d22_52 rfl ?_
  refine go_getS 56 rfl d22_53 (wd hw 95 rfl) SS.2.2.2.2.2.2 ?_
  refine go_ishl 57 rfl d22_56 rfl ?_
  refine go_ior 58 rfl d22_57 rfl ?_
  refine go_i2c 59 rfl d22_58 rfl ?_
  exact go_ireturn d22_59 rfl (Or.inr (Or.inr (Or.inr (Or.inl rfl)))) rfl (congrArg Value.int (nar_c _)) (by decide) (by decide) (by rw [utf z0 h_0]; exact ⟨rfl, rfl⟩)
theorem d8_20 : decode jdk_52_method_16_code 20 = .ok (.aload_n 0, 1) := by decide +kernel
theorem d8_21 : decode jdk_52_method_16_code 21 = .ok (.iload_n 1, 1) := by decide +kernel
theorem d8_22 : decode jdk_52_method_16_code 22 = .ok (.iload_n 2, 1) := by decide +kernel
theorem d8_23 : decode jdk_52_method_16_code 23 = .ok (.invokestatic 119, 3) := by decide +kernel
theorem d8_26 : decode jdk_52_method_16_code 26 = .ok (.astore 5, 2) := by decide +kernel
theorem d8_28 : decode jdk_52_method_16_code 28 = .ok (.aload 5, 2) := by decide +kernel
theorem d8_30 : decode jdk_52_method_16_code 30 = .ok (.iload 4, 2) := by decide +kernel
theorem d8_32 : decode jdk_52_method_16_code 32 = .ok (.invokestatic 71, 3) := by decide +kernel
theorem d8_35 : decode jdk_52_method_16_code 35 = .ok (.sipush 255, 3) := by decide +kernel
theorem d8_38 : decode jdk_52_method_16_code 38 = .ok (.if_icmp .gt 16, 3) := by decide +kernel
theorem d8_54 : decode jdk_52_method_16_code 54 = .ok (.aload 5, 2) := by decide +kernel
theorem d8_56 : decode jdk_52_method_16_code 56 = .ok (.areturn, 1) := by decide +kernel
def B8_27 : Bdy := (⟨"java/lang/StringUTF16", "compress", "([CII)[B"⟩, jdk_52_method_16_code, 6, (some (.array .byte)), ({ frames := 3, cells := 2, slots := 3, locals := 40 } : Room))
set_option maxRecDepth 65536 in
set_option maxHeartbeats 4000000 in
theorem mt27 (Z : State) (a0 : Array Value) (hw : ∀ d ∈ tables_1, d.before a0 Z = true) (h0 : Heap) (zc : Int32) (r99 : Value) (SS : Sts Z h0 zc r99) (z0 : Int32) (h_0 : 0 ≤ z0.toInt ∧ z0.toInt ≤ 65535) (g0 : ¬ z0.toInt ≤ 255) (a2 : Addr) :
    Met B8_27 Z a0 h0 #[(.ref a2), (.int (0 : Int32)), (.int (1 : Int32))] [ar a2 .char [(.int z0)]] (fun v ds => ∃ a305 a304 : Addr, Ret (some (.ref a305)) [ar a305 .byte [(.int (nar .byte ((z0 >>> ((0 : Int32) &&& 31)).toInt8.toInt32))), (.int (nar .byte ((z0 >>> ((8 : Int32) &&& 31)).toInt8.toInt32)))], ar a2 .char [(.int z0)], ar a304 .byte [(.int (0 : Int32))]] v ds) := by
  refine Met.of pn8 (ls := #[.val (.ref a2), .val (.int (0 : Int32)), .val (.int (1 : Int32)), .unset, .unset, .unset]) (fun m => by first | (simp [entryFrame, mkF, argsToLocals, Value.category, B8_27]; done) | rfl) ?_
  show Go B8_27 Z a0 h0 _ 0 0 [ar a2 .char [(.int z0)]] 0 #[.val (.ref a2), .val (.int (0 : Int32)), .val (.int (1 : Int32)), .unset, .unset, .unset] []
  refine go_iloadN 1 rfl d8_0 rfl ?_
  refine go_newarr 3 rfl d8_1 rfl (wd hw 19 rfl) (by decide) 1 (by decide) (by decide) (by decide) (by decide) (fun a304 => ?_)
  show Go B8_27 Z a0 h0 _ 1 1 [ar a2 .char [(.int z0)], ar a304 .byte [(.int (0 : Int32))]] 3 #[.val (.ref a2), .val (.int (0 : Int32)), .val (.int (1 : Int32)), .unset, .unset, .unset] [(.ref a304)]
  refine go_astoreN #[.val (.ref a2), .val (.int (0 : Int32)), .val (.int (1 : Int32)), .val (.ref a304), .unset, .unset] 4 rfl d8_3 rfl rfl rfl ?_
  refine go_aloadN 5 rfl d8_4 rfl rfl ?_
  refine go_iloadN 6 rfl d8_5 rfl ?_
  refine go_aloadN 7 rfl d8_6 rfl rfl ?_
  refine go_iconst (0 : Int32) 8 rfl d8_7 rfl ?_
  refine go_iloadN 9 rfl d8_8 rfl ?_
  refine go_callS 12 rfl d8_9 (wd hw 45 rfl) (wd hw 46 rfl) (wd hw 43 rfl) (wd hw 47 rfl) (by decide) (mt28 Z a0 hw h0 zc r99 SS z0 h_0 g0 a2 a304) (argsL := [(.ref a2), (.int (0 : Int32)), (.ref a304), (.int (0 : Int32)), (.int (1 : Int32))]) (rest := []) rfl (ps := [(.array .char), .int, (.array .byte), .int, .int]) (by decide +kernel) rfl rfl 0 rfl (by decide) (by decide) (by decide) (by decide) ?_
  rintro _ _ ⟨rfl, rfl⟩
  show Go B8_27 Z a0 h0 _ 1 1 [ar a2 .char [(.int z0)], ar a304 .byte [(.int (0 : Int32))]] 12 #[.val (.ref a2), .val (.int (0 : Int32)), .val (.int (1 : Int32)), .val (.ref a304), .unset, .unset] [(.int (0 : Int32))]
  refine go_istore #[.val (.ref a2), .val (.int (0 : Int32)), .val (.int (1 : Int32)), .val (.ref a304), .val (.int (0 : Int32)), .unset] 14 rfl d8_12 rfl rfl ?_
  refine go_iload 16 rfl d8_14 rfl ?_
  refine go_iloadN 17 rfl d8_16 rfl ?_
  refine go_icmp 57 20 rfl (by decide) rfl d8_17 rfl (fun (hc17 : (0 : Int) = (1 : Int)) => absurd hc17 (by decide)) (fun (hc17 : ¬ ((0 : Int) = (1 : Int))) => ?_)
  refine go_aloadN 21 rfl d8_20 rfl rfl ?_
  refine go_iloadN 22 rfl d8_21 rfl ?_
  refine go_iloadN 23 rfl d8_22 rfl ?_
  refine go_callS 26 rfl d8_23 (wd hw 80 rfl) (wd hw 81 rfl) (wd hw 43 rfl) (wd hw 82 rfl) (by decide) (Met.frame [ar a304 .byte [(.int (0 : Int32))]] (mt29 Z a0 hw h0 zc r99 SS z0 h_0 a2)) (argsL := [(.ref a2), (.int (0 : Int32)), (.int (1 : Int32))]) (rest := []) rfl (ps := [(.array .char), .int, .int]) (by decide +kernel) rfl rfl 0 rfl (by decide) (by decide) (by decide) (by decide) ?_
  rintro _ _ ⟨_, ⟨a305, rfl, rfl⟩, rfl⟩
  show Go B8_27 Z a0 h0 _ 2 3 [ar a305 .byte [(.int (nar .byte ((z0 >>> ((0 : Int32) &&& 31)).toInt8.toInt32))), (.int (nar .byte ((z0 >>> ((8 : Int32) &&& 31)).toInt8.toInt32)))], ar a2 .char [(.int z0)], ar a304 .byte [(.int (0 : Int32))]] 26 #[.val (.ref a2), .val (.int (0 : Int32)), .val (.int (1 : Int32)), .val (.ref a304), .val (.int (0 : Int32)), .unset] [(.ref a305)]
  refine go_astore #[.val (.ref a2), .val (.int (0 : Int32)), .val (.int (1 : Int32)), .val (.ref a304), .val (.int (0 : Int32)), .val (.ref a305)] 28 rfl d8_26 rfl rfl rfl ?_
  refine go_aload 30 rfl d8_28 rfl rfl ?_
  refine go_iload 32 rfl d8_30 rfl ?_
  refine go_callS 35 rfl d8_32 (wd hw 96 rfl) (wd hw 97 rfl) (wd hw 43 rfl) (wd hw 98 rfl) (by decide) (Met.frame [ar a2 .char [(.int z0)], ar a304 .byte [(.int (0 : Int32))]] (mt33 Z a0 hw h0 zc r99 SS z0 h_0 a305)) (argsL := [(.ref a305), (.int (0 : Int32))]) (rest := []) rfl (ps := [(.array .byte), .int]) (by decide +kernel) rfl rfl 0 rfl (by decide) (by decide) (by decide) (by decide) ?_
  rintro _ _ ⟨_, ⟨rfl, rfl⟩, rfl⟩
  show Go B8_27 Z a0 h0 _ 2 3 [ar a305 .byte [(.int (nar .byte ((z0 >>> ((0 : Int32) &&& 31)).toInt8.toInt32))), (.int (nar .byte ((z0 >>> ((8 : Int32) &&& 31)).toInt8.toInt32)))], ar a2 .char [(.int z0)], ar a304 .byte [(.int (0 : Int32))]] 35 #[.val (.ref a2), .val (.int (0 : Int32)), .val (.int (1 : Int32)), .val (.ref a304), .val (.int (0 : Int32)), .val (.ref a305)] [(.int z0)]
  refine go_sipush (255 : Int32) 38 rfl d8_35 rfl ?_
  refine go_icmp 54 41 rfl (by decide) rfl d8_38 rfl (fun (hc38 : (255 : Int) < z0.toInt) => ?_) (fun (hc38 : ¬ ((255 : Int) < z0.toInt)) => absurd hc38 (by omega))
  refine go_aload 56 rfl d8_54 rfl rfl ?_
  exact go_areturn d8_56 rfl rfl rfl rfl (by decide) (by decide) ⟨a305, a304, rfl, rfl⟩
def B10_34 : Bdy := (⟨"java/lang/StringUTF16", "coderFromArrayLen", "([BI)B"⟩, jdk_52_method_15_code, 2, (some .byte), ({ frames := 0, cells := 0, slots := 0, locals := 0 } : Room))
set_option maxRecDepth 65536 in
set_option maxHeartbeats 4000000 in
theorem mt34 (Z : State) (a0 : Array Value) (hw : ∀ d ∈ tables_1, d.before a0 Z = true) (h0 : Heap) (zc : Int32) (r99 : Value) (SS : Sts Z h0 zc r99) (z0 : Int32) (h_0 : 0 ≤ z0.toInt ∧ z0.toInt ≤ 65535) (a204 : Addr) :
    Met B10_34 Z a0 h0 #[(.ref a204), (.int (1 : Int32))] [ar a204 .byte [(.int (nar .byte ((z0 >>> ((0 : Int32) &&& 31)).toInt8.toInt32))), (.int (nar .byte ((z0 >>> ((8 : Int32) &&& 31)).toInt8.toInt32)))]] (Ret (some (.int (1 : Int32))) [ar a204 .byte [(.int (nar .byte ((z0 >>> ((0 : Int32) &&& 31)).toInt8.toInt32))), (.int (nar .byte ((z0 >>> ((8 : Int32) &&& 31)).toInt8.toInt32)))]]) := by
  refine Met.of pn10 (ls := #[.val (.ref a204), .val (.int (1 : Int32))]) (fun m => by first | (simp [entryFrame, mkF, argsToLocals, Value.category, B10_34]; done) | rfl) ?_
  show Go B10_34 Z a0 h0 _ 0 0 [ar a204 .byte [(.int (nar .byte ((z0 >>> ((0 : Int32) &&& 31)).toInt8.toInt32))), (.int (nar .byte ((z0 >>> ((8 : Int32) &&& 31)).toInt8.toInt32)))]] 0 #[.val (.ref a204), .val (.int (1 : Int32))] []
  refine go_iloadN 1 rfl d10_0 rfl ?_
  refine go_aloadN 2 rfl d10_1 rfl rfl ?_
  refine go_alen 0 3 rfl d10_2 rfl rfl ?_
  show Go B10_34 Z a0 h0 _ 0 0 [ar a204 .byte [(.int (nar .byte ((z0 >>> ((0 : Int32) &&& 31)).toInt8.toInt32))), (.int (nar .byte ((z0 >>> ((8 : Int32) &&& 31)).toInt8.toInt32)))]] 3 #[.val (.ref a204), .val (.int (1 : Int32))] [(.int (2 : Int32)), (.int (1 : Int32))]
  refine go_isub 4 rfl d10_3 rfl ?_
  show Go B10_34 Z a0 h0 _ 0 0 [ar a204 .byte [(.int (nar .byte ((z0 >>> ((0 : Int32) &&& 31)).toInt8.toInt32))), (.int (nar .byte ((z0 >>> ((8 : Int32) &&& 31)).toInt8.toInt32)))]] 4 #[.val (.ref a204), .val (.int (1 : Int32))] [(.int (-1 : Int32))]
  refine go_bipush (31 : Int32) 6 rfl d10_4 rfl ?_
  refine go_iushr 7 rfl d10_6 rfl ?_
  show Go B10_34 Z a0 h0 _ 0 0 [ar a204 .byte [(.int (nar .byte ((z0 >>> ((0 : Int32) &&& 31)).toInt8.toInt32))), (.int (nar .byte ((z0 >>> ((8 : Int32) &&& 31)).toInt8.toInt32)))]] 7 #[.val (.ref a204), .val (.int (1 : Int32))] [(.int (1 : Int32))]
  refine go_i2b 8 rfl d10_7 rfl ?_
  show Go B10_34 Z a0 h0 _ 0 0 [ar a204 .byte [(.int (nar .byte ((z0 >>> ((0 : Int32) &&& 31)).toInt8.toInt32))), (.int (nar .byte ((z0 >>> ((8 : Int32) &&& 31)).toInt8.toInt32)))]] 8 #[.val (.ref a204), .val (.int (1 : Int32))] [(.int (1 : Int32))]
  exact go_ireturn d10_8 rfl (Or.inr (Or.inr (Or.inl rfl))) rfl rfl (by decide) (by decide) ⟨rfl, rfl⟩
def B3_26 : Bdy := (⟨"java/lang/String", "<init>", "([CIILjava/lang/Void;)V"⟩, jdk_42_method_149_code, 6, none, ({ frames := 4, cells := 2, slots := 3, locals := 57 } : Room))
set_option maxRecDepth 65536 in
set_option maxHeartbeats 4000000 in
theorem mt26 (Z : State) (a0 : Array Value) (hw : ∀ d ∈ tables_1, d.before a0 Z = true) (h0 : Heap) (zc : Int32) (r99 : Value) (SS : Sts Z h0 zc r99) (z0 : Int32) (h_0 : 0 ≤ z0.toInt ∧ z0.toInt ≤ 65535) (g0 : ¬ z0.toInt ≤ 255) (a1 : Addr) (a2 : Addr) :
    Met B3_26 Z a0 h0 #[(.ref a1), (.ref a2), (.int (0 : Int32)), (.int (1 : Int32)), .null] [ob a1 "java/lang/String" [("java/lang/String", "value", "[B", .null), ("java/lang/String", "coder", "B", (.int (0 : Int32)))], ar a2 .char [(.int z0)]] (fun v ds => ∃ a204 a205 : Addr, Ret none [ar a204 .byte [(.int (nar .byte ((z0 >>> ((0 : Int32) &&& 31)).toInt8.toInt32))), (.int (nar .byte ((z0 >>> ((8 : Int32) &&& 31)).toInt8.toInt32)))], ar a2 .char [(.int z0)], ar a205 .byte [(.int (0 : Int32))], ob a1 "java/lang/String" [("java/lang/String", "value", "[B", (.ref a204)), ("java/lang/String", "coder", "B", (.int (1 : Int32)))]] v ds) := by
  refine Met.of pn3 (ls := #[.val (.ref a1), .val (.ref a2), .val (.int (0 : Int32)), .val (.int (1 : Int32)), .val .null, .unset]) (fun m => by first | (simp [entryFrame, mkF, argsToLocals, Value.category, B3_26]; done) | rfl) ?_
  show Go B3_26 Z a0 h0 _ 0 0 [ob a1 "java/lang/String" [("java/lang/String", "value", "[B", .null), ("java/lang/String", "coder", "B", (.int (0 : Int32)))], ar a2 .char [(.int z0)]] 0 #[.val (.ref a1), .val (.ref a2), .val (.int (0 : Int32)), .val (.int (1 : Int32)), .val .null, .unset] []
  refine go_aloadN 1 rfl d3_0 rfl rfl ?_
  refine go_initObj 4 rfl d3_1 rfl (wd hw 15 rfl) (wd hw 16 rfl) (wd hw 17 rfl) rfl (by decide) (by decide) ?_
  refine go_iloadN 5 rfl d3_4 rfl ?_
  refine go_if 27 8 rfl (by decide) rfl d3_5 rfl (fun (hc5 : (1 : Int) ≠ 0) => ?_) (fun (hc5 : ¬ ((1 : Int) ≠ 0)) => absurd hc5 (by decide))
  refine go_getS 30 rfl d3_27 (wd hw 40 rfl) SS.1 ?_
  refine go_if 58 33 rfl (by decide) rfl d3_30 rfl (fun (hc30 : zc.toInt = 0) => absurd hc30 (by exact fun q => SS.2.1 (Int32.toInt_inj.mp q))) (fun (hc30 : ¬ (zc.toInt = 0)) => ?_)
  refine go_aloadN 34 rfl d3_33 rfl rfl ?_
  refine go_iloadN 35 rfl d3_34 rfl ?_
  refine go_iloadN 36 rfl d3_35 rfl ?_
  refine Go.front 1 (Nat.le_of_ble_eq_true rfl) ?_
  show Go B3_26 Z a0 h0 _ 0 0 [ar a2 .char [(.int z0)], ob a1 "java/lang/String" [("java/lang/String", "value", "[B", .null), ("java/lang/String", "coder", "B", (.int (0 : Int32)))]] 36 #[.val (.ref a1), .val (.ref a2), .val (.int (0 : Int32)), .val (.int (1 : Int32)), .val .null, .unset] [(.int (1 : Int32)), (.int (0 : Int32)), (.ref a2)]
  refine go_callS 39 rfl d3_36 (wd hw 41 rfl) (wd hw 42 rfl) (wd hw 43 rfl) (wd hw 44 rfl) (by decide) (Met.frame [ob a1 "java/lang/String" [("java/lang/String", "value", "[B", .null), ("java/lang/String", "coder", "B", (.int (0 : Int32)))]] (mt27 Z a0 hw h0 zc r99 SS z0 h_0 g0 a2)) (argsL := [(.ref a2), (.int (0 : Int32)), (.int (1 : Int32))]) (rest := []) rfl (ps := [(.array .char), .int, .int]) (by decide +kernel) rfl rfl 0 rfl (by decide) (by decide) (by decide) (by decide) ?_
  rintro _ _ ⟨_, ⟨a204, a205, rfl, rfl⟩, rfl⟩
  show Go B3_26 Z a0 h0 _ 2 3 [ar a204 .byte [(.int (nar .byte ((z0 >>> ((0 : Int32) &&& 31)).toInt8.toInt32))), (.int (nar .byte ((z0 >>> ((8 : Int32) &&& 31)).toInt8.toInt32)))], ar a2 .char [(.int z0)], ar a205 .byte [(.int (0 : Int32))], ob a1 "java/lang/String" [("java/lang/String", "value", "[B", .null), ("java/lang/String", "coder", "B", (.int (0 : Int32)))]] 39 #[.val (.ref a1), .val (.ref a2), .val (.int (0 : Int32)), .val (.int (1 : Int32)), .val .null, .unset] [(.ref a204)]
  refine go_astore #[.val (.ref a1), .val (.ref a2), .val (.int (0 : Int32)), .val (.int (1 : Int32)), .val .null, .val (.ref a204)] 41 rfl d3_39 rfl rfl rfl ?_
  refine go_aloadN 42 rfl d3_41 rfl rfl ?_
  refine go_aload 44 rfl d3_42 rfl rfl ?_
  refine go_iloadN 45 rfl d3_44 rfl ?_
  refine go_callS 48 rfl d3_45 (wd hw 48 rfl) (wd hw 49 rfl) (wd hw 43 rfl) (wd hw 50 rfl) (by decide) (Met.frame [ar a2 .char [(.int z0)], ar a205 .byte [(.int (0 : Int32))], ob a1 "java/lang/String" [("java/lang/String", "value", "[B", .null), ("java/lang/String", "coder", "B", (.int (0 : Int32)))]] (mt34 Z a0 hw h0 zc r99 SS z0 h_0 a204)) (argsL := [(.ref a204), (.int (1 : Int32))]) (rest := [(.ref a1)]) rfl (ps := [(.array .byte), .int]) (by decide +kernel) rfl rfl 1 rfl (by decide) (by decide) (by decide) (by decide) ?_
  rintro _ _ ⟨_, ⟨rfl, rfl⟩, rfl⟩
  show Go B3_26 Z a0 h0 _ 2 3 [ar a204 .byte [(.int (nar .byte ((z0 >>> ((0 : Int32) &&& 31)).toInt8.toInt32))), (.int (nar .byte ((z0 >>> ((8 : Int32) &&& 31)).toInt8.toInt32)))], ar a2 .char [(.int z0)], ar a205 .byte [(.int (0 : Int32))], ob a1 "java/lang/String" [("java/lang/String", "value", "[B", .null), ("java/lang/String", "coder", "B", (.int (0 : Int32)))]] 48 #[.val (.ref a1), .val (.ref a2), .val (.int (0 : Int32)), .val (.int (1 : Int32)), .val .null, .val (.ref a204)] [(.int (1 : Int32)), (.ref a1)]
  refine go_put 3 1 51 rfl d3_48 rfl rfl rfl (wd hw 25 rfl) (Or.inr ⟨(wd hw 21 rfl), rfl, rfl⟩) (wd hw 5 rfl) (ty := .byte) (by decide) rfl rfl ?_
  show Go B3_26 Z a0 h0 _ 2 3 [ar a204 .byte [(.int (nar .byte ((z0 >>> ((0 : Int32) &&& 31)).toInt8.toInt32))), (.int (nar .byte ((z0 >>> ((8 : Int32) &&& 31)).toInt8.toInt32)))], ar a2 .char [(.int z0)], ar a205 .byte [(.int (0 : Int32))], ob a1 "java/lang/String" [("java/lang/String", "value", "[B", .null), ("java/lang/String", "coder", "B", (.int (1 : Int32)))]] 51 #[.val (.ref a1), .val (.ref a2), .val (.int (0 : Int32)), .val (.int (1 : Int32)), .val .null, .val (.ref a204)] []
  refine go_aloadN 52 rfl d3_51 rfl rfl ?_
  refine go_aload 54 rfl d3_52 rfl rfl ?_
  refine go_put 3 0 57 rfl d3_54 rfl rfl rfl (wd hw 24 rfl) (Or.inr ⟨(wd hw 20 rfl), rfl, rfl⟩) (wd hw 5 rfl) (ty := (.array .byte)) (by decide) rfl rfl ?_
  show Go B3_26 Z a0 h0 _ 2 3 [ar a204 .byte [(.int (nar .byte ((z0 >>> ((0 : Int32) &&& 31)).toInt8.toInt32))), (.int (nar .byte ((z0 >>> ((8 : Int32) &&& 31)).toInt8.toInt32)))], ar a2 .char [(.int z0)], ar a205 .byte [(.int (0 : Int32))], ob a1 "java/lang/String" [("java/lang/String", "value", "[B", (.ref a204)), ("java/lang/String", "coder", "B", (.int (1 : Int32)))]] 57 #[.val (.ref a1), .val (.ref a2), .val (.int (0 : Int32)), .val (.int (1 : Int32)), .val .null, .val (.ref a204)] []
  exact go_return d3_57 rfl rfl (by decide) (by decide) ⟨a204, a205, rfl, rfl⟩
def B2_25 : Bdy := (⟨"java/lang/String", "<init>", "([C)V"⟩, jdk_42_method_3_code, 2, none, ({ frames := 5, cells := 2, slots := 3, locals := 74 } : Room))
set_option maxRecDepth 65536 in
set_option maxHeartbeats 4000000 in
theorem mt25 (Z : State) (a0 : Array Value) (hw : ∀ d ∈ tables_1, d.before a0 Z = true) (h0 : Heap) (zc : Int32) (r99 : Value) (SS : Sts Z h0 zc r99) (z0 : Int32) (h_0 : 0 ≤ z0.toInt ∧ z0.toInt ≤ 65535) (g0 : ¬ z0.toInt ≤ 255) (a1 : Addr) (a2 : Addr) :
    Met B2_25 Z a0 h0 #[(.ref a1), (.ref a2)] [ob a1 "java/lang/String" [("java/lang/String", "value", "[B", .null), ("java/lang/String", "coder", "B", (.int (0 : Int32)))], ar a2 .char [(.int z0)]] (fun v ds => ∃ a104 a105 : Addr, Ret none [ar a104 .byte [(.int (nar .byte ((z0 >>> ((0 : Int32) &&& 31)).toInt8.toInt32))), (.int (nar .byte ((z0 >>> ((8 : Int32) &&& 31)).toInt8.toInt32)))], ar a2 .char [(.int z0)], ar a105 .byte [(.int (0 : Int32))], ob a1 "java/lang/String" [("java/lang/String", "value", "[B", (.ref a104)), ("java/lang/String", "coder", "B", (.int (1 : Int32)))]] v ds) := by
  refine Met.of pn2 (ls := #[.val (.ref a1), .val (.ref a2)]) (fun m => by first | (simp [entryFrame, mkF, argsToLocals, Value.category, B2_25]; done) | rfl) ?_
  show Go B2_25 Z a0 h0 _ 0 0 [ob a1 "java/lang/String" [("java/lang/String", "value", "[B", .null), ("java/lang/String", "coder", "B", (.int (0 : Int32)))], ar a2 .char [(.int z0)]] 0 #[.val (.ref a1), .val (.ref a2)] []
  refine go_aloadN 1 rfl d2_0 rfl rfl ?_
  refine go_aloadN 2 rfl d2_1 rfl rfl ?_
  refine go_iconst (0 : Int32) 3 rfl d2_2 rfl ?_
  refine go_aloadN 4 rfl d2_3 rfl rfl ?_
  refine go_alen 1 5 rfl d2_4 rfl rfl ?_
  show Go B2_25 Z a0 h0 _ 0 0 [ob a1 "java/lang/String" [("java/lang/String", "value", "[B", .null), ("java/lang/String", "coder", "B", (.int (0 : Int32)))], ar a2 .char [(.int z0)]] 5 #[.val (.ref a1), .val (.ref a2)] [(.int (1 : Int32)), (.int (0 : Int32)), (.ref a2), (.ref a1)]
  refine go_aconstNull 6 rfl d2_5 ?_
  refine go_callI 9 rfl d2_6 rfl (wd hw 11 rfl) (wd hw 12 rfl) (wd hw 6 rfl) (wd hw 14 rfl) (by decide) (mt26 Z a0 hw h0 zc r99 SS z0 h_0 g0 a1 a2) (argsL := [(.ref a2), (.int (0 : Int32)), (.int (1 : Int32)), .null]) (rest := []) rfl (ret := none) (ps := [(.array .char), .int, .int, (.object "java/lang/Void")]) (by decide +kernel) rfl rfl 0 rfl (by decide) (by decide) (by decide) (by decide) ?_
  rintro _ _ ⟨a104, a105, rfl, rfl⟩
  show Go B2_25 Z a0 h0 _ 2 3 [ar a104 .byte [(.int (nar .byte ((z0 >>> ((0 : Int32) &&& 31)).toInt8.toInt32))), (.int (nar .byte ((z0 >>> ((8 : Int32) &&& 31)).toInt8.toInt32)))], ar a2 .char [(.int z0)], ar a105 .byte [(.int (0 : Int32))], ob a1 "java/lang/String" [("java/lang/String", "value", "[B", (.ref a104)), ("java/lang/String", "coder", "B", (.int (1 : Int32)))]] 9 #[.val (.ref a1), .val (.ref a2)] []
  exact go_return d2_9 rfl rfl (by decide) (by decide) ⟨a104, a105, rfl, rfl⟩
def B7_37 : Bdy := (⟨"java/lang/String", "coder", "()B"⟩, jdk_42_method_152_code, 1, (some .byte), ({ frames := 0, cells := 0, slots := 0, locals := 0 } : Room))
set_option maxRecDepth 65536 in
set_option maxHeartbeats 4000000 in
theorem mt37 (Z : State) (a0 : Array Value) (hw : ∀ d ∈ tables_1, d.before a0 Z = true) (h0 : Heap) (zc : Int32) (r99 : Value) (SS : Sts Z h0 zc r99) (z0 : Int32) (h_0 : 0 ≤ z0.toInt ∧ z0.toInt ≤ 65535) (a4 : Addr) (a1 : Addr) :
    Met B7_37 Z a0 h0 #[(.ref a1)] [ar a4 .byte [(.int (nar .byte ((z0 >>> ((0 : Int32) &&& 31)).toInt8.toInt32))), (.int (nar .byte ((z0 >>> ((8 : Int32) &&& 31)).toInt8.toInt32)))], ob a1 "java/lang/String" [("java/lang/String", "value", "[B", (.ref a4)), ("java/lang/String", "coder", "B", (.int (1 : Int32)))]] (Ret (some (.int (1 : Int32))) [ar a4 .byte [(.int (nar .byte ((z0 >>> ((0 : Int32) &&& 31)).toInt8.toInt32))), (.int (nar .byte ((z0 >>> ((8 : Int32) &&& 31)).toInt8.toInt32)))], ob a1 "java/lang/String" [("java/lang/String", "value", "[B", (.ref a4)), ("java/lang/String", "coder", "B", (.int (1 : Int32)))]]) := by
  refine Met.of pn7 (ls := #[.val (.ref a1)]) (fun m => by first | (simp [entryFrame, mkF, argsToLocals, Value.category, B7_37]; done) | rfl) ?_
  show Go B7_37 Z a0 h0 _ 0 0 [ar a4 .byte [(.int (nar .byte ((z0 >>> ((0 : Int32) &&& 31)).toInt8.toInt32))), (.int (nar .byte ((z0 >>> ((8 : Int32) &&& 31)).toInt8.toInt32)))], ob a1 "java/lang/String" [("java/lang/String", "value", "[B", (.ref a4)), ("java/lang/String", "coder", "B", (.int (1 : Int32)))]] 0 #[.val (.ref a1)] []
  refine go_getS 3 rfl d7_0 (wd hw 40 rfl) SS.1 ?_
  refine go_if 13 6 rfl (by decide) rfl d7_3 rfl (fun (hc3 : zc.toInt = 0) => absurd hc3 (by exact fun q => SS.2.1 (Int32.toInt_inj.mp q))) (fun (hc3 : ¬ (zc.toInt = 0)) => ?_)
  refine go_aloadN 7 rfl d7_6 rfl rfl ?_
  refine go_get 1 1 10 rfl d7_7 rfl rfl rfl (wd hw 25 rfl) ?_
  refine go_goto 14 (by decide) rfl d7_10 ?_
  exact go_ireturn d7_14 rfl (Or.inr (Or.inr (Or.inl rfl))) rfl rfl (by decide) (by decide) ⟨rfl, rfl⟩
def B6_36 : Bdy := (⟨"java/lang/String", "length", "()I"⟩, jdk_42_method_54_code, 1, (some .int), ({ frames := 1, cells := 0, slots := 0, locals := 13 } : Room))
set_option maxRecDepth 65536 in
set_option maxHeartbeats 4000000 in
theorem mt36 (Z : State) (a0 : Array Value) (hw : ∀ d ∈ tables_1, d.before a0 Z = true) (h0 : Heap) (zc : Int32) (r99 : Value) (SS : Sts Z h0 zc r99) (z0 : Int32) (h_0 : 0 ≤ z0.toInt ∧ z0.toInt ≤ 65535) (a4 : Addr) (a1 : Addr) :
    Met B6_36 Z a0 h0 #[(.ref a1)] [ar a4 .byte [(.int (nar .byte ((z0 >>> ((0 : Int32) &&& 31)).toInt8.toInt32))), (.int (nar .byte ((z0 >>> ((8 : Int32) &&& 31)).toInt8.toInt32)))], ob a1 "java/lang/String" [("java/lang/String", "value", "[B", (.ref a4)), ("java/lang/String", "coder", "B", (.int (1 : Int32)))]] (Ret (some (.int (1 : Int32))) [ar a4 .byte [(.int (nar .byte ((z0 >>> ((0 : Int32) &&& 31)).toInt8.toInt32))), (.int (nar .byte ((z0 >>> ((8 : Int32) &&& 31)).toInt8.toInt32)))], ob a1 "java/lang/String" [("java/lang/String", "value", "[B", (.ref a4)), ("java/lang/String", "coder", "B", (.int (1 : Int32)))]]) := by
  refine Met.of pn6 (ls := #[.val (.ref a1)]) (fun m => by first | (simp [entryFrame, mkF, argsToLocals, Value.category, B6_36]; done) | rfl) ?_
  show Go B6_36 Z a0 h0 _ 0 0 [ar a4 .byte [(.int (nar .byte ((z0 >>> ((0 : Int32) &&& 31)).toInt8.toInt32))), (.int (nar .byte ((z0 >>> ((8 : Int32) &&& 31)).toInt8.toInt32)))], ob a1 "java/lang/String" [("java/lang/String", "value", "[B", (.ref a4)), ("java/lang/String", "coder", "B", (.int (1 : Int32)))]] 0 #[.val (.ref a1)] []
  refine go_aloadN 1 rfl d6_0 rfl rfl ?_
  refine go_get 1 0 4 rfl d6_1 rfl rfl rfl (wd hw 24 rfl) ?_
  refine go_alen 0 5 rfl d6_4 rfl rfl ?_
  show Go B6_36 Z a0 h0 _ 0 0 [ar a4 .byte [(.int (nar .byte ((z0 >>> ((0 : Int32) &&& 31)).toInt8.toInt32))), (.int (nar .byte ((z0 >>> ((8 : Int32) &&& 31)).toInt8.toInt32)))], ob a1 "java/lang/String" [("java/lang/String", "value", "[B", (.ref a4)), ("java/lang/String", "coder", "B", (.int (1 : Int32)))]] 5 #[.val (.ref a1)] [(.int (2 : Int32))]
  refine go_aloadN 6 rfl d6_5 rfl rfl ?_
  refine go_callV 9 rfl d6_6 (wd hw 35 rfl) (wd hw 36 rfl) (wd hw 38 rfl) (wd hw 37 rfl) (wd hw 6 rfl) (wd hw 39 rfl) (by decide) (Mo.exa (i := 1) rfl) (mt37 Z a0 hw h0 zc r99 SS z0 h_0 a4 a1) (argsL := []) (rest := [(.int (2 : Int32))]) rfl (ps := []) (by decide +kernel) rfl rfl 1 rfl (by decide) (by decide) (by decide) (by decide) ?_
  rintro _ _ ⟨rfl, rfl⟩
  show Go B6_36 Z a0 h0 _ 0 0 [ar a4 .byte [(.int (nar .byte ((z0 >>> ((0 : Int32) &&& 31)).toInt8.toInt32))), (.int (nar .byte ((z0 >>> ((8 : Int32) &&& 31)).toInt8.toInt32)))], ob a1 "java/lang/String" [("java/lang/String", "value", "[B", (.ref a4)), ("java/lang/String", "coder", "B", (.int (1 : Int32)))]] 9 #[.val (.ref a1)] [(.int (1 : Int32)), (.int (2 : Int32))]
  refine go_ishr 10 rfl d6_9 rfl ?_
  show Go B6_36 Z a0 h0 _ 0 0 [ar a4 .byte [(.int (nar .byte ((z0 >>> ((0 : Int32) &&& 31)).toInt8.toInt32))), (.int (nar .byte ((z0 >>> ((8 : Int32) &&& 31)).toInt8.toInt32)))], ob a1 "java/lang/String" [("java/lang/String", "value", "[B", (.ref a4)), ("java/lang/String", "coder", "B", (.int (1 : Int32)))]] 10 #[.val (.ref a1)] [(.int (1 : Int32))]
  exact go_ireturn d6_10 rfl (Or.inl rfl) rfl rfl (by decide) (by decide) ⟨rfl, rfl⟩
theorem d13_17 : decode jdk_42_method_154_code 17 = .ok (.iconst 0, 1) := by decide +kernel
def B13_39 : Bdy := (⟨"java/lang/String", "isLatin1", "()Z"⟩, jdk_42_method_154_code, 1, (some .boolean), ({ frames := 0, cells := 0, slots := 0, locals := 0 } : Room))
set_option maxRecDepth 65536 in
set_option maxHeartbeats 4000000 in
theorem mt39 (Z : State) (a0 : Array Value) (hw : ∀ d ∈ tables_1, d.before a0 Z = true) (h0 : Heap) (zc : Int32) (r99 : Value) (SS : Sts Z h0 zc r99) (z0 : Int32) (h_0 : 0 ≤ z0.toInt ∧ z0.toInt ≤ 65535) (a4 : Addr) (a1 : Addr) :
    Met B13_39 Z a0 h0 #[(.ref a1)] [ar a4 .byte [(.int (nar .byte ((z0 >>> ((0 : Int32) &&& 31)).toInt8.toInt32))), (.int (nar .byte ((z0 >>> ((8 : Int32) &&& 31)).toInt8.toInt32)))], ob a1 "java/lang/String" [("java/lang/String", "value", "[B", (.ref a4)), ("java/lang/String", "coder", "B", (.int (1 : Int32)))]] (Ret (some (.int (0 : Int32))) [ar a4 .byte [(.int (nar .byte ((z0 >>> ((0 : Int32) &&& 31)).toInt8.toInt32))), (.int (nar .byte ((z0 >>> ((8 : Int32) &&& 31)).toInt8.toInt32)))], ob a1 "java/lang/String" [("java/lang/String", "value", "[B", (.ref a4)), ("java/lang/String", "coder", "B", (.int (1 : Int32)))]]) := by
  refine Met.of pn13 (ls := #[.val (.ref a1)]) (fun m => by first | (simp [entryFrame, mkF, argsToLocals, Value.category, B13_39]; done) | rfl) ?_
  show Go B13_39 Z a0 h0 _ 0 0 [ar a4 .byte [(.int (nar .byte ((z0 >>> ((0 : Int32) &&& 31)).toInt8.toInt32))), (.int (nar .byte ((z0 >>> ((8 : Int32) &&& 31)).toInt8.toInt32)))], ob a1 "java/lang/String" [("java/lang/String", "value", "[B", (.ref a4)), ("java/lang/String", "coder", "B", (.int (1 : Int32)))]] 0 #[.val (.ref a1)] []
  refine go_getS 3 rfl d13_0 (wd hw 40 rfl) SS.1 ?_
  refine go_if 17 6 rfl (by decide) rfl d13_3 rfl (fun (hc3 : zc.toInt = 0) => absurd hc3 (by exact fun q => SS.2.1 (Int32.toInt_inj.mp q))) (fun (hc3 : ¬ (zc.toInt = 0)) => ?_)
  refine go_aloadN 7 rfl d13_6 rfl rfl ?_
  refine go_get 1 1 10 rfl d13_7 rfl rfl rfl (wd hw 25 rfl) ?_
  refine go_if 17 13 rfl (by decide) rfl d13_10 rfl (fun (hc10 : (1 : Int) ≠ 0) => ?_) (fun (hc10 : ¬ ((1 : Int) ≠ 0)) => absurd hc10 (by decide))
  refine go_iconst (0 : Int32) 18 rfl d13_17 rfl ?_
  exact go_ireturn d13_18 rfl (Or.inr (Or.inl rfl)) rfl rfl (by decide) (by decide) ⟨rfl, rfl⟩
theorem d25_0 : decode jdk_52_method_6_code 0 = .ok (.aload_n 0, 1) := by decide +kernel
theorem d25_1 : decode jdk_52_method_6_code 1 = .ok (.arraylength, 1) := by decide +kernel
theorem d25_2 : decode jdk_52_method_6_code 2 = .ok (.iconst 1, 1) := by decide +kernel
theorem d25_3 : decode jdk_52_method_6_code 3 = .ok (.ishr, 1) := by decide +kernel
theorem d25_4 : decode jdk_52_method_6_code 4 = .ok (.ireturn, 1) := by decide +kernel
theorem pn25 : plainFor (⟨"java/lang/StringUTF16", "length", "([B)I"⟩ : MethodName) = true := by first | (apply plainFor_of_name; simp [plainName, overriddenIn]; done) | decide +kernel
def B25_42 : Bdy := (⟨"java/lang/StringUTF16", "length", "([B)I"⟩, jdk_52_method_6_code, 1, (some .int), ({ frames := 0, cells := 0, slots := 0, locals := 0 } : Room))
set_option maxRecDepth 65536 in
set_option maxHeartbeats 4000000 in
theorem mt42 (Z : State) (a0 : Array Value) (hw : ∀ d ∈ tables_1, d.before a0 Z = true) (h0 : Heap) (zc : Int32) (r99 : Value) (SS : Sts Z h0 zc r99) (z0 : Int32) (h_0 : 0 ≤ z0.toInt ∧ z0.toInt ≤ 65535) (a4 : Addr) :
    Met B25_42 Z a0 h0 #[(.ref a4)] [ar a4 .byte [(.int (nar .byte ((z0 >>> ((0 : Int32) &&& 31)).toInt8.toInt32))), (.int (nar .byte ((z0 >>> ((8 : Int32) &&& 31)).toInt8.toInt32)))]] (Ret (some (.int (1 : Int32))) [ar a4 .byte [(.int (nar .byte ((z0 >>> ((0 : Int32) &&& 31)).toInt8.toInt32))), (.int (nar .byte ((z0 >>> ((8 : Int32) &&& 31)).toInt8.toInt32)))]]) := by
  refine Met.of pn25 (ls := #[.val (.ref a4)]) (fun m => by first | (simp [entryFrame, mkF, argsToLocals, Value.category, B25_42]; done) | rfl) ?_
  show Go B25_42 Z a0 h0 _ 0 0 [ar a4 .byte [(.int (nar .byte ((z0 >>> ((0 : Int32) &&& 31)).toInt8.toInt32))), (.int (nar .byte ((z0 >>> ((8 : Int32) &&& 31)).toInt8.toInt32)))]] 0 #[.val (.ref a4)] []
  refine go_aloadN 1 rfl d25_0 rfl rfl ?_
  refine go_alen 0 2 rfl d25_1 rfl rfl ?_
  show Go B25_42 Z a0 h0 _ 0 0 [ar a4 .byte [(.int (nar .byte ((z0 >>> ((0 : Int32) &&& 31)).toInt8.toInt32))), (.int (nar .byte ((z0 >>> ((8 : Int32) &&& 31)).toInt8.toInt32)))]] 2 #[.val (.ref a4)] [(.int (2 : Int32))]
  refine go_iconst (1 : Int32) 3 rfl d25_2 rfl ?_
  refine go_ishr 4 rfl d25_3 rfl ?_
  show Go B25_42 Z a0 h0 _ 0 0 [ar a4 .byte [(.int (nar .byte ((z0 >>> ((0 : Int32) &&& 31)).toInt8.toInt32))), (.int (nar .byte ((z0 >>> ((8 : Int32) &&& 31)).toInt8.toInt32)))]] 4 #[.val (.ref a4)] [(.int (1 : Int32))]
  exact go_ireturn d25_4 rfl (Or.inl rfl) rfl rfl (by decide) (by decide) ⟨rfl, rfl⟩
def B16_44 : Bdy := (⟨"jdk/internal/util/Preconditions", "checkIndex", "(IILjava/util/function/BiFunction;)I"⟩, jdk_41_method_11_code, 3, (some .int), ({ frames := 0, cells := 0, slots := 0, locals := 0 } : Room))
set_option maxRecDepth 65536 in
set_option maxHeartbeats 4000000 in
theorem mt44 (Z : State) (a0 : Array Value) (hw : ∀ d ∈ tables_1, d.before a0 Z = true) (h0 : Heap) (zc : Int32) (r99 : Value) (SS : Sts Z h0 zc r99) (z0 : Int32) (h_0 : 0 ≤ z0.toInt ∧ z0.toInt ≤ 65535) :
    Met B16_44 Z a0 h0 #[(.int (0 : Int32)), (.int (1 : Int32)), r99] [] (Ret (some (.int (0 : Int32))) []) := by
  refine Met.of pn16 (ls := #[.val (.int (0 : Int32)), .val (.int (1 : Int32)), .val r99]) (fun m => by rcases ref_cases SS.2.2.2.1 with rfl | ⟨_, rfl⟩ <;> first | (simp [entryFrame, mkF, argsToLocals, Value.category, B16_44]; done) | rfl) ?_
  show Go B16_44 Z a0 h0 _ 0 0 [] 0 #[.val (.int (0 : Int32)), .val (.int (1 : Int32)), .val r99] []
  refine go_iloadN 1 rfl d16_0 rfl ?_
  refine go_if 9 4 rfl (by decide) rfl d16_1 rfl (fun (hc1 : (0 : Int) < 0) => absurd hc1 (by decide)) (fun (hc1 : ¬ ((0 : Int) < 0)) => ?_)
  refine go_iloadN 5 rfl d16_4 rfl ?_
  refine go_iloadN 6 rfl d16_5 rfl ?_
  refine go_icmp 16 9 rfl (by decide) rfl d16_6 rfl (fun (hc6 : (0 : Int) < (1 : Int)) => ?_) (fun (hc6 : ¬ ((0 : Int) < (1 : Int))) => absurd hc6 (by decide))
  refine go_iloadN 17 rfl d16_16 rfl ?_
  exact go_ireturn d16_17 rfl (Or.inl rfl) rfl rfl (by decide) (by decide) ⟨rfl, rfl⟩
def B15_43 : Bdy := (⟨"java/lang/String", "checkIndex", "(II)V"⟩, jdk_42_method_155_code, 2, none, ({ frames := 1, cells := 0, slots := 0, locals := 14 } : Room))
set_option maxRecDepth 65536 in
set_option maxHeartbeats 4000000 in
theorem mt43 (Z : State) (a0 : Array Value) (hw : ∀ d ∈ tables_1, d.before a0 Z = true) (h0 : Heap) (zc : Int32) (r99 : Value) (SS : Sts Z h0 zc r99) (z0 : Int32) (h_0 : 0 ≤ z0.toInt ∧ z0.toInt ≤ 65535) :
    Met B15_43 Z a0 h0 #[(.int (0 : Int32)), (.int (1 : Int32))] [] (Ret none []) := by
  refine Met.of pn15 (ls := #[.val (.int (0 : Int32)), .val (.int (1 : Int32))]) (fun m => by first | (simp [entryFrame, mkF, argsToLocals, Value.category, B15_43]; done) | rfl) ?_
  show Go B15_43 Z a0 h0 _ 0 0 [] 0 #[.val (.int (0 : Int32)), .val (.int (1 : Int32))] []
  refine go_iloadN 1 rfl d15_0 rfl ?_
  refine go_iloadN 2 rfl d15_1 rfl ?_
  refine go_getS 5 rfl d15_2 (wd hw 71 rfl) SS.2.2.1 ?_
  refine go_callS 8 rfl d15_5 (wd hw 73 rfl) (wd hw 74 rfl) (wd hw 72 rfl) (wd hw 75 rfl) (by decide) (mt44 Z a0 hw h0 zc r99 SS z0 h_0) (argsL := [(.int (0 : Int32)), (.int (1 : Int32)), r99]) (rest := []) rfl (ps := [.int, .int, (.object "java/util/function/BiFunction")]) (by decide +kernel) rfl rfl 0 rfl (by decide) (by decide) (by decide) (by decide) ?_
  rintro _ _ ⟨rfl, rfl⟩
  show Go B15_43 Z a0 h0 _ 0 0 [] 8 #[.val (.int (0 : Int32)), .val (.int (1 : Int32))] [(.int (0 : Int32))]
  refine go_pop 9 rfl d15_8 rfl rfl ?_
  exact go_return d15_9 rfl rfl (by decide) (by decide) ⟨rfl, rfl⟩
theorem d24_0 : decode jdk_52_method_91_code 0 = .ok (.iload_n 0, 1) := by decide +kernel
theorem d24_1 : decode jdk_52_method_91_code 1 = .ok (.aload_n 1, 1) := by decide +kernel
theorem d24_2 : decode jdk_52_method_91_code 2 = .ok (.invokestatic 48, 3) := by decide +kernel
theorem d24_5 : decode jdk_52_method_91_code 5 = .ok (.invokestatic 414, 3) := by decide +kernel
theorem d24_8 : decode jdk_52_method_91_code 8 = .ok (.return_, 1) := by decide +kernel
theorem pn24 : plainFor (⟨"java/lang/StringUTF16", "checkIndex", "(I[B)V"⟩ : MethodName) = true := by first | (apply plainFor_of_name; simp [plainName, overriddenIn]; done) | decide +kernel
def B24_41 : Bdy := (⟨"java/lang/StringUTF16", "checkIndex", "(I[B)V"⟩, jdk_52_method_91_code, 2, none, ({ frames := 2, cells := 0, slots := 0, locals := 27 } : Room))
set_option maxRecDepth 65536 in
set_option maxHeartbeats 4000000 in
theorem mt41 (Z : State) (a0 : Array Value) (hw : ∀ d ∈ tables_1, d.before a0 Z = true) (h0 : Heap) (zc : Int32) (r99 : Value) (SS : Sts Z h0 zc r99) (z0 : Int32) (h_0 : 0 ≤ z0.toInt ∧ z0.toInt ≤ 65535) (a4 : Addr) :
    Met B24_41 Z a0 h0 #[(.int (0 : Int32)), (.ref a4)] [ar a4 .byte [(.int (nar .byte ((z0 >>> ((0 : Int32) &&& 31)).toInt8.toInt32))), (.int (nar .byte ((z0 >>> ((8 : Int32) &&& 31)).toInt8.toInt32)))]] (Ret none [ar a4 .byte [(.int (nar .byte ((z0 >>> ((0 : Int32) &&& 31)).toInt8.toInt32))), (.int (nar .byte ((z0 >>> ((8 : Int32) &&& 31)).toInt8.toInt32)))]]) := by
  refine Met.of pn24 (ls := #[.val (.int (0 : Int32)), .val (.ref a4)]) (fun m => by first | (simp [entryFrame, mkF, argsToLocals, Value.category, B24_41]; done) | rfl) ?_
  show Go B24_41 Z a0 h0 _ 0 0 [ar a4 .byte [(.int (nar .byte ((z0 >>> ((0 : Int32) &&& 31)).toInt8.toInt32))), (.int (nar .byte ((z0 >>> ((8 : Int32) &&& 31)).toInt8.toInt32)))]] 0 #[.val (.int (0 : Int32)), .val (.ref a4)] []
  refine go_iloadN 1 rfl d24_0 rfl ?_
  refine go_aloadN 2 rfl d24_1 rfl rfl ?_
  refine go_callS 5 rfl d24_2 (wd hw 105 rfl) (wd hw 106 rfl) (wd hw 43 rfl) (wd hw 107 rfl) (by decide) (mt42 Z a0 hw h0 zc r99 SS z0 h_0 a4) (argsL := [(.ref a4)]) (rest := [(.int (0 : Int32))]) rfl (ps := [(.array .byte)]) (by decide +kernel) rfl rfl 1 rfl (by decide) (by decide) (by decide) (by decide) ?_
  rintro _ _ ⟨rfl, rfl⟩
  show Go B24_41 Z a0 h0 _ 0 0 [ar a4 .byte [(.int (nar .byte ((z0 >>> ((0 : Int32) &&& 31)).toInt8.toInt32))), (.int (nar .byte ((z0 >>> ((8 : Int32) &&& 31)).toInt8.toInt32)))]] 5 #[.val (.int (0 : Int32)), .val (.ref a4)] [(.int (1 : Int32)), (.int (0 : Int32))]
  refine go_callS 8 rfl d24_5 (wd hw 108 rfl) (wd hw 69 rfl) (wd hw 6 rfl) (wd hw 70 rfl) (by decide) (Met.frame [ar a4 .byte [(.int (nar .byte ((z0 >>> ((0 : Int32) &&& 31)).toInt8.toInt32))), (.int (nar .byte ((z0 >>> ((8 : Int32) &&& 31)).toInt8.toInt32)))]] (mt43 Z a0 hw h0 zc r99 SS z0 h_0)) (argsL := [(.int (0 : Int32)), (.int (1 : Int32))]) (rest := []) rfl (ps := [.int, .int]) (by decide +kernel) rfl rfl 0 rfl (by decide) (by decide) (by decide) (by decide) ?_
  rintro _ _ ⟨_, ⟨rfl, rfl⟩, rfl⟩
  show Go B24_41 Z a0 h0 _ 0 0 [ar a4 .byte [(.int (nar .byte ((z0 >>> ((0 : Int32) &&& 31)).toInt8.toInt32))), (.int (nar .byte ((z0 >>> ((8 : Int32) &&& 31)).toInt8.toInt32)))]] 8 #[.val (.int (0 : Int32)), .val (.ref a4)] []
  exact go_return d24_8 rfl rfl (by decide) (by decide) ⟨rfl, rfl⟩
theorem d23_0 : decode jdk_52_method_83_code 0 = .ok (.iload_n 1, 1) := by decide +kernel
theorem d23_1 : decode jdk_52_method_83_code 1 = .ok (.aload_n 0, 1) := by decide +kernel
theorem d23_2 : decode jdk_52_method_83_code 2 = .ok (.invokestatic 67, 3) := by decide +kernel
theorem d23_5 : decode jdk_52_method_83_code 5 = .ok (.aload_n 0, 1) := by decide +kernel
theorem d23_6 : decode jdk_52_method_83_code 6 = .ok (.iload_n 1, 1) := by decide +kernel
theorem d23_7 : decode jdk_52_method_83_code 7 = .ok (.invokestatic 71, 3) := by decide +kernel
theorem d23_10 : decode jdk_52_method_83_code 10 = .ok (.ireturn, 1) := by decide +kernel
theorem pn23 : plainFor (⟨"java/lang/StringUTF16", "charAt", "([BI)C"⟩ : MethodName) = true := by first | (apply plainFor_of_name; simp [plainName, overriddenIn]; done) | decide +kernel
def B23_40 : Bdy := (⟨"java/lang/StringUTF16", "charAt", "([BI)C"⟩, jdk_52_method_83_code, 2, (some .char), ({ frames := 3, cells := 0, slots := 0, locals := 40 } : Room))
set_option maxRecDepth 65536 in
set_option maxHeartbeats 4000000 in
theorem mt40 (Z : State) (a0 : Array Value) (hw : ∀ d ∈ tables_1, d.before a0 Z = true) (h0 : Heap) (zc : Int32) (r99 : Value) (SS : Sts Z h0 zc r99) (z0 : Int32) (h_0 : 0 ≤ z0.toInt ∧ z0.toInt ≤ 65535) (a4 : Addr) :
    Met B23_40 Z a0 h0 #[(.ref a4), (.int (0 : Int32))] [ar a4 .byte [(.int (nar .byte ((z0 >>> ((0 : Int32) &&& 31)).toInt8.toInt32))), (.int (nar .byte ((z0 >>> ((8 : Int32) &&& 31)).toInt8.toInt32)))]] (Ret (some (.int z0)) [ar a4 .byte [(.int (nar .byte ((z0 >>> ((0 : Int32) &&& 31)).toInt8.toInt32))), (.int (nar .byte ((z0 >>> ((8 : Int32) &&& 31)).toInt8.toInt32)))]]) := by
  refine Met.of pn23 (ls := #[.val (.ref a4), .val (.int (0 : Int32))]) (fun m => by first | (simp [entryFrame, mkF, argsToLocals, Value.category, B23_40]; done) | rfl) ?_
  show Go B23_40 Z a0 h0 _ 0 0 [ar a4 .byte [(.int (nar .byte ((z0 >>> ((0 : Int32) &&& 31)).toInt8.toInt32))), (.int (nar .byte ((z0 >>> ((8 : Int32) &&& 31)).toInt8.toInt32)))]] 0 #[.val (.ref a4), .val (.int (0 : Int32))] []
  refine go_iloadN 1 rfl d23_0 rfl ?_
  refine go_aloadN 2 rfl d23_1 rfl rfl ?_
  refine go_callS 5 rfl d23_2 (wd hw 102 rfl) (wd hw 103 rfl) (wd hw 43 rfl) (wd hw 104 rfl) (by decide) (mt41 Z a0 hw h0 zc r99 SS z0 h_0 a4) (argsL := [(.int (0 : Int32)), (.ref a4)]) (rest := []) rfl (ps := [.int, (.array .byte)]) (by decide +kernel) rfl rfl 0 rfl (by decide) (by decide) (by decide) (by decide) ?_
  rintro _ _ ⟨rfl, rfl⟩
  show Go B23_40 Z a0 h0 _ 0 0 [ar a4 .byte [(.int (nar .byte ((z0 >>> ((0 : Int32) &&& 31)).toInt8.toInt32))), (.int (nar .byte ((z0 >>> ((8 : Int32) &&& 31)).toInt8.toInt32)))]] 5 #[.val (.ref a4), .val (.int (0 : Int32))] []
  refine go_aloadN 6 rfl d23_5 rfl rfl ?_
  refine go_iloadN 7 rfl d23_6 rfl ?_
  refine go_callS 10 rfl d23_7 (wd hw 96 rfl) (wd hw 97 rfl) (wd hw 43 rfl) (wd hw 98 rfl) (by decide) (mt33 Z a0 hw h0 zc r99 SS z0 h_0 a4) (argsL := [(.ref a4), (.int (0 : Int32))]) (rest := []) rfl (ps := [(.array .byte), .int]) (by decide +kernel) rfl rfl 0 rfl (by decide) (by decide) (by decide) (by decide) ?_
  rintro _ _ ⟨rfl, rfl⟩
  show Go B23_40 Z a0 h0 _ 0 0 [ar a4 .byte [(.int (nar .byte ((z0 >>> ((0 : Int32) &&& 31)).toInt8.toInt32))), (.int (nar .byte ((z0 >>> ((8 : Int32) &&& 31)).toInt8.toInt32)))]] 10 #[.val (.ref a4), .val (.int (0 : Int32))] [(.int z0)]
  exact go_ireturn d23_10 rfl (Or.inr (Or.inr (Or.inr (Or.inl rfl)))) rfl (congrArg Value.int (nar_z z0 h_0)) (by decide) (by decide) ⟨rfl, rfl⟩
theorem d12_16 : decode jdk_42_method_56_code 16 = .ok (.aload_n 0, 1) := by decide +kernel
theorem d12_17 : decode jdk_42_method_56_code 17 = .ok (.getfield 9, 3) := by decide +kernel
theorem d12_20 : decode jdk_42_method_56_code 20 = .ok (.iload_n 1, 1) := by decide +kernel
theorem d12_21 : decode jdk_42_method_56_code 21 = .ok (.invokestatic 498, 3) := by decide +kernel
theorem d12_24 : decode jdk_42_method_56_code 24 = .ok (.ireturn, 1) := by decide +kernel
def B12_38 : Bdy := (⟨"java/lang/String", "charAt", "(I)C"⟩, jdk_42_method_56_code, 2, (some .char), ({ frames := 4, cells := 0, slots := 0, locals := 53 } : Room))
set_option maxRecDepth 65536 in
set_option maxHeartbeats 4000000 in
theorem mt38 (Z : State) (a0 : Array Value) (hw : ∀ d ∈ tables_1, d.before a0 Z = true) (h0 : Heap) (zc : Int32) (r99 : Value) (SS : Sts Z h0 zc r99) (z0 : Int32) (h_0 : 0 ≤ z0.toInt ∧ z0.toInt ≤ 65535) (a4 : Addr) (a1 : Addr) :
    Met B12_38 Z a0 h0 #[(.ref a1), (.int (0 : Int32))] [ar a4 .byte [(.int (nar .byte ((z0 >>> ((0 : Int32) &&& 31)).toInt8.toInt32))), (.int (nar .byte ((z0 >>> ((8 : Int32) &&& 31)).toInt8.toInt32)))], ob a1 "java/lang/String" [("java/lang/String", "value", "[B", (.ref a4)), ("java/lang/String", "coder", "B", (.int (1 : Int32)))]] (Ret (some (.int z0)) [ar a4 .byte [(.int (nar .byte ((z0 >>> ((0 : Int32) &&& 31)).toInt8.toInt32))), (.int (nar .byte ((z0 >>> ((8 : Int32) &&& 31)).toInt8.toInt32)))], ob a1 "java/lang/String" [("java/lang/String", "value", "[B", (.ref a4)), ("java/lang/String", "coder", "B", (.int (1 : Int32)))]]) := by
  refine Met.of pn12 (ls := #[.val (.ref a1), .val (.int (0 : Int32))]) (fun m => by first | (simp [entryFrame, mkF, argsToLocals, Value.category, B12_38]; done) | rfl) ?_
  show Go B12_38 Z a0 h0 _ 0 0 [ar a4 .byte [(.int (nar .byte ((z0 >>> ((0 : Int32) &&& 31)).toInt8.toInt32))), (.int (nar .byte ((z0 >>> ((8 : Int32) &&& 31)).toInt8.toInt32)))], ob a1 "java/lang/String" [("java/lang/String", "value", "[B", (.ref a4)), ("java/lang/String", "coder", "B", (.int (1 : Int32)))]] 0 #[.val (.ref a1), .val (.int (0 : Int32))] []
  refine go_aloadN 1 rfl d12_0 rfl rfl ?_
  refine go_callV 4 rfl d12_1 (wd hw 59 rfl) (wd hw 60 rfl) (wd hw 62 rfl) (wd hw 61 rfl) (wd hw 6 rfl) (wd hw 63 rfl) (by decide) (Mo.exa (i := 1) rfl) (mt39 Z a0 hw h0 zc r99 SS z0 h_0 a4 a1) (argsL := []) (rest := []) rfl (ps := []) (by decide +kernel) rfl rfl 0 rfl (by decide) (by decide) (by decide) (by decide) ?_
  rintro _ _ ⟨rfl, rfl⟩
  show Go B12_38 Z a0 h0 _ 0 0 [ar a4 .byte [(.int (nar .byte ((z0 >>> ((0 : Int32) &&& 31)).toInt8.toInt32))), (.int (nar .byte ((z0 >>> ((8 : Int32) &&& 31)).toInt8.toInt32)))], ob a1 "java/lang/String" [("java/lang/String", "value", "[B", (.ref a4)), ("java/lang/String", "coder", "B", (.int (1 : Int32)))]] 4 #[.val (.ref a1), .val (.int (0 : Int32))] [(.int (0 : Int32))]
  refine go_if 16 7 rfl (by decide) rfl d12_4 rfl (fun (hc4 : (0 : Int) = 0) => ?_) (fun (hc4 : ¬ ((0 : Int) = 0)) => absurd hc4 (by decide))
  refine go_aloadN 17 rfl d12_16 rfl rfl ?_
  refine go_get 1 0 20 rfl d12_17 rfl rfl rfl (wd hw 24 rfl) ?_
  refine go_iloadN 21 rfl d12_20 rfl ?_
  refine go_callS 24 rfl d12_21 (wd hw 99 rfl) (wd hw 100 rfl) (wd hw 43 rfl) (wd hw 101 rfl) (by decide) (Met.frame [ob a1 "java/lang/String" [("java/lang/String", "value", "[B", (.ref a4)), ("java/lang/String", "coder", "B", (.int (1 : Int32)))]] (mt40 Z a0 hw h0 zc r99 SS z0 h_0 a4)) (argsL := [(.ref a4), (.int (0 : Int32))]) (rest := []) rfl (ps := [(.array .byte), .int]) (by decide +kernel) rfl rfl 0 rfl (by decide) (by decide) (by decide) (by decide) ?_
  rintro _ _ ⟨_, ⟨rfl, rfl⟩, rfl⟩
  show Go B12_38 Z a0 h0 _ 0 0 [ar a4 .byte [(.int (nar .byte ((z0 >>> ((0 : Int32) &&& 31)).toInt8.toInt32))), (.int (nar .byte ((z0 >>> ((8 : Int32) &&& 31)).toInt8.toInt32)))], ob a1 "java/lang/String" [("java/lang/String", "value", "[B", (.ref a4)), ("java/lang/String", "coder", "B", (.int (1 : Int32)))]] 24 #[.val (.ref a1), .val (.int (0 : Int32))] [(.int z0)]
  exact go_ireturn d12_24 rfl (Or.inr (Or.inr (Or.inr (Or.inl rfl)))) rfl (congrArg Value.int (nar_z z0 h_0)) (by decide) (by decide) ⟨rfl, rfl⟩
def B5_35 : Bdy := (⟨"com/example/tool_port/toolport/http/HttpSyntax", "isFieldValue", "(Ljava/lang/String;)Z"⟩, prog_33_method_3_code, 2, (some .boolean), ({ frames := 5, cells := 0, slots := 0, locals := 66 } : Room))
set_option maxRecDepth 65536 in
set_option maxHeartbeats 4000000 in
theorem mt35 (Z : State) (a0 : Array Value) (hw : ∀ d ∈ tables_1, d.before a0 Z = true) (h0 : Heap) (zc : Int32) (r99 : Value) (SS : Sts Z h0 zc r99) (z0 : Int32) (h_0 : 0 ≤ z0.toInt ∧ z0.toInt ≤ 65535) (a4 : Addr) (a1 : Addr) :
    Met B5_35 Z a0 h0 #[(.ref a1)] [ar a4 .byte [(.int (nar .byte ((z0 >>> ((0 : Int32) &&& 31)).toInt8.toInt32))), (.int (nar .byte ((z0 >>> ((8 : Int32) &&& 31)).toInt8.toInt32)))], ob a1 "java/lang/String" [("java/lang/String", "value", "[B", (.ref a4)), ("java/lang/String", "coder", "B", (.int (1 : Int32)))]] (Qz ((z0.toInt = 9 ∨ (32 ≤ z0.toInt ∧ z0.toInt ≠ 127 ∧ z0.toInt ≤ 255))) [ar a4 .byte [(.int (nar .byte ((z0 >>> ((0 : Int32) &&& 31)).toInt8.toInt32))), (.int (nar .byte ((z0 >>> ((8 : Int32) &&& 31)).toInt8.toInt32)))], ob a1 "java/lang/String" [("java/lang/String", "value", "[B", (.ref a4)), ("java/lang/String", "coder", "B", (.int (1 : Int32)))]]) := by
  refine Met.of pn5 (ls := #[.val (.ref a1), .unset]) (fun m => by first | (simp [entryFrame, mkF, argsToLocals, Value.category, B5_35]; done) | rfl) ?_
  show Go B5_35 Z a0 h0 _ 0 0 [ar a4 .byte [(.int (nar .byte ((z0 >>> ((0 : Int32) &&& 31)).toInt8.toInt32))), (.int (nar .byte ((z0 >>> ((8 : Int32) &&& 31)).toInt8.toInt32)))], ob a1 "java/lang/String" [("java/lang/String", "value", "[B", (.ref a4)), ("java/lang/String", "coder", "B", (.int (1 : Int32)))]] 0 #[.val (.ref a1), .unset] []
  refine go_iconst (0 : Int32) 1 rfl d5_0 rfl ?_
  refine go_istoreN #[.val (.ref a1), .val (.int (0 : Int32))] 2 rfl d5_1 rfl rfl ?_
  refine go_iloadN 3 rfl d5_2 rfl ?_
  refine go_aloadN 4 rfl d5_3 rfl rfl ?_
  refine go_callV 7 rfl d5_4 (wd hw 30 rfl) (wd hw 31 rfl) (wd hw 33 rfl) (wd hw 32 rfl) (wd hw 6 rfl) (wd hw 34 rfl) (by decide) (Mo.exa (i := 1) rfl) (mt36 Z a0 hw h0 zc r99 SS z0 h_0 a4 a1) (argsL := []) (rest := [(.int (0 : Int32))]) rfl (ps := []) (by decide +kernel) rfl rfl 1 rfl (by decide) (by decide) (by decide) (by decide) ?_
  rintro _ _ ⟨rfl, rfl⟩
  show Go B5_35 Z a0 h0 _ 0 0 [ar a4 .byte [(.int (nar .byte ((z0 >>> ((0 : Int32) &&& 31)).toInt8.toInt32))), (.int (nar .byte ((z0 >>> ((8 : Int32) &&& 31)).toInt8.toInt32)))], ob a1 "java/lang/String" [("java/lang/String", "value", "[B", (.ref a4)), ("java/lang/String", "coder", "B", (.int (1 : Int32)))]] 7 #[.val (.ref a1), .val (.int (0 : Int32))] [(.int (1 : Int32)), (.int (0 : Int32))]
  refine go_icmp 29 10 rfl (by decide) rfl d5_7 rfl (fun (hc7 : (1 : Int) ≤ (0 : Int)) => absurd hc7 (by decide)) (fun (hc7 : ¬ ((1 : Int) ≤ (0 : Int))) => ?_)
  refine go_aloadN 11 rfl d5_10 rfl rfl ?_
  refine go_iloadN 12 rfl d5_11 rfl ?_
  refine go_callV 15 rfl d5_12 (wd hw 54 rfl) (wd hw 55 rfl) (wd hw 57 rfl) (wd hw 56 rfl) (wd hw 6 rfl) (wd hw 58 rfl) (by decide) (Mo.exa (i := 1) rfl) (mt38 Z a0 hw h0 zc r99 SS z0 h_0 a4 a1) (argsL := [(.int (0 : Int32))]) (rest := []) rfl (ps := [.int]) (by decide +kernel) rfl rfl 0 rfl (by decide) (by decide) (by decide) (by decide) ?_
  rintro _ _ ⟨rfl, rfl⟩
  show Go B5_35 Z a0 h0 _ 0 0 [ar a4 .byte [(.int (nar .byte ((z0 >>> ((0 : Int32) &&& 31)).toInt8.toInt32))), (.int (nar .byte ((z0 >>> ((8 : Int32) &&& 31)).toInt8.toInt32)))], ob a1 "java/lang/String" [("java/lang/String", "value", "[B", (.ref a4)), ("java/lang/String", "coder", "B", (.int (1 : Int32)))]] 15 #[.val (.ref a1), .val (.int (0 : Int32))] [(.int z0)]
  refine go_callS 18 rfl d5_15 (wd hw 76 rfl) (wd hw 77 rfl) (wd hw 28 rfl) (wd hw 78 rfl) (by decide) (m_isFieldValueChar Z a0 hw h0 [ar a4 .byte [(.int (nar .byte ((z0 >>> ((0 : Int32) &&& 31)).toInt8.toInt32))), (.int (nar .byte ((z0 >>> ((8 : Int32) &&& 31)).toInt8.toInt32)))], ob a1 "java/lang/String" [("java/lang/String", "value", "[B", (.ref a4)), ("java/lang/String", "coder", "B", (.int (1 : Int32)))]] z0) (argsL := [(.int z0)]) (rest := []) rfl (ps := [.int]) (by decide +kernel) rfl rfl 0 rfl (by decide) (by decide) (by decide) (by decide) ?_
  rintro _ _ ⟨z106, rfl, rfl, hz106⟩
  show Go B5_35 Z a0 h0 _ 0 0 [ar a4 .byte [(.int (nar .byte ((z0 >>> ((0 : Int32) &&& 31)).toInt8.toInt32))), (.int (nar .byte ((z0 >>> ((8 : Int32) &&& 31)).toInt8.toInt32)))], ob a1 "java/lang/String" [("java/lang/String", "value", "[B", (.ref a4)), ("java/lang/String", "coder", "B", (.int (1 : Int32)))]] 18 #[.val (.ref a1), .val (.int (0 : Int32))] [(.int z106)]
  refine go_if 23 21 rfl (by decide) rfl d5_18 rfl (fun (hc18_44 : z106.toInt ≠ 0) => ?_) (fun (hc18_44 : ¬ (z106.toInt ≠ 0)) => ?_)
  · refine go_iinc #[.val (.ref a1), .val (.int (1 : Int32))] 26 rfl d5_23 rfl rfl ?_
    refine go_goto 2 (by decide) rfl d5_26 ?_
    refine go_iloadN 3 rfl d5_2 rfl ?_
    refine go_aloadN 4 rfl d5_3 rfl rfl ?_
    refine go_callV 7 rfl d5_4 (wd hw 30 rfl) (wd hw 31 rfl) (wd hw 33 rfl) (wd hw 32 rfl) (wd hw 6 rfl) (wd hw 34 rfl) (by decide) (Mo.exa (i := 1) rfl) (mt36 Z a0 hw h0 zc r99 SS z0 h_0 a4 a1) (argsL := []) (rest := [(.int (1 : Int32))]) rfl (ps := []) (by decide +kernel) rfl rfl 1 rfl (by decide) (by decide) (by decide) (by decide) ?_
    rintro _ _ ⟨rfl, rfl⟩
    show Go B5_35 Z a0 h0 _ 0 0 [ar a4 .byte [(.int (nar .byte ((z0 >>> ((0 : Int32) &&& 31)).toInt8.toInt32))), (.int (nar .byte ((z0 >>> ((8 : Int32) &&& 31)).toInt8.toInt32)))], ob a1 "java/lang/String" [("java/lang/String", "value", "[B", (.ref a4)), ("java/lang/String", "coder", "B", (.int (1 : Int32)))]] 7 #[.val (.ref a1), .val (.int (1 : Int32))] [(.int (1 : Int32)), (.int (1 : Int32))]
    refine go_icmp 29 10 rfl (by decide) rfl d5_7 rfl (fun (hc7 : (1 : Int) ≤ (1 : Int)) => ?_) (fun (hc7 : ¬ ((1 : Int) ≤ (1 : Int))) => absurd hc7 (by decide))
    refine go_iconst (1 : Int32) 30 rfl d5_29 rfl ?_
    exact go_ireturn d5_30 rfl (Or.inr (Or.inl rfl)) rfl rfl (by decide) (by decide) ⟨_, rfl, rfl, Or.inl ⟨rfl, by omega⟩⟩
  · refine go_iconst (0 : Int32) 22 rfl d5_21 rfl ?_
    exact go_ireturn d5_22 rfl (Or.inr (Or.inl rfl)) rfl rfl (by decide) (by decide) ⟨_, rfl, rfl, Or.inr ⟨rfl, by omega⟩⟩
def B9_49 : Bdy := (⟨"java/lang/StringUTF16", "compress", "([CI[BII)I"⟩, jdk_52_method_21_code, 7, (some .int), ({ frames := 0, cells := 0, slots := 0, locals := 0 } : Room))
set_option maxRecDepth 65536 in
set_option maxHeartbeats 4000000 in
theorem mt49 (Z : State) (a0 : Array Value) (hw : ∀ d ∈ tables_1, d.before a0 Z = true) (h0 : Heap) (zc : Int32) (r99 : Value) (SS : Sts Z h0 zc r99) (z0 z1 : Int32) (h_0 : 0 ≤ z0.toInt ∧ z0.toInt ≤ 65535) (h_1 : 0 ≤ z1.toInt ∧ z1.toInt ≤ 65535) (g0 : z0.toInt ≤ 255) (g1 : z1.toInt ≤ 255) (a7 : Addr) (a308 : Addr) :
    Met B9_49 Z a0 h0 #[(.ref a7), (.int (0 : Int32)), (.ref a308), (.int (0 : Int32)), (.int (2 : Int32))] [ar a7 .char [(.int z0), (.int z1)], ar a308 .byte [(.int (0 : Int32)), (.int (0 : Int32))]] (Ret (some (.int (2 : Int32))) [ar a7 .char [(.int z0), (.int z1)], ar a308 .byte [(.int (nar .byte (z0.toInt8.toInt32))), (.int (nar .byte (z1.toInt8.toInt32)))]]) := by
  refine Met.of pn9 (ls := #[.val (.ref a7), .val (.int (0 : Int32)), .val (.ref a308), .val (.int (0 : Int32)), .val (.int (2 : Int32)), .unset, .unset]) (fun m => by first | (simp [entryFrame, mkF, argsToLocals, Value.category, B9_49]; done) | rfl) ?_
  show Go B9_49 Z a0 h0 _ 0 0 [ar a7 .char [(.int z0), (.int z1)], ar a308 .byte [(.int (0 : Int32)), (.int (0 : Int32))]] 0 #[.val (.ref a7), .val (.int (0 : Int32)), .val (.ref a308), .val (.int (0 : Int32)), .val (.int (2 : Int32)), .unset, .unset] []
  refine go_iconst (0 : Int32) 1 rfl d9_0 rfl ?_
  refine go_istore #[.val (.ref a7), .val (.int (0 : Int32)), .val (.ref a308), .val (.int (0 : Int32)), .val (.int (2 : Int32)), .val (.int (0 : Int32)), .unset] 3 rfl d9_1 rfl rfl ?_
  refine go_iload 5 rfl d9_3 rfl ?_
  refine go_iload 7 rfl d9_5 rfl ?_
  refine go_icmp 44 10 rfl (by decide) rfl d9_7 rfl (fun (hc7 : (2 : Int) ≤ (0 : Int)) => absurd hc7 (by decide)) (fun (hc7 : ¬ ((2 : Int) ≤ (0 : Int))) => ?_)
  refine go_aloadN 11 rfl d9_10 rfl rfl ?_
  refine go_iloadN 12 rfl d9_11 rfl ?_
  refine go_caload 13 rfl d9_12 rfl (Mo.el (i := 0) rfl (by decide) rfl) ?_
  refine go_istore #[.val (.ref a7), .val (.int (0 : Int32)), .val (.ref a308), .val (.int (0 : Int32)), .val (.int (2 : Int32)), .val (.int (0 : Int32)), .val (.int z0)] 15 rfl d9_13 rfl rfl ?_
  refine go_iload 17 rfl d9_15 rfl ?_
  refine go_sipush (255 : Int32) 20 rfl d9_17 rfl ?_
  refine go_icmp 26 23 rfl (by decide) rfl d9_20 rfl (fun (hc20 : z0.toInt ≤ (255 : Int)) => ?_) (fun (hc20 : ¬ (z0.toInt ≤ (255 : Int))) => absurd hc20 (by omega))
  refine go_aloadN 27 rfl d9_26 rfl rfl ?_
  refine go_iloadN 28 rfl d9_27 rfl ?_
  refine go_iload 30 rfl d9_28 rfl ?_
  refine go_i2b 31 rfl d9_30 rfl ?_
  refine go_bastore 1 32 rfl d9_31 rfl rfl (by decide) (Nat.le_of_ble_eq_true rfl) ?_
  show Go B9_49 Z a0 h0 _ 0 0 [ar a7 .char [(.int z0), (.int z1)], ar a308 .byte [(.int (nar .byte (z0.toInt8.toInt32))), (.int (0 : Int32))]] 32 #[.val (.ref a7), .val (.int (0 : Int32)), .val (.ref a308), .val (.int (0 : Int32)), .val (.int (2 : Int32)), .val (.int (0 : Int32)), .val (.int z0)] []
  refine go_iinc #[.val (.ref a7), .val (.int (1 : Int32)), .val (.ref a308), .val (.int (0 : Int32)), .val (.int (2 : Int32)), .val (.int (0 : Int32)), .val (.int z0)] 35 rfl d9_32 rfl rfl ?_
  refine go_iinc #[.val (.ref a7), .val (.int (1 : Int32)), .val (.ref a308), .val (.int (1 : Int32)), .val (.int (2 : Int32)), .val (.int (0 : Int32)), .val (.int z0)] 38 rfl d9_35 rfl rfl ?_
  refine go_iinc #[.val (.ref a7), .val (.int (1 : Int32)), .val (.ref a308), .val (.int (1 : Int32)), .val (.int (2 : Int32)), .val (.int (1 : Int32)), .val (.int z0)] 41 rfl d9_38 rfl rfl ?_
  refine go_goto 3 (by decide) rfl d9_41 ?_
  refine go_iload 5 rfl d9_3 rfl ?_
  refine go_iload 7 rfl d9_5 rfl ?_
  refine go_icmp 44 10 rfl (by decide) rfl d9_7 rfl (fun (hc7 : (2 : Int) ≤ (1 : Int)) => absurd hc7 (by decide)) (fun (hc7 : ¬ ((2 : Int) ≤ (1 : Int))) => ?_)
  refine go_aloadN 11 rfl d9_10 rfl rfl ?_
  refine go_iloadN 12 rfl d9_11 rfl ?_
  refine go_caload 13 rfl d9_12 rfl (Mo.el (i := 0) rfl (by decide) rfl) ?_
  refine go_istore #[.val (.ref a7), .val (.int (1 : Int32)), .val (.ref a308), .val (.int (1 : Int32)), .val (.int (2 : Int32)), .val (.int (1 : Int32)), .val (.int z1)] 15 rfl d9_13 rfl rfl ?_
  refine go_iload 17 rfl d9_15 rfl ?_
  refine go_sipush (255 : Int32) 20 rfl d9_17 rfl ?_
  refine go_icmp 26 23 rfl (by decide) rfl d9_20 rfl (fun (hc20 : z1.toInt ≤ (255 : Int)) => ?_) (fun (hc20 : ¬ (z1.toInt ≤ (255 : Int))) => absurd hc20 (by omega))
  refine go_aloadN 27 rfl d9_26 rfl rfl ?_
  refine go_iloadN 28 rfl d9_27 rfl ?_
  refine go_iload 30 rfl d9_28 rfl ?_
  refine go_i2b 31 rfl d9_30 rfl ?_
  refine go_bastore 1 32 rfl d9_31 rfl rfl (by decide) (Nat.le_of_ble_eq_true rfl) ?_
  show Go B9_49 Z a0 h0 _ 0 0 [ar a7 .char [(.int z0), (.int z1)], ar a308 .byte [(.int (nar .byte (z0.toInt8.toInt32))), (.int (nar .byte (z1.toInt8.toInt32)))]] 32 #[.val (.ref a7), .val (.int (1 : Int32)), .val (.ref a308), .val (.int (1 : Int32)), .val (.int (2 : Int32)), .val (.int (1 : Int32)), .val (.int z1)] []
  refine go_iinc #[.val (.ref a7), .val (.int (2 : Int32)), .val (.ref a308), .val (.int (1 : Int32)), .val (.int (2 : Int32)), .val (.int (1 : Int32)), .val (.int z1)] 35 rfl d9_32 rfl rfl ?_
  refine go_iinc #[.val (.ref a7), .val (.int (2 : Int32)), .val (.ref a308), .val (.int (2 : Int32)), .val (.int (2 : Int32)), .val (.int (1 : Int32)), .val (.int z1)] 38 rfl d9_35 rfl rfl ?_
  refine go_iinc #[.val (.ref a7), .val (.int (2 : Int32)), .val (.ref a308), .val (.int (2 : Int32)), .val (.int (2 : Int32)), .val (.int (2 : Int32)), .val (.int z1)] 41 rfl d9_38 rfl rfl ?_
  refine go_goto 3 (by decide) rfl d9_41 ?_
  refine go_iload 5 rfl d9_3 rfl ?_
  refine go_iload 7 rfl d9_5 rfl ?_
  refine go_icmp 44 10 rfl (by decide) rfl d9_7 rfl (fun (hc7 : (2 : Int) ≤ (2 : Int)) => ?_) (fun (hc7 : ¬ ((2 : Int) ≤ (2 : Int))) => absurd hc7 (by decide))
  refine go_iload 46 rfl d9_44 rfl ?_
  exact go_ireturn d9_46 rfl (Or.inl rfl) rfl rfl (by decide) (by decide) ⟨rfl, rfl⟩
def B8_48 : Bdy := (⟨"java/lang/StringUTF16", "compress", "([CII)[B"⟩, jdk_52_method_16_code, 6, (some (.array .byte)), ({ frames := 1, cells := 1, slots := 2, locals := 18 } : Room))
set_option maxRecDepth 65536 in
set_option maxHeartbeats 4000000 in
theorem mt48 (Z : State) (a0 : Array Value) (hw : ∀ d ∈ tables_1, d.before a0 Z = true) (h0 : Heap) (zc : Int32) (r99 : Value) (SS : Sts Z h0 zc r99) (z0 z1 : Int32) (h_0 : 0 ≤ z0.toInt ∧ z0.toInt ≤ 65535) (h_1 : 0 ≤ z1.toInt ∧ z1.toInt ≤ 65535) (g0 : z0.toInt ≤ 255) (g1 : z1.toInt ≤ 255) (a7 : Addr) :
    Met B8_48 Z a0 h0 #[(.ref a7), (.int (0 : Int32)), (.int (2 : Int32))] [ar a7 .char [(.int z0), (.int z1)]] (fun v ds => ∃ a308 : Addr, Ret (some (.ref a308)) [ar a7 .char [(.int z0), (.int z1)], ar a308 .byte [(.int (nar .byte (z0.toInt8.toInt32))), (.int (nar .byte (z1.toInt8.toInt32)))]] v ds) := by
  refine Met.of pn8 (ls := #[.val (.ref a7), .val (.int (0 : Int32)), .val (.int (2 : Int32)), .unset, .unset, .unset]) (fun m => by first | (simp [entryFrame, mkF, argsToLocals, Value.category, B8_48]; done) | rfl) ?_
  show Go B8_48 Z a0 h0 _ 0 0 [ar a7 .char [(.int z0), (.int z1)]] 0 #[.val (.ref a7), .val (.int (0 : Int32)), .val (.int (2 : Int32)), .unset, .unset, .unset] []
  refine go_iloadN 1 rfl d8_0 rfl ?_
  refine go_newarr 3 rfl d8_1 rfl (wd hw 19 rfl) (by decide) 2 (by decide) (by decide) (by decide) (by decide) (fun a308 => ?_)
  show Go B8_48 Z a0 h0 _ 1 2 [ar a7 .char [(.int z0), (.int z1)], ar a308 .byte [(.int (0 : Int32)), (.int (0 : Int32))]] 3 #[.val (.ref a7), .val (.int (0 : Int32)), .val (.int (2 : Int32)), .unset, .unset, .unset] [(.ref a308)]
  refine go_astoreN #[.val (.ref a7), .val (.int (0 : Int32)), .val (.int (2 : Int32)), .val (.ref a308), .unset, .unset] 4 rfl d8_3 rfl rfl rfl ?_
  refine go_aloadN 5 rfl d8_4 rfl rfl ?_
  refine go_iloadN 6 rfl d8_5 rfl ?_
  refine go_aloadN 7 rfl d8_6 rfl rfl ?_
  refine go_iconst (0 : Int32) 8 rfl d8_7 rfl ?_
  refine go_iloadN 9 rfl d8_8 rfl ?_
  refine go_callS 12 rfl d8_9 (wd hw 45 rfl) (wd hw 46 rfl) (wd hw 43 rfl) (wd hw 47 rfl) (by decide) (mt49 Z a0 hw h0 zc r99 SS z0 z1 h_0 h_1 g0 g1 a7 a308) (argsL := [(.ref a7), (.int (0 : Int32)), (.ref a308), (.int (0 : Int32)), (.int (2 : Int32))]) (rest := []) rfl (ps := [(.array .char), .int, (.array .byte), .int, .int]) (by decide +kernel) rfl rfl 0 rfl (by decide) (by decide) (by decide) (by decide) ?_
  rintro _ _ ⟨rfl, rfl⟩
  show Go B8_48 Z a0 h0 _ 1 2 [ar a7 .char [(.int z0), (.int z1)], ar a308 .byte [(.int (nar .byte (z0.toInt8.toInt32))), (.int (nar .byte (z1.toInt8.toInt32)))]] 12 #[.val (.ref a7), .val (.int (0 : Int32)), .val (.int (2 : Int32)), .val (.ref a308), .unset, .unset] [(.int (2 : Int32))]
  refine go_istore #[.val (.ref a7), .val (.int (0 : Int32)), .val (.int (2 : Int32)), .val (.ref a308), .val (.int (2 : Int32)), .unset] 14 rfl d8_12 rfl rfl ?_
  refine go_iload 16 rfl d8_14 rfl ?_
  refine go_iloadN 17 rfl d8_16 rfl ?_
  refine go_icmp 57 20 rfl (by decide) rfl d8_17 rfl (fun (hc17 : (2 : Int) = (2 : Int)) => ?_) (fun (hc17 : ¬ ((2 : Int) = (2 : Int))) => absurd hc17 (by decide))
  refine go_aloadN 58 rfl d8_57 rfl rfl ?_
  exact go_areturn d8_58 rfl rfl rfl rfl (by decide) (by decide) ⟨a308, rfl, rfl⟩
def B10_50 : Bdy := (⟨"java/lang/StringUTF16", "coderFromArrayLen", "([BI)B"⟩, jdk_52_method_15_code, 2, (some .byte), ({ frames := 0, cells := 0, slots := 0, locals := 0 } : Room))
set_option maxRecDepth 65536 in
set_option maxHeartbeats 4000000 in
theorem mt50 (Z : State) (a0 : Array Value) (hw : ∀ d ∈ tables_1, d.before a0 Z = true) (h0 : Heap) (zc : Int32) (r99 : Value) (SS : Sts Z h0 zc r99) (z0 z1 : Int32) (h_0 : 0 ≤ z0.toInt ∧ z0.toInt ≤ 65535) (h_1 : 0 ≤ z1.toInt ∧ z1.toInt ≤ 65535) (g0 : z0.toInt ≤ 255) (g1 : z1.toInt ≤ 255) (a208 : Addr) :
    Met B10_50 Z a0 h0 #[(.ref a208), (.int (2 : Int32))] [ar a208 .byte [(.int (nar .byte (z0.toInt8.toInt32))), (.int (nar .byte (z1.toInt8.toInt32)))]] (Ret (some (.int (0 : Int32))) [ar a208 .byte [(.int (nar .byte (z0.toInt8.toInt32))), (.int (nar .byte (z1.toInt8.toInt32)))]]) := by
  refine Met.of pn10 (ls := #[.val (.ref a208), .val (.int (2 : Int32))]) (fun m => by first | (simp [entryFrame, mkF, argsToLocals, Value.category, B10_50]; done) | rfl) ?_
  show Go B10_50 Z a0 h0 _ 0 0 [ar a208 .byte [(.int (nar .byte (z0.toInt8.toInt32))), (.int (nar .byte (z1.toInt8.toInt32)))]] 0 #[.val (.ref a208), .val (.int (2 : Int32))] []
  refine go_iloadN 1 rfl d10_0 rfl ?_
  refine go_aloadN 2 rfl d10_1 rfl rfl ?_
  refine go_alen 0 3 rfl d10_2 rfl rfl ?_
  show Go B10_50 Z a0 h0 _ 0 0 [ar a208 .byte [(.int (nar .byte (z0.toInt8.toInt32))), (.int (nar .byte (z1.toInt8.toInt32)))]] 3 #[.val (.ref a208), .val (.int (2 : Int32))] [(.int (2 : Int32)), (.int (2 : Int32))]
  refine go_isub 4 rfl d10_3 rfl ?_
  show Go B10_50 Z a0 h0 _ 0 0 [ar a208 .byte [(.int (nar .byte (z0.toInt8.toInt32))), (.int (nar .byte (z1.toInt8.toInt32)))]] 4 #[.val (.ref a208), .val (.int (2 : Int32))] [(.int (0 : Int32))]
  refine go_bipush (31 : Int32) 6 rfl d10_4 rfl ?_
  refine go_iushr 7 rfl d10_6 rfl ?_
  show Go B10_50 Z a0 h0 _ 0 0 [ar a208 .byte [(.int (nar .byte (z0.toInt8.toInt32))), (.int (nar .byte (z1.toInt8.toInt32)))]] 7 #[.val (.ref a208), .val (.int (2 : Int32))] [(.int (0 : Int32))]
  refine go_i2b 8 rfl d10_7 rfl ?_
  show Go B10_50 Z a0 h0 _ 0 0 [ar a208 .byte [(.int (nar .byte (z0.toInt8.toInt32))), (.int (nar .byte (z1.toInt8.toInt32)))]] 8 #[.val (.ref a208), .val (.int (2 : Int32))] [(.int (0 : Int32))]
  exact go_ireturn d10_8 rfl (Or.inr (Or.inr (Or.inl rfl))) rfl rfl (by decide) (by decide) ⟨rfl, rfl⟩
def B3_47 : Bdy := (⟨"java/lang/String", "<init>", "([CIILjava/lang/Void;)V"⟩, jdk_42_method_149_code, 6, none, ({ frames := 2, cells := 1, slots := 2, locals := 35 } : Room))
set_option maxRecDepth 65536 in
set_option maxHeartbeats 4000000 in
theorem mt47 (Z : State) (a0 : Array Value) (hw : ∀ d ∈ tables_1, d.before a0 Z = true) (h0 : Heap) (zc : Int32) (r99 : Value) (SS : Sts Z h0 zc r99) (z0 z1 : Int32) (h_0 : 0 ≤ z0.toInt ∧ z0.toInt ≤ 65535) (h_1 : 0 ≤ z1.toInt ∧ z1.toInt ≤ 65535) (g0 : z0.toInt ≤ 255) (g1 : z1.toInt ≤ 255) (a6 : Addr) (a7 : Addr) :
    Met B3_47 Z a0 h0 #[(.ref a6), (.ref a7), (.int (0 : Int32)), (.int (2 : Int32)), .null] [ob a6 "java/lang/String" [("java/lang/String", "value", "[B", .null), ("java/lang/String", "coder", "B", (.int (0 : Int32)))], ar a7 .char [(.int z0), (.int z1)]] (fun v ds => ∃ a208 : Addr, Ret none [ar a208 .byte [(.int (nar .byte (z0.toInt8.toInt32))), (.int (nar .byte (z1.toInt8.toInt32)))], ar a7 .char [(.int z0), (.int z1)], ob a6 "java/lang/String" [("java/lang/String", "value", "[B", (.ref a208)), ("java/lang/String", "coder", "B", (.int (0 : Int32)))]] v ds) := by
  refine Met.of pn3 (ls := #[.val (.ref a6), .val (.ref a7), .val (.int (0 : Int32)), .val (.int (2 : Int32)), .val .null, .unset]) (fun m => by first | (simp [entryFrame, mkF, argsToLocals, Value.category, B3_47]; done) | rfl) ?_
  show Go B3_47 Z a0 h0 _ 0 0 [ob a6 "java/lang/String" [("java/lang/String", "value", "[B", .null), ("java/lang/String", "coder", "B", (.int (0 : Int32)))], ar a7 .char [(.int z0), (.int z1)]] 0 #[.val (.ref a6), .val (.ref a7), .val (.int (0 : Int32)), .val (.int (2 : Int32)), .val .null, .unset] []
  refine go_aloadN 1 rfl d3_0 rfl rfl ?_
  refine go_initObj 4 rfl d3_1 rfl (wd hw 15 rfl) (wd hw 16 rfl) (wd hw 17 rfl) rfl (by decide) (by decide) ?_
  refine go_iloadN 5 rfl d3_4 rfl ?_
  refine go_if 27 8 rfl (by decide) rfl d3_5 rfl (fun (hc5 : (2 : Int) ≠ 0) => ?_) (fun (hc5 : ¬ ((2 : Int) ≠ 0)) => absurd hc5 (by decide))
  refine go_getS 30 rfl d3_27 (wd hw 40 rfl) SS.1 ?_
  refine go_if 58 33 rfl (by decide) rfl d3_30 rfl (fun (hc30 : zc.toInt = 0) => absurd hc30 (by exact fun q => SS.2.1 (Int32.toInt_inj.mp q))) (fun (hc30 : ¬ (zc.toInt = 0)) => ?_)
  refine go_aloadN 34 rfl d3_33 rfl rfl ?_
  refine go_iloadN 35 rfl d3_34 rfl ?_
  refine go_iloadN 36 rfl d3_35 rfl ?_
  refine Go.front 1 (Nat.le_of_ble_eq_true rfl) ?_
  show Go B3_47 Z a0 h0 _ 0 0 [ar a7 .char [(.int z0), (.int z1)], ob a6 "java/lang/String" [("java/lang/String", "value", "[B", .null), ("java/lang/String", "coder", "B", (.int (0 : Int32)))]] 36 #[.val (.ref a6), .val (.ref a7), .val (.int (0 : Int32)), .val (.int (2 : Int32)), .val .null, .unset] [(.int (2 : Int32)), (.int (0 : Int32)), (.ref a7)]
  refine go_callS 39 rfl d3_36 (wd hw 41 rfl) (wd hw 42 rfl) (wd hw 43 rfl) (wd hw 44 rfl) (by decide) (Met.frame [ob a6 "java/lang/String" [("java/lang/String", "value", "[B", .null), ("java/lang/String", "coder", "B", (.int (0 : Int32)))]] (mt48 Z a0 hw h0 zc r99 SS z0 z1 h_0 h_1 g0 g1 a7)) (argsL := [(.ref a7), (.int (0 : Int32)), (.int (2 : Int32))]) (rest := []) rfl (ps := [(.array .char), .int, .int]) (by decide +kernel) rfl rfl 0 rfl (by decide) (by decide) (by decide) (by decide) ?_
  rintro _ _ ⟨_, ⟨a208, rfl, rfl⟩, rfl⟩
  show Go B3_47 Z a0 h0 _ 1 2 [ar a7 .char [(.int z0), (.int z1)], ar a208 .byte [(.int (nar .byte (z0.toInt8.toInt32))), (.int (nar .byte (z1.toInt8.toInt32)))], ob a6 "java/lang/String" [("java/lang/String", "value", "[B", .null), ("java/lang/String", "coder", "B", (.int (0 : Int32)))]] 39 #[.val (.ref a6), .val (.ref a7), .val (.int (0 : Int32)), .val (.int (2 : Int32)), .val .null, .unset] [(.ref a208)]
  refine go_astore #[.val (.ref a6), .val (.ref a7), .val (.int (0 : Int32)), .val (.int (2 : Int32)), .val .null, .val (.ref a208)] 41 rfl d3_39 rfl rfl rfl ?_
  refine go_aloadN 42 rfl d3_41 rfl rfl ?_
  refine go_aload 44 rfl d3_42 rfl rfl ?_
  refine go_iloadN 45 rfl d3_44 rfl ?_
  refine Go.front 1 (Nat.le_of_ble_eq_true rfl) ?_
  show Go B3_47 Z a0 h0 _ 1 2 [ar a208 .byte [(.int (nar .byte (z0.toInt8.toInt32))), (.int (nar .byte (z1.toInt8.toInt32)))], ar a7 .char [(.int z0), (.int z1)], ob a6 "java/lang/String" [("java/lang/String", "value", "[B", .null), ("java/lang/String", "coder", "B", (.int (0 : Int32)))]] 45 #[.val (.ref a6), .val (.ref a7), .val (.int (0 : Int32)), .val (.int (2 : Int32)), .val .null, .val (.ref a208)] [(.int (2 : Int32)), (.ref a208), (.ref a6)]
  refine go_callS 48 rfl d3_45 (wd hw 48 rfl) (wd hw 49 rfl) (wd hw 43 rfl) (wd hw 50 rfl) (by decide) (Met.frame [ar a7 .char [(.int z0), (.int z1)], ob a6 "java/lang/String" [("java/lang/String", "value", "[B", .null), ("java/lang/String", "coder", "B", (.int (0 : Int32)))]] (mt50 Z a0 hw h0 zc r99 SS z0 z1 h_0 h_1 g0 g1 a208)) (argsL := [(.ref a208), (.int (2 : Int32))]) (rest := [(.ref a6)]) rfl (ps := [(.array .byte), .int]) (by decide +kernel) rfl rfl 1 rfl (by decide) (by decide) (by decide) (by decide) ?_
  rintro _ _ ⟨_, ⟨rfl, rfl⟩, rfl⟩
  show Go B3_47 Z a0 h0 _ 1 2 [ar a208 .byte [(.int (nar .byte (z0.toInt8.toInt32))), (.int (nar .byte (z1.toInt8.toInt32)))], ar a7 .char [(.int z0), (.int z1)], ob a6 "java/lang/String" [("java/lang/String", "value", "[B", .null), ("java/lang/String", "coder", "B", (.int (0 : Int32)))]] 48 #[.val (.ref a6), .val (.ref a7), .val (.int (0 : Int32)), .val (.int (2 : Int32)), .val .null, .val (.ref a208)] [(.int (0 : Int32)), (.ref a6)]
  refine go_put 2 1 51 rfl d3_48 rfl rfl rfl (wd hw 25 rfl) (Or.inr ⟨(wd hw 21 rfl), rfl, rfl⟩) (wd hw 5 rfl) (ty := .byte) (by decide) rfl rfl ?_
  show Go B3_47 Z a0 h0 _ 1 2 [ar a208 .byte [(.int (nar .byte (z0.toInt8.toInt32))), (.int (nar .byte (z1.toInt8.toInt32)))], ar a7 .char [(.int z0), (.int z1)], ob a6 "java/lang/String" [("java/lang/String", "value", "[B", .null), ("java/lang/String", "coder", "B", (.int (0 : Int32)))]] 51 #[.val (.ref a6), .val (.ref a7), .val (.int (0 : Int32)), .val (.int (2 : Int32)), .val .null, .val (.ref a208)] []
  refine go_aloadN 52 rfl d3_51 rfl rfl ?_
  refine go_aload 54 rfl d3_52 rfl rfl ?_
  refine go_put 2 0 57 rfl d3_54 rfl rfl rfl (wd hw 24 rfl) (Or.inr ⟨(wd hw 20 rfl), rfl, rfl⟩) (wd hw 5 rfl) (ty := (.array .byte)) (by decide) rfl rfl ?_
  show Go B3_47 Z a0 h0 _ 1 2 [ar a208 .byte [(.int (nar .byte (z0.toInt8.toInt32))), (.int (nar .byte (z1.toInt8.toInt32)))], ar a7 .char [(.int z0), (.int z1)], ob a6 "java/lang/String" [("java/lang/String", "value", "[B", (.ref a208)), ("java/lang/String", "coder", "B", (.int (0 : Int32)))]] 57 #[.val (.ref a6), .val (.ref a7), .val (.int (0 : Int32)), .val (.int (2 : Int32)), .val .null, .val (.ref a208)] []
  exact go_return d3_57 rfl rfl (by decide) (by decide) ⟨a208, rfl, rfl⟩
def B2_46 : Bdy := (⟨"java/lang/String", "<init>", "([C)V"⟩, jdk_42_method_3_code, 2, none, ({ frames := 3, cells := 1, slots := 2, locals := 52 } : Room))
set_option maxRecDepth 65536 in
set_option maxHeartbeats 4000000 in
theorem mt46 (Z : State) (a0 : Array Value) (hw : ∀ d ∈ tables_1, d.before a0 Z = true) (h0 : Heap) (zc : Int32) (r99 : Value) (SS : Sts Z h0 zc r99) (z0 z1 : Int32) (h_0 : 0 ≤ z0.toInt ∧ z0.toInt ≤ 65535) (h_1 : 0 ≤ z1.toInt ∧ z1.toInt ≤ 65535) (g0 : z0.toInt ≤ 255) (g1 : z1.toInt ≤ 255) (a6 : Addr) (a7 : Addr) :
    Met B2_46 Z a0 h0 #[(.ref a6), (.ref a7)] [ob a6 "java/lang/String" [("java/lang/String", "value", "[B", .null), ("java/lang/String", "coder", "B", (.int (0 : Int32)))], ar a7 .char [(.int z0), (.int z1)]] (fun v ds => ∃ a108 : Addr, Ret none [ar a108 .byte [(.int (nar .byte (z0.toInt8.toInt32))), (.int (nar .byte (z1.toInt8.toInt32)))], ar a7 .char [(.int z0), (.int z1)], ob a6 "java/lang/String" [("java/lang/String", "value", "[B", (.ref a108)), ("java/lang/String", "coder", "B", (.int (0 : Int32)))]] v ds) := by
  refine Met.of pn2 (ls := #[.val (.ref a6), .val (.ref a7)]) (fun m => by first | (simp [entryFrame, mkF, argsToLocals, Value.category, B2_46]; done) | rfl) ?_
  show Go B2_46 Z a0 h0 _ 0 0 [ob a6 "java/lang/String" [("java/lang/String", "value", "[B", .null), ("java/lang/String", "coder", "B", (.int (0 : Int32)))], ar a7 .char [(.int z0), (.int z1)]] 0 #[.val (.ref a6), .val (.ref a7)] []
  refine go_aloadN 1 rfl d2_0 rfl rfl ?_
  refine go_aloadN 2 rfl d2_1 rfl rfl ?_
  refine go_iconst (0 : Int32) 3 rfl d2_2 rfl ?_
  refine go_aloadN 4 rfl d2_3 rfl rfl ?_
  refine go_alen 1 5 rfl d2_4 rfl rfl ?_
  show Go B2_46 Z a0 h0 _ 0 0 [ob a6 "java/lang/String" [("java/lang/String", "value", "[B", .null), ("java/lang/String", "coder", "B", (.int (0 : Int32)))], ar a7 .char [(.int z0), (.int z1)]] 5 #[.val (.ref a6), .val (.ref a7)] [(.int (2 : Int32)), (.int (0 : Int32)), (.ref a7), (.ref a6)]
  refine go_aconstNull 6 rfl d2_5 ?_
  refine go_callI 9 rfl d2_6 rfl (wd hw 11 rfl) (wd hw 12 rfl) (wd hw 6 rfl) (wd hw 14 rfl) (by decide) (mt47 Z a0 hw h0 zc r99 SS z0 z1 h_0 h_1 g0 g1 a6 a7) (argsL := [(.ref a7), (.int (0 : Int32)), (.int (2 : Int32)), .null]) (rest := []) rfl (ret := none) (ps := [(.array .char), .int, .int, (.object "java/lang/Void")]) (by decide +kernel) rfl rfl 0 rfl (by decide) (by decide) (by decide) (by decide) ?_
  rintro _ _ ⟨a108, rfl, rfl⟩
  show Go B2_46 Z a0 h0 _ 1 2 [ar a108 .byte [(.int (nar .byte (z0.toInt8.toInt32))), (.int (nar .byte (z1.toInt8.toInt32)))], ar a7 .char [(.int z0), (.int z1)], ob a6 "java/lang/String" [("java/lang/String", "value", "[B", (.ref a108)), ("java/lang/String", "coder", "B", (.int (0 : Int32)))]] 9 #[.val (.ref a6), .val (.ref a7)] []
  exact go_return d2_9 rfl rfl (by decide) (by decide) ⟨a108, rfl, rfl⟩
def B7_54 : Bdy := (⟨"java/lang/String", "coder", "()B"⟩, jdk_42_method_152_code, 1, (some .byte), ({ frames := 0, cells := 0, slots := 0, locals := 0 } : Room))
set_option maxRecDepth 65536 in
set_option maxHeartbeats 4000000 in
theorem mt54 (Z : State) (a0 : Array Value) (hw : ∀ d ∈ tables_1, d.before a0 Z = true) (h0 : Heap) (zc : Int32) (r99 : Value) (SS : Sts Z h0 zc r99) (z0 z1 : Int32) (h_0 : 0 ≤ z0.toInt ∧ z0.toInt ≤ 65535) (h_1 : 0 ≤ z1.toInt ∧ z1.toInt ≤ 65535) (g0 : z0.toInt ≤ 255) (g1 : z1.toInt ≤ 255) (a8 : Addr) (a6 : Addr) :
    Met B7_54 Z a0 h0 #[(.ref a6)] [ar a8 .byte [(.int (nar .byte (z0.toInt8.toInt32))), (.int (nar .byte (z1.toInt8.toInt32)))], ob a6 "java/lang/String" [("java/lang/String", "value", "[B", (.ref a8)), ("java/lang/String", "coder", "B", (.int (0 : Int32)))]] (Ret (some (.int (0 : Int32))) [ar a8 .byte [(.int (nar .byte (z0.toInt8.toInt32))), (.int (nar .byte (z1.toInt8.toInt32)))], ob a6 "java/lang/String" [("java/lang/String", "value", "[B", (.ref a8)), ("java/lang/String", "coder", "B", (.int (0 : Int32)))]]) := by
  refine Met.of pn7 (ls := #[.val (.ref a6)]) (fun m => by first | (simp [entryFrame, mkF, argsToLocals, Value.category, B7_54]; done) | rfl) ?_
  show Go B7_54 Z a0 h0 _ 0 0 [ar a8 .byte [(.int (nar .byte (z0.toInt8.toInt32))), (.int (nar .byte (z1.toInt8.toInt32)))], ob a6 "java/lang/String" [("java/lang/String", "value", "[B", (.ref a8)), ("java/lang/String", "coder", "B", (.int (0 : Int32)))]] 0 #[.val (.ref a6)] []
  refine go_getS 3 rfl d7_0 (wd hw 40 rfl) SS.1 ?_
  refine go_if 13 6 rfl (by decide) rfl d7_3 rfl (fun (hc3 : zc.toInt = 0) => absurd hc3 (by exact fun q => SS.2.1 (Int32.toInt_inj.mp q))) (fun (hc3 : ¬ (zc.toInt = 0)) => ?_)
  refine go_aloadN 7 rfl d7_6 rfl rfl ?_
  refine go_get 1 1 10 rfl d7_7 rfl rfl rfl (wd hw 25 rfl) ?_
  refine go_goto 14 (by decide) rfl d7_10 ?_
  exact go_ireturn d7_14 rfl (Or.inr (Or.inr (Or.inl rfl))) rfl rfl (by decide) (by decide) ⟨rfl, rfl⟩
def B6_53 : Bdy := (⟨"java/lang/String", "length", "()I"⟩, jdk_42_method_54_code, 1, (some .int), ({ frames := 1, cells := 0, slots := 0, locals := 13 } : Room))
set_option maxRecDepth 65536 in
set_option maxHeartbeats 4000000 in
theorem mt53 (Z : State) (a0 : Array Value) (hw : ∀ d ∈ tables_1, d.before a0 Z = true) (h0 : Heap) (zc : Int32) (r99 : Value) (SS : Sts Z h0 zc r99) (z0 z1 : Int32) (h_0 : 0 ≤ z0.toInt ∧ z0.toInt ≤ 65535) (h_1 : 0 ≤ z1.toInt ∧ z1.toInt ≤ 65535) (g0 : z0.toInt ≤ 255) (g1 : z1.toInt ≤ 255) (a8 : Addr) (a6 : Addr) :
    Met B6_53 Z a0 h0 #[(.ref a6)] [ar a8 .byte [(.int (nar .byte (z0.toInt8.toInt32))), (.int (nar .byte (z1.toInt8.toInt32)))], ob a6 "java/lang/String" [("java/lang/String", "value", "[B", (.ref a8)), ("java/lang/String", "coder", "B", (.int (0 : Int32)))]] (Ret (some (.int (2 : Int32))) [ar a8 .byte [(.int (nar .byte (z0.toInt8.toInt32))), (.int (nar .byte (z1.toInt8.toInt32)))], ob a6 "java/lang/String" [("java/lang/String", "value", "[B", (.ref a8)), ("java/lang/String", "coder", "B", (.int (0 : Int32)))]]) := by
  refine Met.of pn6 (ls := #[.val (.ref a6)]) (fun m => by first | (simp [entryFrame, mkF, argsToLocals, Value.category, B6_53]; done) | rfl) ?_
  show Go B6_53 Z a0 h0 _ 0 0 [ar a8 .byte [(.int (nar .byte (z0.toInt8.toInt32))), (.int (nar .byte (z1.toInt8.toInt32)))], ob a6 "java/lang/String" [("java/lang/String", "value", "[B", (.ref a8)), ("java/lang/String", "coder", "B", (.int (0 : Int32)))]] 0 #[.val (.ref a6)] []
  refine go_aloadN 1 rfl d6_0 rfl rfl ?_
  refine go_get 1 0 4 rfl d6_1 rfl rfl rfl (wd hw 24 rfl) ?_
  refine go_alen 0 5 rfl d6_4 rfl rfl ?_
  show Go B6_53 Z a0 h0 _ 0 0 [ar a8 .byte [(.int (nar .byte (z0.toInt8.toInt32))), (.int (nar .byte (z1.toInt8.toInt32)))], ob a6 "java/lang/String" [("java/lang/String", "value", "[B", (.ref a8)), ("java/lang/String", "coder", "B", (.int (0 : Int32)))]] 5 #[.val (.ref a6)] [(.int (2 : Int32))]
  refine go_aloadN 6 rfl d6_5 rfl rfl ?_
  refine go_callV 9 rfl d6_6 (wd hw 35 rfl) (wd hw 36 rfl) (wd hw 38 rfl) (wd hw 37 rfl) (wd hw 6 rfl) (wd hw 39 rfl) (by decide) (Mo.exa (i := 1) rfl) (mt54 Z a0 hw h0 zc r99 SS z0 z1 h_0 h_1 g0 g1 a8 a6) (argsL := []) (rest := [(.int (2 : Int32))]) rfl (ps := []) (by decide +kernel) rfl rfl 1 rfl (by decide) (by decide) (by decide) (by decide) ?_
  rintro _ _ ⟨rfl, rfl⟩
  show Go B6_53 Z a0 h0 _ 0 0 [ar a8 .byte [(.int (nar .byte (z0.toInt8.toInt32))), (.int (nar .byte (z1.toInt8.toInt32)))], ob a6 "java/lang/String" [("java/lang/String", "value", "[B", (.ref a8)), ("java/lang/String", "coder", "B", (.int (0 : Int32)))]] 9 #[.val (.ref a6)] [(.int (0 : Int32)), (.int (2 : Int32))]
  refine go_ishr 10 rfl d6_9 rfl ?_
  show Go B6_53 Z a0 h0 _ 0 0 [ar a8 .byte [(.int (nar .byte (z0.toInt8.toInt32))), (.int (nar .byte (z1.toInt8.toInt32)))], ob a6 "java/lang/String" [("java/lang/String", "value", "[B", (.ref a8)), ("java/lang/String", "coder", "B", (.int (0 : Int32)))]] 10 #[.val (.ref a6)] [(.int (2 : Int32))]
  exact go_ireturn d6_10 rfl (Or.inl rfl) rfl rfl (by decide) (by decide) ⟨rfl, rfl⟩
def B13_56 : Bdy := (⟨"java/lang/String", "isLatin1", "()Z"⟩, jdk_42_method_154_code, 1, (some .boolean), ({ frames := 0, cells := 0, slots := 0, locals := 0 } : Room))
set_option maxRecDepth 65536 in
set_option maxHeartbeats 4000000 in
theorem mt56 (Z : State) (a0 : Array Value) (hw : ∀ d ∈ tables_1, d.before a0 Z = true) (h0 : Heap) (zc : Int32) (r99 : Value) (SS : Sts Z h0 zc r99) (z0 z1 : Int32) (h_0 : 0 ≤ z0.toInt ∧ z0.toInt ≤ 65535) (h_1 : 0 ≤ z1.toInt ∧ z1.toInt ≤ 65535) (g0 : z0.toInt ≤ 255) (g1 : z1.toInt ≤ 255) (a8 : Addr) (a6 : Addr) :
    Met B13_56 Z a0 h0 #[(.ref a6)] [ar a8 .byte [(.int (nar .byte (z0.toInt8.toInt32))), (.int (nar .byte (z1.toInt8.toInt32)))], ob a6 "java/lang/String" [("java/lang/String", "value", "[B", (.ref a8)), ("java/lang/String", "coder", "B", (.int (0 : Int32)))]] (Ret (some (.int (1 : Int32))) [ar a8 .byte [(.int (nar .byte (z0.toInt8.toInt32))), (.int (nar .byte (z1.toInt8.toInt32)))], ob a6 "java/lang/String" [("java/lang/String", "value", "[B", (.ref a8)), ("java/lang/String", "coder", "B", (.int (0 : Int32)))]]) := by
  refine Met.of pn13 (ls := #[.val (.ref a6)]) (fun m => by first | (simp [entryFrame, mkF, argsToLocals, Value.category, B13_56]; done) | rfl) ?_
  show Go B13_56 Z a0 h0 _ 0 0 [ar a8 .byte [(.int (nar .byte (z0.toInt8.toInt32))), (.int (nar .byte (z1.toInt8.toInt32)))], ob a6 "java/lang/String" [("java/lang/String", "value", "[B", (.ref a8)), ("java/lang/String", "coder", "B", (.int (0 : Int32)))]] 0 #[.val (.ref a6)] []
  refine go_getS 3 rfl d13_0 (wd hw 40 rfl) SS.1 ?_
  refine go_if 17 6 rfl (by decide) rfl d13_3 rfl (fun (hc3 : zc.toInt = 0) => absurd hc3 (by exact fun q => SS.2.1 (Int32.toInt_inj.mp q))) (fun (hc3 : ¬ (zc.toInt = 0)) => ?_)
  refine go_aloadN 7 rfl d13_6 rfl rfl ?_
  refine go_get 1 1 10 rfl d13_7 rfl rfl rfl (wd hw 25 rfl) ?_
  refine go_if 17 13 rfl (by decide) rfl d13_10 rfl (fun (hc10 : (0 : Int) ≠ 0) => absurd hc10 (by decide)) (fun (hc10 : ¬ ((0 : Int) ≠ 0)) => ?_)
  refine go_iconst (1 : Int32) 14 rfl d13_13 rfl ?_
  refine go_goto 18 (by decide) rfl d13_14 ?_
  exact go_ireturn d13_18 rfl (Or.inr (Or.inl rfl)) rfl rfl (by decide) (by decide) ⟨rfl, rfl⟩
def B16_59 : Bdy := (⟨"jdk/internal/util/Preconditions", "checkIndex", "(IILjava/util/function/BiFunction;)I"⟩, jdk_41_method_11_code, 3, (some .int), ({ frames := 0, cells := 0, slots := 0, locals := 0 } : Room))
set_option maxRecDepth 65536 in
set_option maxHeartbeats 4000000 in
theorem mt59 (Z : State) (a0 : Array Value) (hw : ∀ d ∈ tables_1, d.before a0 Z = true) (h0 : Heap) (zc : Int32) (r99 : Value) (SS : Sts Z h0 zc r99) (z0 z1 : Int32) (h_0 : 0 ≤ z0.toInt ∧ z0.toInt ≤ 65535) (h_1 : 0 ≤ z1.toInt ∧ z1.toInt ≤ 65535) (g0 : z0.toInt ≤ 255) (g1 : z1.toInt ≤ 255) :
    Met B16_59 Z a0 h0 #[(.int (0 : Int32)), (.int (2 : Int32)), r99] [] (Ret (some (.int (0 : Int32))) []) := by
  refine Met.of pn16 (ls := #[.val (.int (0 : Int32)), .val (.int (2 : Int32)), .val r99]) (fun m => by rcases ref_cases SS.2.2.2.1 with rfl | ⟨_, rfl⟩ <;> first | (simp [entryFrame, mkF, argsToLocals, Value.category, B16_59]; done) | rfl) ?_
  show Go B16_59 Z a0 h0 _ 0 0 [] 0 #[.val (.int (0 : Int32)), .val (.int (2 : Int32)), .val r99] []
  refine go_iloadN 1 rfl d16_0 rfl ?_
  refine go_if 9 4 rfl (by decide) rfl d16_1 rfl (fun (hc1 : (0 : Int) < 0) => absurd hc1 (by decide)) (fun (hc1 : ¬ ((0 : Int) < 0)) => ?_)
  refine go_iloadN 5 rfl d16_4 rfl ?_
  refine go_iloadN 6 rfl d16_5 rfl ?_
  refine go_icmp 16 9 rfl (by decide) rfl d16_6 rfl (fun (hc6 : (0 : Int) < (2 : Int)) => ?_) (fun (hc6 : ¬ ((0 : Int) < (2 : Int))) => absurd hc6 (by decide))
  refine go_iloadN 17 rfl d16_16 rfl ?_
  exact go_ireturn d16_17 rfl (Or.inl rfl) rfl rfl (by decide) (by decide) ⟨rfl, rfl⟩
def B15_58 : Bdy := (⟨"java/lang/String", "checkIndex", "(II)V"⟩, jdk_42_method_155_code, 2, none, ({ frames := 1, cells := 0, slots := 0, locals := 14 } : Room))
set_option maxRecDepth 65536 in
set_option maxHeartbeats 4000000 in
theorem mt58 (Z : State) (a0 : Array Value) (hw : ∀ d ∈ tables_1, d.before a0 Z = true) (h0 : Heap) (zc : Int32) (r99 : Value) (SS : Sts Z h0 zc r99) (z0 z1 : Int32) (h_0 : 0 ≤ z0.toInt ∧ z0.toInt ≤ 65535) (h_1 : 0 ≤ z1.toInt ∧ z1.toInt ≤ 65535) (g0 : z0.toInt ≤ 255) (g1 : z1.toInt ≤ 255) :
    Met B15_58 Z a0 h0 #[(.int (0 : Int32)), (.int (2 : Int32))] [] (Ret none []) := by
  refine Met.of pn15 (ls := #[.val (.int (0 : Int32)), .val (.int (2 : Int32))]) (fun m => by first | (simp [entryFrame, mkF, argsToLocals, Value.category, B15_58]; done) | rfl) ?_
  show Go B15_58 Z a0 h0 _ 0 0 [] 0 #[.val (.int (0 : Int32)), .val (.int (2 : Int32))] []
  refine go_iloadN 1 rfl d15_0 rfl ?_
  refine go_iloadN 2 rfl d15_1 rfl ?_
  refine go_getS 5 rfl d15_2 (wd hw 71 rfl) SS.2.2.1 ?_
  refine go_callS 8 rfl d15_5 (wd hw 73 rfl) (wd hw 74 rfl) (wd hw 72 rfl) (wd hw 75 rfl) (by decide) (mt59 Z a0 hw h0 zc r99 SS z0 z1 h_0 h_1 g0 g1) (argsL := [(.int (0 : Int32)), (.int (2 : Int32)), r99]) (rest := []) rfl (ps := [.int, .int, (.object "java/util/function/BiFunction")]) (by decide +kernel) rfl rfl 0 rfl (by decide) (by decide) (by decide) (by decide) ?_
  rintro _ _ ⟨rfl, rfl⟩
  show Go B15_58 Z a0 h0 _ 0 0 [] 8 #[.val (.int (0 : Int32)), .val (.int (2 : Int32))] [(.int (0 : Int32))]
  refine go_pop 9 rfl d15_8 rfl rfl ?_
  exact go_return d15_9 rfl rfl (by decide) (by decide) ⟨rfl, rfl⟩
def B14_57 : Bdy := (⟨"java/lang/StringLatin1", "charAt", "([BI)C"⟩, jdk_43_method_2_code, 2, (some .char), ({ frames := 2, cells := 0, slots := 0, locals := 27 } : Room))
set_option maxRecDepth 65536 in
set_option maxHeartbeats 4000000 in
theorem mt57 (Z : State) (a0 : Array Value) (hw : ∀ d ∈ tables_1, d.before a0 Z = true) (h0 : Heap) (zc : Int32) (r99 : Value) (SS : Sts Z h0 zc r99) (z0 z1 : Int32) (h_0 : 0 ≤ z0.toInt ∧ z0.toInt ≤ 65535) (h_1 : 0 ≤ z1.toInt ∧ z1.toInt ≤ 65535) (g0 : z0.toInt ≤ 255) (g1 : z1.toInt ≤ 255) (a8 : Addr) :
    Met B14_57 Z a0 h0 #[(.ref a8), (.int (0 : Int32))] [ar a8 .byte [(.int (nar .byte (z0.toInt8.toInt32))), (.int (nar .byte (z1.toInt8.toInt32)))]] (Ret (some (.int z0)) [ar a8 .byte [(.int (nar .byte (z0.toInt8.toInt32))), (.int (nar .byte (z1.toInt8.toInt32)))]]) := by
  refine Met.of pn14 (ls := #[.val (.ref a8), .val (.int (0 : Int32))]) (fun m => by first | (simp [entryFrame, mkF, argsToLocals, Value.category, B14_57]; done) | rfl) ?_
  show Go B14_57 Z a0 h0 _ 0 0 [ar a8 .byte [(.int (nar .byte (z0.toInt8.toInt32))), (.int (nar .byte (z1.toInt8.toInt32)))]] 0 #[.val (.ref a8), .val (.int (0 : Int32))] []
  refine go_iloadN 1 rfl d14_0 rfl ?_
  refine go_aloadN 2 rfl d14_1 rfl rfl ?_
  refine go_alen 0 3 rfl d14_2 rfl rfl ?_
  show Go B14_57 Z a0 h0 _ 0 0 [ar a8 .byte [(.int (nar .byte (z0.toInt8.toInt32))), (.int (nar .byte (z1.toInt8.toInt32)))]] 3 #[.val (.ref a8), .val (.int (0 : Int32))] [(.int (2 : Int32)), (.int (0 : Int32))]
  refine go_callS 6 rfl d14_3 (wd hw 68 rfl) (wd hw 69 rfl) (wd hw 6 rfl) (wd hw 70 rfl) (by decide) (Met.frame [ar a8 .byte [(.int (nar .byte (z0.toInt8.toInt32))), (.int (nar .byte (z1.toInt8.toInt32)))]] (mt58 Z a0 hw h0 zc r99 SS z0 z1 h_0 h_1 g0 g1)) (argsL := [(.int (0 : Int32)), (.int (2 : Int32))]) (rest := []) rfl (ps := [.int, .int]) (by decide +kernel) rfl rfl 0 rfl (by decide) (by decide) (by decide) (by decide) ?_
  rintro _ _ ⟨_, ⟨rfl, rfl⟩, rfl⟩
  show Go B14_57 Z a0 h0 _ 0 0 [ar a8 .byte [(.int (nar .byte (z0.toInt8.toInt32))), (.int (nar .byte (z1.toInt8.toInt32)))]] 6 #[.val (.ref a8), .val (.int (0 : Int32))] []
  refine go_aloadN 7 rfl d14_6 rfl rfl ?_
  refine go_iloadN 8 rfl d14_7 rfl ?_
  refine go_baload 9 rfl d14_8 rfl (Mo.el (i := 0) rfl (by decide) rfl) ?_
  refine go_sipush (255 : Int32) 12 rfl d14_9 rfl ?_
  refine go_iand 13 rfl d14_12 rfl ?_
  refine go_i2c 14 rfl d14_13 rfl ?_
  exact go_ireturn d14_14 rfl (Or.inr (Or.inr (Or.inr (Or.inl rfl)))) rfl (congrArg Value.int (nar_c _)) (by decide) (by decide) (by rw [lat z0 (by omega)]; exact ⟨rfl, rfl⟩)
def B12_55 : Bdy := (⟨"java/lang/String", "charAt", "(I)C"⟩, jdk_42_method_56_code, 2, (some .char), ({ frames := 3, cells := 0, slots := 0, locals := 40 } : Room))
set_option maxRecDepth 65536 in
set_option maxHeartbeats 4000000 in
theorem mt55 (Z : State) (a0 : Array Value) (hw : ∀ d ∈ tables_1, d.before a0 Z = true) (h0 : Heap) (zc : Int32) (r99 : Value) (SS : Sts Z h0 zc r99) (z0 z1 : Int32) (h_0 : 0 ≤ z0.toInt ∧ z0.toInt ≤ 65535) (h_1 : 0 ≤ z1.toInt ∧ z1.toInt ≤ 65535) (g0 : z0.toInt ≤ 255) (g1 : z1.toInt ≤ 255) (a8 : Addr) (a6 : Addr) :
    Met B12_55 Z a0 h0 #[(.ref a6), (.int (0 : Int32))] [ar a8 .byte [(.int (nar .byte (z0.toInt8.toInt32))), (.int (nar .byte (z1.toInt8.toInt32)))], ob a6 "java/lang/String" [("java/lang/String", "value", "[B", (.ref a8)), ("java/lang/String", "coder", "B", (.int (0 : Int32)))]] (Ret (some (.int z0)) [ar a8 .byte [(.int (nar .byte (z0.toInt8.toInt32))), (.int (nar .byte (z1.toInt8.toInt32)))], ob a6 "java/lang/String" [("java/lang/String", "value", "[B", (.ref a8)), ("java/lang/String", "coder", "B", (.int (0 : Int32)))]]) := by
  refine Met.of pn12 (ls := #[.val (.ref a6), .val (.int (0 : Int32))]) (fun m => by first | (simp [entryFrame, mkF, argsToLocals, Value.category, B12_55]; done) | rfl) ?_
  show Go B12_55 Z a0 h0 _ 0 0 [ar a8 .byte [(.int (nar .byte (z0.toInt8.toInt32))), (.int (nar .byte (z1.toInt8.toInt32)))], ob a6 "java/lang/String" [("java/lang/String", "value", "[B", (.ref a8)), ("java/lang/String", "coder", "B", (.int (0 : Int32)))]] 0 #[.val (.ref a6), .val (.int (0 : Int32))] []
  refine go_aloadN 1 rfl d12_0 rfl rfl ?_
  refine go_callV 4 rfl d12_1 (wd hw 59 rfl) (wd hw 60 rfl) (wd hw 62 rfl) (wd hw 61 rfl) (wd hw 6 rfl) (wd hw 63 rfl) (by decide) (Mo.exa (i := 1) rfl) (mt56 Z a0 hw h0 zc r99 SS z0 z1 h_0 h_1 g0 g1 a8 a6) (argsL := []) (rest := []) rfl (ps := []) (by decide +kernel) rfl rfl 0 rfl (by decide) (by decide) (by decide) (by decide) ?_
  rintro _ _ ⟨rfl, rfl⟩
  show Go B12_55 Z a0 h0 _ 0 0 [ar a8 .byte [(.int (nar .byte (z0.toInt8.toInt32))), (.int (nar .byte (z1.toInt8.toInt32)))], ob a6 "java/lang/String" [("java/lang/String", "value", "[B", (.ref a8)), ("java/lang/String", "coder", "B", (.int (0 : Int32)))]] 4 #[.val (.ref a6), .val (.int (0 : Int32))] [(.int (1 : Int32))]
  refine go_if 16 7 rfl (by decide) rfl d12_4 rfl (fun (hc4 : (1 : Int) = 0) => absurd hc4 (by decide)) (fun (hc4 : ¬ ((1 : Int) = 0)) => ?_)
  refine go_aloadN 8 rfl d12_7 rfl rfl ?_
  refine go_get 1 0 11 rfl d12_8 rfl rfl rfl (wd hw 24 rfl) ?_
  refine go_iloadN 12 rfl d12_11 rfl ?_
  refine go_callS 15 rfl d12_12 (wd hw 64 rfl) (wd hw 65 rfl) (wd hw 66 rfl) (wd hw 67 rfl) (by decide) (Met.frame [ob a6 "java/lang/String" [("java/lang/String", "value", "[B", (.ref a8)), ("java/lang/String", "coder", "B", (.int (0 : Int32)))]] (mt57 Z a0 hw h0 zc r99 SS z0 z1 h_0 h_1 g0 g1 a8)) (argsL := [(.ref a8), (.int (0 : Int32))]) (rest := []) rfl (ps := [(.array .byte), .int]) (by decide +kernel) rfl rfl 0 rfl (by decide) (by decide) (by decide) (by decide) ?_
  rintro _ _ ⟨_, ⟨rfl, rfl⟩, rfl⟩
  show Go B12_55 Z a0 h0 _ 0 0 [ar a8 .byte [(.int (nar .byte (z0.toInt8.toInt32))), (.int (nar .byte (z1.toInt8.toInt32)))], ob a6 "java/lang/String" [("java/lang/String", "value", "[B", (.ref a8)), ("java/lang/String", "coder", "B", (.int (0 : Int32)))]] 15 #[.val (.ref a6), .val (.int (0 : Int32))] [(.int z0)]
  exact go_ireturn d12_15 rfl (Or.inr (Or.inr (Or.inr (Or.inl rfl)))) rfl (congrArg Value.int (nar_z z0 h_0)) (by decide) (by decide) ⟨rfl, rfl⟩
def B16_64 : Bdy := (⟨"jdk/internal/util/Preconditions", "checkIndex", "(IILjava/util/function/BiFunction;)I"⟩, jdk_41_method_11_code, 3, (some .int), ({ frames := 0, cells := 0, slots := 0, locals := 0 } : Room))
set_option maxRecDepth 65536 in
set_option maxHeartbeats 4000000 in
theorem mt64 (Z : State) (a0 : Array Value) (hw : ∀ d ∈ tables_1, d.before a0 Z = true) (h0 : Heap) (zc : Int32) (r99 : Value) (SS : Sts Z h0 zc r99) (z0 z1 : Int32) (h_0 : 0 ≤ z0.toInt ∧ z0.toInt ≤ 65535) (h_1 : 0 ≤ z1.toInt ∧ z1.toInt ≤ 65535) (g0 : z0.toInt ≤ 255) (g1 : z1.toInt ≤ 255) :
    Met B16_64 Z a0 h0 #[(.int (1 : Int32)), (.int (2 : Int32)), r99] [] (Ret (some (.int (1 : Int32))) []) := by
  refine Met.of pn16 (ls := #[.val (.int (1 : Int32)), .val (.int (2 : Int32)), .val r99]) (fun m => by rcases ref_cases SS.2.2.2.1 with rfl | ⟨_, rfl⟩ <;> first | (simp [entryFrame, mkF, argsToLocals, Value.category, B16_64]; done) | rfl) ?_
  show Go B16_64 Z a0 h0 _ 0 0 [] 0 #[.val (.int (1 : Int32)), .val (.int (2 : Int32)), .val r99] []
  refine go_iloadN 1 rfl d16_0 rfl ?_
  refine go_if 9 4 rfl (by decide) rfl d16_1 rfl (fun (hc1 : (1 : Int) < 0) => absurd hc1 (by decide)) (fun (hc1 : ¬ ((1 : Int) < 0)) => ?_)
  refine go_iloadN 5 rfl d16_4 rfl ?_
  refine go_iloadN 6 rfl d16_5 rfl ?_
  refine go_icmp 16 9 rfl (by decide) rfl d16_6 rfl (fun (hc6 : (1 : Int) < (2 : Int)) => ?_) (fun (hc6 : ¬ ((1 : Int) < (2 : Int))) => absurd hc6 (by decide))
  refine go_iloadN 17 rfl d16_16 rfl ?_
  exact go_ireturn d16_17 rfl (Or.inl rfl) rfl rfl (by decide) (by decide) ⟨rfl, rfl⟩
def B15_63 : Bdy := (⟨"java/lang/String", "checkIndex", "(II)V"⟩, jdk_42_method_155_code, 2, none, ({ frames := 1, cells := 0, slots := 0, locals := 14 } : Room))
set_option maxRecDepth 65536 in
set_option maxHeartbeats 4000000 in
theorem mt63 (Z : State) (a0 : Array Value) (hw : ∀ d ∈ tables_1, d.before a0 Z = true) (h0 : Heap) (zc : Int32) (r99 : Value) (SS : Sts Z h0 zc r99) (z0 z1 : Int32) (h_0 : 0 ≤ z0.toInt ∧ z0.toInt ≤ 65535) (h_1 : 0 ≤ z1.toInt ∧ z1.toInt ≤ 65535) (g0 : z0.toInt ≤ 255) (g1 : z1.toInt ≤ 255) :
    Met B15_63 Z a0 h0 #[(.int (1 : Int32)), (.int (2 : Int32))] [] (Ret none []) := by
  refine Met.of pn15 (ls := #[.val (.int (1 : Int32)), .val (.int (2 : Int32))]) (fun m => by first | (simp [entryFrame, mkF, argsToLocals, Value.category, B15_63]; done) | rfl) ?_
  show Go B15_63 Z a0 h0 _ 0 0 [] 0 #[.val (.int (1 : Int32)), .val (.int (2 : Int32))] []
  refine go_iloadN 1 rfl d15_0 rfl ?_
  refine go_iloadN 2 rfl d15_1 rfl ?_
  refine go_getS 5 rfl d15_2 (wd hw 71 rfl) SS.2.2.1 ?_
  refine go_callS 8 rfl d15_5 (wd hw 73 rfl) (wd hw 74 rfl) (wd hw 72 rfl) (wd hw 75 rfl) (by decide) (mt64 Z a0 hw h0 zc r99 SS z0 z1 h_0 h_1 g0 g1) (argsL := [(.int (1 : Int32)), (.int (2 : Int32)), r99]) (rest := []) rfl (ps := [.int, .int, (.object "java/util/function/BiFunction")]) (by decide +kernel) rfl rfl 0 rfl (by decide) (by decide) (by decide) (by decide) ?_
  rintro _ _ ⟨rfl, rfl⟩
  show Go B15_63 Z a0 h0 _ 0 0 [] 8 #[.val (.int (1 : Int32)), .val (.int (2 : Int32))] [(.int (1 : Int32))]
  refine go_pop 9 rfl d15_8 rfl rfl ?_
  exact go_return d15_9 rfl rfl (by decide) (by decide) ⟨rfl, rfl⟩
def B14_62 : Bdy := (⟨"java/lang/StringLatin1", "charAt", "([BI)C"⟩, jdk_43_method_2_code, 2, (some .char), ({ frames := 2, cells := 0, slots := 0, locals := 27 } : Room))
set_option maxRecDepth 65536 in
set_option maxHeartbeats 4000000 in
theorem mt62 (Z : State) (a0 : Array Value) (hw : ∀ d ∈ tables_1, d.before a0 Z = true) (h0 : Heap) (zc : Int32) (r99 : Value) (SS : Sts Z h0 zc r99) (z0 z1 : Int32) (h_0 : 0 ≤ z0.toInt ∧ z0.toInt ≤ 65535) (h_1 : 0 ≤ z1.toInt ∧ z1.toInt ≤ 65535) (g0 : z0.toInt ≤ 255) (g1 : z1.toInt ≤ 255) (a8 : Addr) :
    Met B14_62 Z a0 h0 #[(.ref a8), (.int (1 : Int32))] [ar a8 .byte [(.int (nar .byte (z0.toInt8.toInt32))), (.int (nar .byte (z1.toInt8.toInt32)))]] (Ret (some (.int z1)) [ar a8 .byte [(.int (nar .byte (z0.toInt8.toInt32))), (.int (nar .byte (z1.toInt8.toInt32)))]]) := by
  refine Met.of pn14 (ls := #[.val (.ref a8), .val (.int (1 : Int32))]) (fun m => by first | (simp [entryFrame, mkF, argsToLocals, Value.category, B14_62]; done) | rfl) ?_
  show Go B14_62 Z a0 h0 _ 0 0 [ar a8 .byte [(.int (nar .byte (z0.toInt8.toInt32))), (.int (nar .byte (z1.toInt8.toInt32)))]] 0 #[.val (.ref a8), .val (.int (1 : Int32))] []
  refine go_iloadN 1 rfl d14_0 rfl ?_
  refine go_aloadN 2 rfl d14_1 rfl rfl ?_
  refine go_alen 0 3 rfl d14_2 rfl rfl ?_
  show Go B14_62 Z a0 h0 _ 0 0 [ar a8 .byte [(.int (nar .byte (z0.toInt8.toInt32))), (.int (nar .byte (z1.toInt8.toInt32)))]] 3 #[.val (.ref a8), .val (.int (1 : Int32))] [(.int (2 : Int32)), (.int (1 : Int32))]
  refine go_callS 6 rfl d14_3 (wd hw 68 rfl) (wd hw 69 rfl) (wd hw 6 rfl) (wd hw 70 rfl) (by decide) (Met.frame [ar a8 .byte [(.int (nar .byte (z0.toInt8.toInt32))), (.int (nar .byte (z1.toInt8.toInt32)))]] (mt63 Z a0 hw h0 zc r99 SS z0 z1 h_0 h_1 g0 g1)) (argsL := [(.int (1 : Int32)), (.int (2 : Int32))]) (rest := []) rfl (ps := [.int, .int]) (by decide +kernel) rfl rfl 0 rfl (by decide) (by decide) (by decide) (by decide) ?_
  rintro _ _ ⟨_, ⟨rfl, rfl⟩, rfl⟩
  show Go B14_62 Z a0 h0 _ 0 0 [ar a8 .byte [(.int (nar .byte (z0.toInt8.toInt32))), (.int (nar .byte (z1.toInt8.toInt32)))]] 6 #[.val (.ref a8), .val (.int (1 : Int32))] []
  refine go_aloadN 7 rfl d14_6 rfl rfl ?_
  refine go_iloadN 8 rfl d14_7 rfl ?_
  refine go_baload 9 rfl d14_8 rfl (Mo.el (i := 0) rfl (by decide) rfl) ?_
  refine go_sipush (255 : Int32) 12 rfl d14_9 rfl ?_
  refine go_iand 13 rfl d14_12 rfl ?_
  refine go_i2c 14 rfl d14_13 rfl ?_
  exact go_ireturn d14_14 rfl (Or.inr (Or.inr (Or.inr (Or.inl rfl)))) rfl (congrArg Value.int (nar_c _)) (by decide) (by decide) (by rw [lat z1 (by omega)]; exact ⟨rfl, rfl⟩)
def B12_61 : Bdy := (⟨"java/lang/String", "charAt", "(I)C"⟩, jdk_42_method_56_code, 2, (some .char), ({ frames := 3, cells := 0, slots := 0, locals := 40 } : Room))
set_option maxRecDepth 65536 in
set_option maxHeartbeats 4000000 in
theorem mt61 (Z : State) (a0 : Array Value) (hw : ∀ d ∈ tables_1, d.before a0 Z = true) (h0 : Heap) (zc : Int32) (r99 : Value) (SS : Sts Z h0 zc r99) (z0 z1 : Int32) (h_0 : 0 ≤ z0.toInt ∧ z0.toInt ≤ 65535) (h_1 : 0 ≤ z1.toInt ∧ z1.toInt ≤ 65535) (g0 : z0.toInt ≤ 255) (g1 : z1.toInt ≤ 255) (a8 : Addr) (a6 : Addr) :
    Met B12_61 Z a0 h0 #[(.ref a6), (.int (1 : Int32))] [ar a8 .byte [(.int (nar .byte (z0.toInt8.toInt32))), (.int (nar .byte (z1.toInt8.toInt32)))], ob a6 "java/lang/String" [("java/lang/String", "value", "[B", (.ref a8)), ("java/lang/String", "coder", "B", (.int (0 : Int32)))]] (Ret (some (.int z1)) [ar a8 .byte [(.int (nar .byte (z0.toInt8.toInt32))), (.int (nar .byte (z1.toInt8.toInt32)))], ob a6 "java/lang/String" [("java/lang/String", "value", "[B", (.ref a8)), ("java/lang/String", "coder", "B", (.int (0 : Int32)))]]) := by
  refine Met.of pn12 (ls := #[.val (.ref a6), .val (.int (1 : Int32))]) (fun m => by first | (simp [entryFrame, mkF, argsToLocals, Value.category, B12_61]; done) | rfl) ?_
  show Go B12_61 Z a0 h0 _ 0 0 [ar a8 .byte [(.int (nar .byte (z0.toInt8.toInt32))), (.int (nar .byte (z1.toInt8.toInt32)))], ob a6 "java/lang/String" [("java/lang/String", "value", "[B", (.ref a8)), ("java/lang/String", "coder", "B", (.int (0 : Int32)))]] 0 #[.val (.ref a6), .val (.int (1 : Int32))] []
  refine go_aloadN 1 rfl d12_0 rfl rfl ?_
  refine go_callV 4 rfl d12_1 (wd hw 59 rfl) (wd hw 60 rfl) (wd hw 62 rfl) (wd hw 61 rfl) (wd hw 6 rfl) (wd hw 63 rfl) (by decide) (Mo.exa (i := 1) rfl) (mt56 Z a0 hw h0 zc r99 SS z0 z1 h_0 h_1 g0 g1 a8 a6) (argsL := []) (rest := []) rfl (ps := []) (by decide +kernel) rfl rfl 0 rfl (by decide) (by decide) (by decide) (by decide) ?_
  rintro _ _ ⟨rfl, rfl⟩
  show Go B12_61 Z a0 h0 _ 0 0 [ar a8 .byte [(.int (nar .byte (z0.toInt8.toInt32))), (.int (nar .byte (z1.toInt8.toInt32)))], ob a6 "java/lang/String" [("java/lang/String", "value", "[B", (.ref a8)), ("java/lang/String", "coder", "B", (.int (0 : Int32)))]] 4 #[.val (.ref a6), .val (.int (1 : Int32))] [(.int (1 : Int32))]
  refine go_if 16 7 rfl (by decide) rfl d12_4 rfl (fun (hc4 : (1 : Int) = 0) => absurd hc4 (by decide)) (fun (hc4 : ¬ ((1 : Int) = 0)) => ?_)
  refine go_aloadN 8 rfl d12_7 rfl rfl ?_
  refine go_get 1 0 11 rfl d12_8 rfl rfl rfl (wd hw 24 rfl) ?_
  refine go_iloadN 12 rfl d12_11 rfl ?_
  refine go_callS 15 rfl d12_12 (wd hw 64 rfl) (wd hw 65 rfl) (wd hw 66 rfl) (wd hw 67 rfl) (by decide) (Met.frame [ob a6 "java/lang/String" [("java/lang/String", "value", "[B", (.ref a8)), ("java/lang/String", "coder", "B", (.int (0 : Int32)))]] (mt62 Z a0 hw h0 zc r99 SS z0 z1 h_0 h_1 g0 g1 a8)) (argsL := [(.ref a8), (.int (1 : Int32))]) (rest := []) rfl (ps := [(.array .byte), .int]) (by decide +kernel) rfl rfl 0 rfl (by decide) (by decide) (by decide) (by decide) ?_
  rintro _ _ ⟨_, ⟨rfl, rfl⟩, rfl⟩
  show Go B12_61 Z a0 h0 _ 0 0 [ar a8 .byte [(.int (nar .byte (z0.toInt8.toInt32))), (.int (nar .byte (z1.toInt8.toInt32)))], ob a6 "java/lang/String" [("java/lang/String", "value", "[B", (.ref a8)), ("java/lang/String", "coder", "B", (.int (0 : Int32)))]] 15 #[.val (.ref a6), .val (.int (1 : Int32))] [(.int z1)]
  exact go_ireturn d12_15 rfl (Or.inr (Or.inr (Or.inr (Or.inl rfl)))) rfl (congrArg Value.int (nar_z z1 h_1)) (by decide) (by decide) ⟨rfl, rfl⟩
def B5_52 : Bdy := (⟨"com/example/tool_port/toolport/http/HttpSyntax", "isFieldValue", "(Ljava/lang/String;)Z"⟩, prog_33_method_3_code, 2, (some .boolean), ({ frames := 4, cells := 0, slots := 0, locals := 53 } : Room))
set_option maxRecDepth 65536 in
set_option maxHeartbeats 4000000 in
theorem mt52 (Z : State) (a0 : Array Value) (hw : ∀ d ∈ tables_1, d.before a0 Z = true) (h0 : Heap) (zc : Int32) (r99 : Value) (SS : Sts Z h0 zc r99) (z0 z1 : Int32) (h_0 : 0 ≤ z0.toInt ∧ z0.toInt ≤ 65535) (h_1 : 0 ≤ z1.toInt ∧ z1.toInt ≤ 65535) (g0 : z0.toInt ≤ 255) (g1 : z1.toInt ≤ 255) (a8 : Addr) (a6 : Addr) :
    Met B5_52 Z a0 h0 #[(.ref a6)] [ar a8 .byte [(.int (nar .byte (z0.toInt8.toInt32))), (.int (nar .byte (z1.toInt8.toInt32)))], ob a6 "java/lang/String" [("java/lang/String", "value", "[B", (.ref a8)), ("java/lang/String", "coder", "B", (.int (0 : Int32)))]] (Qz ((z0.toInt = 9 ∨ (32 ≤ z0.toInt ∧ z0.toInt ≠ 127 ∧ z0.toInt ≤ 255)) ∧ (z1.toInt = 9 ∨ (32 ≤ z1.toInt ∧ z1.toInt ≠ 127 ∧ z1.toInt ≤ 255))) [ar a8 .byte [(.int (nar .byte (z0.toInt8.toInt32))), (.int (nar .byte (z1.toInt8.toInt32)))], ob a6 "java/lang/String" [("java/lang/String", "value", "[B", (.ref a8)), ("java/lang/String", "coder", "B", (.int (0 : Int32)))]]) := by
  refine Met.of pn5 (ls := #[.val (.ref a6), .unset]) (fun m => by first | (simp [entryFrame, mkF, argsToLocals, Value.category, B5_52]; done) | rfl) ?_
  show Go B5_52 Z a0 h0 _ 0 0 [ar a8 .byte [(.int (nar .byte (z0.toInt8.toInt32))), (.int (nar .byte (z1.toInt8.toInt32)))], ob a6 "java/lang/String" [("java/lang/String", "value", "[B", (.ref a8)), ("java/lang/String", "coder", "B", (.int (0 : Int32)))]] 0 #[.val (.ref a6), .unset] []
  refine go_iconst (0 : Int32) 1 rfl d5_0 rfl ?_
  refine go_istoreN #[.val (.ref a6), .val (.int (0 : Int32))] 2 rfl d5_1 rfl rfl ?_
  refine go_iloadN 3 rfl d5_2 rfl ?_
  refine go_aloadN 4 rfl d5_3 rfl rfl ?_
  refine go_callV 7 rfl d5_4 (wd hw 30 rfl) (wd hw 31 rfl) (wd hw 33 rfl) (wd hw 32 rfl) (wd hw 6 rfl) (wd hw 34 rfl) (by decide) (Mo.exa (i := 1) rfl) (mt53 Z a0 hw h0 zc r99 SS z0 z1 h_0 h_1 g0 g1 a8 a6) (argsL := []) (rest := [(.int (0 : Int32))]) rfl (ps := []) (by decide +kernel) rfl rfl 1 rfl (by decide) (by decide) (by decide) (by decide) ?_
  rintro _ _ ⟨rfl, rfl⟩
  show Go B5_52 Z a0 h0 _ 0 0 [ar a8 .byte [(.int (nar .byte (z0.toInt8.toInt32))), (.int (nar .byte (z1.toInt8.toInt32)))], ob a6 "java/lang/String" [("java/lang/String", "value", "[B", (.ref a8)), ("java/lang/String", "coder", "B", (.int (0 : Int32)))]] 7 #[.val (.ref a6), .val (.int (0 : Int32))] [(.int (2 : Int32)), (.int (0 : Int32))]
  refine go_icmp 29 10 rfl (by decide) rfl d5_7 rfl (fun (hc7 : (2 : Int) ≤ (0 : Int)) => absurd hc7 (by decide)) (fun (hc7 : ¬ ((2 : Int) ≤ (0 : Int))) => ?_)
  refine go_aloadN 11 rfl d5_10 rfl rfl ?_
  refine go_iloadN 12 rfl d5_11 rfl ?_
  refine go_callV 15 rfl d5_12 (wd hw 54 rfl) (wd hw 55 rfl) (wd hw 57 rfl) (wd hw 56 rfl) (wd hw 6 rfl) (wd hw 58 rfl) (by decide) (Mo.exa (i := 1) rfl) (mt55 Z a0 hw h0 zc r99 SS z0 z1 h_0 h_1 g0 g1 a8 a6) (argsL := [(.int (0 : Int32))]) (rest := []) rfl (ps := [.int]) (by decide +kernel) rfl rfl 0 rfl (by decide) (by decide) (by decide) (by decide) ?_
  rintro _ _ ⟨rfl, rfl⟩
  show Go B5_52 Z a0 h0 _ 0 0 [ar a8 .byte [(.int (nar .byte (z0.toInt8.toInt32))), (.int (nar .byte (z1.toInt8.toInt32)))], ob a6 "java/lang/String" [("java/lang/String", "value", "[B", (.ref a8)), ("java/lang/String", "coder", "B", (.int (0 : Int32)))]] 15 #[.val (.ref a6), .val (.int (0 : Int32))] [(.int z0)]
  refine go_callS 18 rfl d5_15 (wd hw 76 rfl) (wd hw 77 rfl) (wd hw 28 rfl) (wd hw 78 rfl) (by decide) (m_isFieldValueChar Z a0 hw h0 [ar a8 .byte [(.int (nar .byte (z0.toInt8.toInt32))), (.int (nar .byte (z1.toInt8.toInt32)))], ob a6 "java/lang/String" [("java/lang/String", "value", "[B", (.ref a8)), ("java/lang/String", "coder", "B", (.int (0 : Int32)))]] z0) (argsL := [(.int z0)]) (rest := []) rfl (ps := [.int]) (by decide +kernel) rfl rfl 0 rfl (by decide) (by decide) (by decide) (by decide) ?_
  rintro _ _ ⟨z109, rfl, rfl, hz109⟩
  show Go B5_52 Z a0 h0 _ 0 0 [ar a8 .byte [(.int (nar .byte (z0.toInt8.toInt32))), (.int (nar .byte (z1.toInt8.toInt32)))], ob a6 "java/lang/String" [("java/lang/String", "value", "[B", (.ref a8)), ("java/lang/String", "coder", "B", (.int (0 : Int32)))]] 18 #[.val (.ref a6), .val (.int (0 : Int32))] [(.int z109)]
  refine go_if 23 21 rfl (by decide) rfl d5_18 rfl (fun (hc18_59 : z109.toInt ≠ 0) => ?_) (fun (hc18_59 : ¬ (z109.toInt ≠ 0)) => ?_)
  · refine go_iinc #[.val (.ref a6), .val (.int (1 : Int32))] 26 rfl d5_23 rfl rfl ?_
    refine go_goto 2 (by decide) rfl d5_26 ?_
    refine go_iloadN 3 rfl d5_2 rfl ?_
    refine go_aloadN 4 rfl d5_3 rfl rfl ?_
    refine go_callV 7 rfl d5_4 (wd hw 30 rfl) (wd hw 31 rfl) (wd hw 33 rfl) (wd hw 32 rfl) (wd hw 6 rfl) (wd hw 34 rfl) (by decide) (Mo.exa (i := 1) rfl) (mt53 Z a0 hw h0 zc r99 SS z0 z1 h_0 h_1 g0 g1 a8 a6) (argsL := []) (rest := [(.int (1 : Int32))]) rfl (ps := []) (by decide +kernel) rfl rfl 1 rfl (by decide) (by decide) (by decide) (by decide) ?_
    rintro _ _ ⟨rfl, rfl⟩
    show Go B5_52 Z a0 h0 _ 0 0 [ar a8 .byte [(.int (nar .byte (z0.toInt8.toInt32))), (.int (nar .byte (z1.toInt8.toInt32)))], ob a6 "java/lang/String" [("java/lang/String", "value", "[B", (.ref a8)), ("java/lang/String", "coder", "B", (.int (0 : Int32)))]] 7 #[.val (.ref a6), .val (.int (1 : Int32))] [(.int (2 : Int32)), (.int (1 : Int32))]
    refine go_icmp 29 10 rfl (by decide) rfl d5_7 rfl (fun (hc7 : (2 : Int) ≤ (1 : Int)) => absurd hc7 (by decide)) (fun (hc7 : ¬ ((2 : Int) ≤ (1 : Int))) => ?_)
    refine go_aloadN 11 rfl d5_10 rfl rfl ?_
    refine go_iloadN 12 rfl d5_11 rfl ?_
    refine go_callV 15 rfl d5_12 (wd hw 54 rfl) (wd hw 55 rfl) (wd hw 57 rfl) (wd hw 56 rfl) (wd hw 6 rfl) (wd hw 58 rfl) (by decide) (Mo.exa (i := 1) rfl) (mt61 Z a0 hw h0 zc r99 SS z0 z1 h_0 h_1 g0 g1 a8 a6) (argsL := [(.int (1 : Int32))]) (rest := []) rfl (ps := [.int]) (by decide +kernel) rfl rfl 0 rfl (by decide) (by decide) (by decide) (by decide) ?_
    rintro _ _ ⟨rfl, rfl⟩
    show Go B5_52 Z a0 h0 _ 0 0 [ar a8 .byte [(.int (nar .byte (z0.toInt8.toInt32))), (.int (nar .byte (z1.toInt8.toInt32)))], ob a6 "java/lang/String" [("java/lang/String", "value", "[B", (.ref a8)), ("java/lang/String", "coder", "B", (.int (0 : Int32)))]] 15 #[.val (.ref a6), .val (.int (1 : Int32))] [(.int z1)]
    refine go_callS 18 rfl d5_15 (wd hw 76 rfl) (wd hw 77 rfl) (wd hw 28 rfl) (wd hw 78 rfl) (by decide) (m_isFieldValueChar Z a0 hw h0 [ar a8 .byte [(.int (nar .byte (z0.toInt8.toInt32))), (.int (nar .byte (z1.toInt8.toInt32)))], ob a6 "java/lang/String" [("java/lang/String", "value", "[B", (.ref a8)), ("java/lang/String", "coder", "B", (.int (0 : Int32)))]] z1) (argsL := [(.int z1)]) (rest := []) rfl (ps := [.int]) (by decide +kernel) rfl rfl 0 rfl (by decide) (by decide) (by decide) (by decide) ?_
    rintro _ _ ⟨z110, rfl, rfl, hz110⟩
    show Go B5_52 Z a0 h0 _ 0 0 [ar a8 .byte [(.int (nar .byte (z0.toInt8.toInt32))), (.int (nar .byte (z1.toInt8.toInt32)))], ob a6 "java/lang/String" [("java/lang/String", "value", "[B", (.ref a8)), ("java/lang/String", "coder", "B", (.int (0 : Int32)))]] 18 #[.val (.ref a6), .val (.int (1 : Int32))] [(.int z110)]
    refine go_if 23 21 rfl (by decide) rfl d5_18 rfl (fun (hc18_64 : z110.toInt ≠ 0) => ?_) (fun (hc18_64 : ¬ (z110.toInt ≠ 0)) => ?_)
    · refine go_iinc #[.val (.ref a6), .val (.int (2 : Int32))] 26 rfl d5_23 rfl rfl ?_
      refine go_goto 2 (by decide) rfl d5_26 ?_
      refine go_iloadN 3 rfl d5_2 rfl ?_
      refine go_aloadN 4 rfl d5_3 rfl rfl ?_
      refine go_callV 7 rfl d5_4 (wd hw 30 rfl) (wd hw 31 rfl) (wd hw 33 rfl) (wd hw 32 rfl) (wd hw 6 rfl) (wd hw 34 rfl) (by decide) (Mo.exa (i := 1) rfl) (mt53 Z a0 hw h0 zc r99 SS z0 z1 h_0 h_1 g0 g1 a8 a6) (argsL := []) (rest := [(.int (2 : Int32))]) rfl (ps := []) (by decide +kernel) rfl rfl 1 rfl (by decide) (by decide) (by decide) (by decide) ?_
      rintro _ _ ⟨rfl, rfl⟩
      show Go B5_52 Z a0 h0 _ 0 0 [ar a8 .byte [(.int (nar .byte (z0.toInt8.toInt32))), (.int (nar .byte (z1.toInt8.toInt32)))], ob a6 "java/lang/String" [("java/lang/String", "value", "[B", (.ref a8)), ("java/lang/String", "coder", "B", (.int (0 : Int32)))]] 7 #[.val (.ref a6), .val (.int (2 : Int32))] [(.int (2 : Int32)), (.int (2 : Int32))]
      refine go_icmp 29 10 rfl (by decide) rfl d5_7 rfl (fun (hc7 : (2 : Int) ≤ (2 : Int)) => ?_) (fun (hc7 : ¬ ((2 : Int) ≤ (2 : Int))) => absurd hc7 (by decide))
      refine go_iconst (1 : Int32) 30 rfl d5_29 rfl ?_
      exact go_ireturn d5_30 rfl (Or.inr (Or.inl rfl)) rfl rfl (by decide) (by decide) ⟨_, rfl, rfl, Or.inl ⟨rfl, by omega⟩⟩
    · refine go_iconst (0 : Int32) 22 rfl d5_21 rfl ?_
      exact go_ireturn d5_22 rfl (Or.inr (Or.inl rfl)) rfl rfl (by decide) (by decide) ⟨_, rfl, rfl, Or.inr ⟨rfl, by omega⟩⟩
  · refine go_iconst (0 : Int32) 22 rfl d5_21 rfl ?_
    exact go_ireturn d5_22 rfl (Or.inr (Or.inl rfl)) rfl rfl (by decide) (by decide) ⟨_, rfl, rfl, Or.inr ⟨rfl, by omega⟩⟩
def B9_70 : Bdy := (⟨"java/lang/StringUTF16", "compress", "([CI[BII)I"⟩, jdk_52_method_21_code, 7, (some .int), ({ frames := 0, cells := 0, slots := 0, locals := 0 } : Room))
set_option maxRecDepth 65536 in
set_option maxHeartbeats 4000000 in
theorem mt70 (Z : State) (a0 : Array Value) (hw : ∀ d ∈ tables_1, d.before a0 Z = true) (h0 : Heap) (zc : Int32) (r99 : Value) (SS : Sts Z h0 zc r99) (z0 z1 : Int32) (h_0 : 0 ≤ z0.toInt ∧ z0.toInt ≤ 65535) (h_1 : 0 ≤ z1.toInt ∧ z1.toInt ≤ 65535) (g0 : z0.toInt ≤ 255) (g1 : ¬ z1.toInt ≤ 255) (a7 : Addr) (a309 : Addr) :
    Met B9_70 Z a0 h0 #[(.ref a7), (.int (0 : Int32)), (.ref a309), (.int (0 : Int32)), (.int (2 : Int32))] [ar a7 .char [(.int z0), (.int z1)], ar a309 .byte [(.int (0 : Int32)), (.int (0 : Int32))]] (Ret (some (.int (1 : Int32))) [ar a7 .char [(.int z0), (.int z1)], ar a309 .byte [(.int (nar .byte (z0.toInt8.toInt32))), (.int (0 : Int32))]]) := by
  refine Met.of pn9 (ls := #[.val (.ref a7), .val (.int (0 : Int32)), .val (.ref a309), .val (.int (0 : Int32)), .val (.int (2 : Int32)), .unset, .unset]) (fun m => by first | (simp [entryFrame, mkF, argsToLocals, Value.category, B9_70]; done) | rfl) ?_
  show Go B9_70 Z a0 h0 _ 0 0 [ar a7 .char [(.int z0), (.int z1)], ar a309 .byte [(.int (0 : Int32)), (.int (0 : Int32))]] 0 #[.val (.ref a7), .val (.int (0 : Int32)), .val (.ref a309), .val (.int (0 : Int32)), .val (.int (2 : Int32)), .unset, .unset] []
  refine go_iconst (0 : Int32) 1 rfl d9_0 rfl ?_
  refine go_istore #[.val (.ref a7), .val (.int (0 : Int32)), .val (.ref a309), .val (.int (0 : Int32)), .val (.int (2 : Int32)), .val (.int (0 : Int32)), .unset] 3 rfl d9_1 rfl rfl ?_
  refine go_iload 5 rfl d9_3 rfl ?_
  refine go_iload 7 rfl d9_5 rfl ?_
  refine go_icmp 44 10 rfl (by decide) rfl d9_7 rfl (fun (hc7 : (2 : Int) ≤ (0 : Int)) => absurd hc7 (by decide)) (fun (hc7 : ¬ ((2 : Int) ≤ (0 : Int))) => ?_)
  refine go_aloadN 11 rfl d9_10 rfl rfl ?_
  refine go_iloadN 12 rfl d9_11 rfl ?_
  refine go_caload 13 rfl d9_12 rfl (Mo.el (i := 0) rfl (by decide) rfl) ?_
  refine go_istore #[.val (.ref a7), .val (.int (0 : Int32)), .val (.ref a309), .val (.int (0 : Int32)), .val (.int (2 : Int32)), .val (.int (0 : Int32)), .val (.int z0)] 15 rfl d9_13 rfl rfl ?_
  refine go_iload 17 rfl d9_15 rfl ?_
  refine go_sipush (255 : Int32) 20 rfl d9_17 rfl ?_
  refine go_icmp 26 23 rfl (by decide) rfl d9_20 rfl (fun (hc20 : z0.toInt ≤ (255 : Int)) => ?_) (fun (hc20 : ¬ (z0.toInt ≤ (255 : Int))) => absurd hc20 (by omega))
  refine go_aloadN 27 rfl d9_26 rfl rfl ?_
  refine go_iloadN 28 rfl d9_27 rfl ?_
  refine go_iload 30 rfl d9_28 rfl ?_
  refine go_i2b 31 rfl d9_30 rfl ?_
  refine go_bastore 1 32 rfl d9_31 rfl rfl (by decide) (Nat.le_of_ble_eq_true rfl) ?_
  show Go B9_70 Z a0 h0 _ 0 0 [ar a7 .char [(.int z0), (.int z1)], ar a309 .byte [(.int (nar .byte (z0.toInt8.toInt32))), (.int (0 : Int32))]] 32 #[.val (.ref a7), .val (.int (0 : Int32)), .val (.ref a309), .val (.int (0 : Int32)), .val (.int (2 : Int32)), .val (.int (0 : Int32)), .val (.int z0)] []
  refine go_iinc #[.val (.ref a7), .val (.int (1 : Int32)), .val (.ref a309), .val (.int (0 : Int32)), .val (.int (2 : Int32)), .val (.int (0 : Int32)), .val (.int z0)] 35 rfl d9_32 rfl rfl ?_
  refine go_iinc #[.val (.ref a7), .val (.int (1 : Int32)), .val (.ref a309), .val (.int (1 : Int32)), .val (.int (2 : Int32)), .val (.int (0 : Int32)), .val (.int z0)] 38 rfl d9_35 rfl rfl ?_
  refine go_iinc #[.val (.ref a7), .val (.int (1 : Int32)), .val (.ref a309), .val (.int (1 : Int32)), .val (.int (2 : Int32)), .val (.int (1 : Int32)), .val (.int z0)] 41 rfl d9_38 rfl rfl ?_
  refine go_goto 3 (by decide) rfl d9_41 ?_
  refine go_iload 5 rfl d9_3 rfl ?_
  refine go_iload 7 rfl d9_5 rfl ?_
  refine go_icmp 44 10 rfl (by decide) rfl d9_7 rfl (fun (hc7 : (2 : Int) ≤ (1 : Int)) => absurd hc7 (by decide)) (fun (hc7 : ¬ ((2 : Int) ≤ (1 : Int))) => ?_)
  refine go_aloadN 11 rfl d9_10 rfl rfl ?_
  refine go_iloadN 12 rfl d9_11 rfl ?_
  refine go_caload 13 rfl d9_12 rfl (Mo.el (i := 0) rfl (by decide) rfl) ?_
  refine go_istore #[.val (.ref a7), .val (.int (1 : Int32)), .val (.ref a309), .val (.int (1 : Int32)), .val (.int (2 : Int32)), .val (.int (1 : Int32)), .val (.int z1)] 15 rfl d9_13 rfl rfl ?_
  refine go_iload 17 rfl d9_15 rfl ?_
  refine go_sipush (255 : Int32) 20 rfl d9_17 rfl ?_
  refine go_icmp 26 23 rfl (by decide) rfl d9_20 rfl (fun (hc20 : z1.toInt ≤ (255 : Int)) => absurd hc20 (by omega)) (fun (hc20 : ¬ (z1.toInt ≤ (255 : Int))) => ?_)
  refine go_iload 25 rfl d9_23 rfl ?_
  exact go_ireturn d9_25 rfl (Or.inl rfl) rfl rfl (by decide) (by decide) ⟨rfl, rfl⟩
def B20_73 : Bdy := (⟨"java/lang/StringUTF16", "newBytesLength", "(I)I"⟩, jdk_52_method_3_code, 1, (some .int), ({ frames := 0, cells := 0, slots := 0, locals := 0 } : Room))
set_option maxRecDepth 65536 in
set_option maxHeartbeats 4000000 in
theorem mt73 (Z : State) (a0 : Array Value) (hw : ∀ d ∈ tables_1, d.before a0 Z = true) (h0 : Heap) (zc : Int32) (r99 : Value) (SS : Sts Z h0 zc r99) (z0 z1 : Int32) (h_0 : 0 ≤ z0.toInt ∧ z0.toInt ≤ 65535) (h_1 : 0 ≤ z1.toInt ∧ z1.toInt ≤ 65535) :
    Met B20_73 Z a0 h0 #[(.int (2 : Int32))] [] (Ret (some (.int (4 : Int32))) []) := by
  refine Met.of pn20 (ls := #[.val (.int (2 : Int32))]) (fun m => by first | (simp [entryFrame, mkF, argsToLocals, Value.category, B20_73]; done) | rfl) ?_
  show Go B20_73 Z a0 h0 _ 0 0 [] 0 #[.val (.int (2 : Int32))] []
  refine go_iloadN 1 rfl d20_0 rfl ?_
  refine go_if 12 4 rfl (by decide) rfl d20_1 rfl (fun (hc1 : 0 ≤ (2 : Int)) => ?_) (fun (hc1 : ¬ (0 ≤ (2 : Int))) => absurd hc1 (by decide))
  refine go_iloadN 13 rfl d20_12 rfl ?_
  refine go_ldc (v := (1073741823 : Int32)) 15 rfl d20_13 (wd hw 89 rfl) ?_
  refine go_icmp 55 18 rfl (by decide) rfl d20_15 rfl (fun (hc15 : (2 : Int) < (1073741823 : Int)) => ?_) (fun (hc15 : ¬ ((2 : Int) < (1073741823 : Int))) => absurd hc15 (by decide))
  refine go_iloadN 56 rfl d20_55 rfl ?_
  refine go_iconst (1 : Int32) 57 rfl d20_56 rfl ?_
  refine go_ishl 58 rfl d20_57 rfl ?_
  show Go B20_73 Z a0 h0 _ 0 0 [] 58 #[.val (.int (2 : Int32))] [(.int (4 : Int32))]
  exact go_ireturn d20_58 rfl (Or.inl rfl) rfl rfl (by decide) (by decide) ⟨rfl, rfl⟩
def B19_72 : Bdy := (⟨"java/lang/StringUTF16", "newBytesFor", "(I)[B"⟩, jdk_52_method_2_code, 1, (some (.array .byte)), ({ frames := 1, cells := 1, slots := 4, locals := 12 } : Room))
set_option maxRecDepth 65536 in
set_option maxHeartbeats 4000000 in
theorem mt72 (Z : State) (a0 : Array Value) (hw : ∀ d ∈ tables_1, d.before a0 Z = true) (h0 : Heap) (zc : Int32) (r99 : Value) (SS : Sts Z h0 zc r99) (z0 z1 : Int32) (h_0 : 0 ≤ z0.toInt ∧ z0.toInt ≤ 65535) (h_1 : 0 ≤ z1.toInt ∧ z1.toInt ≤ 65535) :
    Met B19_72 Z a0 h0 #[(.int (2 : Int32))] [] (fun v ds => ∃ a510 : Addr, Ret (some (.ref a510)) [ar a510 .byte [(.int (0 : Int32)), (.int (0 : Int32)), (.int (0 : Int32)), (.int (0 : Int32))]] v ds) := by
  refine Met.of pn19 (ls := #[.val (.int (2 : Int32))]) (fun m => by first | (simp [entryFrame, mkF, argsToLocals, Value.category, B19_72]; done) | rfl) ?_
  show Go B19_72 Z a0 h0 _ 0 0 [] 0 #[.val (.int (2 : Int32))] []
  refine go_iloadN 1 rfl d19_0 rfl ?_
  refine go_callS 4 rfl d19_1 (wd hw 86 rfl) (wd hw 87 rfl) (wd hw 43 rfl) (wd hw 88 rfl) (by decide) (mt73 Z a0 hw h0 zc r99 SS z0 z1 h_0 h_1) (argsL := [(.int (2 : Int32))]) (rest := []) rfl (ps := [.int]) (by decide +kernel) rfl rfl 0 rfl (by decide) (by decide) (by decide) (by decide) ?_
  rintro _ _ ⟨rfl, rfl⟩
  show Go B19_72 Z a0 h0 _ 0 0 [] 4 #[.val (.int (2 : Int32))] [(.int (4 : Int32))]
  refine go_newarr 6 rfl d19_4 rfl (wd hw 19 rfl) (by decide) 4 (by decide) (by decide) (by decide) (by decide) (fun a510 => ?_)
  show Go B19_72 Z a0 h0 _ 1 4 [ar a510 .byte [(.int (0 : Int32)), (.int (0 : Int32)), (.int (0 : Int32)), (.int (0 : Int32))]] 6 #[.val (.int (2 : Int32))] [(.ref a510)]
  exact go_areturn d19_6 rfl rfl rfl rfl (by decide) (by decide) ⟨a510, rfl, rfl⟩
def B21_74 : Bdy := (⟨"java/lang/StringUTF16", "putChar", "([BII)V"⟩, jdk_52_method_4_code, 3, none, ({ frames := 0, cells := 0, slots := 0, locals := 0 } : Room))
set_option maxRecDepth 65536 in
set_option maxHeartbeats 4000000 in
theorem mt74 (Z : State) (a0 : Array Value) (hw : ∀ d ∈ tables_1, d.before a0 Z = true) (h0 : Heap) (zc : Int32) (r99 : Value) (SS : Sts Z h0 zc r99) (z0 z1 : Int32) (h_0 : 0 ≤ z0.toInt ∧ z0.toInt ≤ 65535) (h_1 : 0 ≤ z1.toInt ∧ z1.toInt ≤ 65535) (a410 : Addr) :
    Met B21_74 Z a0 h0 #[(.ref a410), (.int (0 : Int32)), (.int z0)] [ar a410 .byte [(.int (0 : Int32)), (.int (0 : Int32)), (.int (0 : Int32)), (.int (0 : Int32))]] (Ret none [ar a410 .byte [(.int (nar .byte ((z0 >>> ((0 : Int32) &&& 31)).toInt8.toInt32))), (.int (nar .byte ((z0 >>> ((8 : Int32) &&& 31)).toInt8.toInt32))), (.int (0 : Int32)), (.int (0 : Int32))]]) := by
  refine Met.of pn21 (ls := #[.val (.ref a410), .val (.int (0 : Int32)), .val (.int z0)]) (fun m => by first | (simp [entryFrame, mkF, argsToLocals, Value.category, B21_74]; done) | rfl) ?_
  show Go B21_74 Z a0 h0 _ 0 0 [ar a410 .byte [(.int (0 : Int32)), (.int (0 : Int32)), (.int (0 : Int32)), (.int (0 : Int32))]] 0 #[.val (.ref a410), .val (.int (0 : Int32)), .val (.int z0)] []
  refine go_getS 3 rfl d21_0 (wd hw 93 rfl) SS.2.2.2.2.1 ?_
  refine go_if 28 6 rfl (by decide) rfl d21_3 rfl (fun (hc3 : (1 : Int) ≠ 0) => ?_) (fun (hc3 : ¬ ((1 : Int) ≠ 0)) => absurd hc3 (by decide))
  refine go_iloadN 29 rfl d21_28 rfl ?_
  refine go_iconst (1 : Int32) 30 rfl d21_29 rfl ?_
  refine go_ishl 31 rfl d21_30 rfl ?_
  show Go B21_74 Z a0 h0 _ 0 0 [ar a410 .byte [(.int (0 : Int32)), (.int (0 : Int32)), (.int (0 : Int32)), (.int (0 : Int32))]] 31 #[.val (.ref a410), .val (.int (0 : Int32)), .val (.int z0)] [(.int (0 : Int32))]
  refine go_istoreN #[.val (.ref a410), .val (.int (0 : Int32)), .val (.int z0)] 32 rfl d21_31 rfl rfl ?_
  refine go_aloadN 33 rfl d21_32 rfl rfl ?_
  refine go_iloadN 34 rfl d21_33 rfl ?_
  refine go_iinc #[.val (.ref a410), .val (.int (1 : Int32)), .val (.int z0)] 37 rfl d21_34 rfl rfl ?_
  refine go_iloadN 38 rfl d21_37 rfl ?_
  refine go_getS 41 rfl d21_38 (wd hw 94 rfl) SS.2.2.2.2.2.1 ?_
  refine go_ishr 42 rfl d21_41 rfl ?_
  refine go_i2b 43 rfl d21_42 rfl ?_
  refine go_bastore 0 44 rfl d21_43 rfl rfl (by decide) (Nat.le_of_ble_eq_true rfl) ?_
  show Go B21_74 Z a0 h0 _ 0 0 [ar a410 .byte [(.int (nar .byte ((z0 >>> ((0 : Int32) &&& 31)).toInt8.toInt32))), (.int (0 : Int32)), (.int (0 : Int32)), (.int (0 : Int32))]] 44 #[.val (.ref a410), .val (.int (1 : Int32)), .val (.int z0)] []
  refine go_aloadN 45 rfl d21_44 rfl rfl ?_
  refine go_iloadN 46 rfl d21_45 rfl ?_
  refine go_iloadN 47 rfl d21_46 rfl ?_
  refine go_getS 50 rfl d21_47 (wd hw 95 rfl) SS.2.2.2.2.2.2 ?_
  refine go_ishr 51 rfl d21_50 rfl ?_
  refine go_i2b 52 rfl d21_51 rfl ?_
  refine go_bastore 0 53 rfl d21_52 rfl rfl (by decide) (Nat.le_of_ble_eq_true rfl) ?_
  show Go B21_74 Z a0 h0 _ 0 0 [ar a410 .byte [(.int (nar .byte ((z0 >>> ((0 : Int32) &&& 31)).toInt8.toInt32))), (.int (nar .byte ((z0 >>> ((8 : Int32) &&& 31)).toInt8.toInt32))), (.int (0 : Int32)), (.int (0 : Int32))]] 53 #[.val (.ref a410), .val (.int (1 : Int32)), .val (.int z0)] []
  exact go_return d21_53 rfl rfl (by decide) (by decide) ⟨rfl, rfl⟩
def B21_75 : Bdy := (⟨"java/lang/StringUTF16", "putChar", "([BII)V"⟩, jdk_52_method_4_code, 3, none, ({ frames := 0, cells := 0, slots := 0, locals := 0 } : Room))
set_option maxRecDepth 65536 in
set_option maxHeartbeats 4000000 in
theorem mt75 (Z : State) (a0 : Array Value) (hw : ∀ d ∈ tables_1, d.before a0 Z = true) (h0 : Heap) (zc : Int32) (r99 : Value) (SS : Sts Z h0 zc r99) (z0 z1 : Int32) (h_0 : 0 ≤ z0.toInt ∧ z0.toInt ≤ 65535) (h_1 : 0 ≤ z1.toInt ∧ z1.toInt ≤ 65535) (a410 : Addr) :
    Met B21_75 Z a0 h0 #[(.ref a410), (.int (1 : Int32)), (.int z1)] [ar a410 .byte [(.int (nar .byte ((z0 >>> ((0 : Int32) &&& 31)).toInt8.toInt32))), (.int (nar .byte ((z0 >>> ((8 : Int32) &&& 31)).toInt8.toInt32))), (.int (0 : Int32)), (.int (0 : Int32))]] (Ret none [ar a410 .byte [(.int (nar .byte ((z0 >>> ((0 : Int32) &&& 31)).toInt8.toInt32))), (.int (nar .byte ((z0 >>> ((8 : Int32) &&& 31)).toInt8.toInt32))), (.int (nar .byte ((z1 >>> ((0 : Int32) &&& 31)).toInt8.toInt32))), (.int (nar .byte ((z1 >>> ((8 : Int32) &&& 31)).toInt8.toInt32)))]]) := by
  refine Met.of pn21 (ls := #[.val (.ref a410), .val (.int (1 : Int32)), .val (.int z1)]) (fun m => by first | (simp [entryFrame, mkF, argsToLocals, Value.category, B21_75]; done) | rfl) ?_
  show Go B21_75 Z a0 h0 _ 0 0 [ar a410 .byte [(.int (nar .byte ((z0 >>> ((0 : Int32) &&& 31)).toInt8.toInt32))), (.int (nar .byte ((z0 >>> ((8 : Int32) &&& 31)).toInt8.toInt32))), (.int (0 : Int32)), (.int (0 : Int32))]] 0 #[.val (.ref a410), .val (.int (1 : Int32)), .val (.int z1)] []
  refine go_getS 3 rfl d21_0 (wd hw 93 rfl) SS.2.2.2.2.1 ?_
  refine go_if 28 6 rfl (by decide) rfl d21_3 rfl (fun (hc3 : (1 : Int) ≠ 0) => ?_) (fun (hc3 : ¬ ((1 : Int) ≠ 0)) => absurd hc3 (by decide))
  refine go_iloadN 29 rfl d21_28 rfl ?_
  refine go_iconst (1 : Int32) 30 rfl d21_29 rfl ?_
  refine go_ishl 31 rfl d21_30 rfl ?_
  show Go B21_75 Z a0 h0 _ 0 0 [ar a410 .byte [(.int (nar .byte ((z0 >>> ((0 : Int32) &&& 31)).toInt8.toInt32))), (.int (nar .byte ((z0 >>> ((8 : Int32) &&& 31)).toInt8.toInt32))), (.int (0 : Int32)), (.int (0 : Int32))]] 31 #[.val (.ref a410), .val (.int (1 : Int32)), .val (.int z1)] [(.int (2 : Int32))]
  refine go_istoreN #[.val (.ref a410), .val (.int (2 : Int32)), .val (.int z1)] 32 rfl d21_31 rfl rfl ?_
  refine go_aloadN 33 rfl d21_32 rfl rfl ?_
  refine go_iloadN 34 rfl d21_33 rfl ?_
  refine go_iinc #[.val (.ref a410), .val (.int (3 : Int32)), .val (.int z1)] 37 rfl d21_34 rfl rfl ?_
  refine go_iloadN 38 rfl d21_37 rfl ?_
  refine go_getS 41 rfl d21_38 (wd hw 94 rfl) SS.2.2.2.2.2.1 ?_
  refine go_ishr 42 rfl d21_41 rfl ?_
  refine go_i2b 43 rfl d21_42 rfl ?_
  refine go_bastore 0 44 rfl d21_43 rfl rfl (by decide) (Nat.le_of_ble_eq_true rfl) ?_
  show Go B21_75 Z a0 h0 _ 0 0 [ar a410 .byte [(.int (nar .byte ((z0 >>> ((0 : Int32) &&& 31)).toInt8.toInt32))), (.int (nar .byte ((z0 >>> ((8 : Int32) &&& 31)).toInt8.toInt32))), (.int (nar .byte ((z1 >>> ((0 : Int32) &&& 31)).toInt8.toInt32))), (.int (0 : Int32))]] 44 #[.val (.ref a410), .val (.int (3 : Int32)), .val (.int z1)] []
  refine go_aloadN 45 rfl d21_44 rfl rfl ?_
  refine go_iloadN 46 rfl d21_45 rfl ?_
  refine go_iloadN 47 rfl d21_46 rfl ?_
  refine go_getS 50 rfl d21_47 (wd hw 95 rfl) SS.2.2.2.2.2.2 ?_
  refine go_ishr 51 rfl d21_50 rfl ?_
  refine go_i2b 52 rfl d21_51 rfl ?_
  refine go_bastore 0 53 rfl d21_52 rfl rfl (by decide) (Nat.le_of_ble_eq_true rfl) ?_
  show Go B21_75 Z a0 h0 _ 0 0 [ar a410 .byte [(.int (nar .byte ((z0 >>> ((0 : Int32) &&& 31)).toInt8.toInt32))), (.int (nar .byte ((z0 >>> ((8 : Int32) &&& 31)).toInt8.toInt32))), (.int (nar .byte ((z1 >>> ((0 : Int32) &&& 31)).toInt8.toInt32))), (.int (nar .byte ((z1 >>> ((8 : Int32) &&& 31)).toInt8.toInt32)))]] 53 #[.val (.ref a410), .val (.int (3 : Int32)), .val (.int z1)] []
  exact go_return d21_53 rfl rfl (by decide) (by decide) ⟨rfl, rfl⟩
def B18_71 : Bdy := (⟨"java/lang/StringUTF16", "toBytes", "([CII)[B"⟩, jdk_52_method_14_code, 5, (some (.array .byte)), ({ frames := 2, cells := 1, slots := 4, locals := 24 } : Room))
set_option maxRecDepth 65536 in
set_option maxHeartbeats 4000000 in
theorem mt71 (Z : State) (a0 : Array Value) (hw : ∀ d ∈ tables_1, d.before a0 Z = true) (h0 : Heap) (zc : Int32) (r99 : Value) (SS : Sts Z h0 zc r99) (z0 z1 : Int32) (h_0 : 0 ≤ z0.toInt ∧ z0.toInt ≤ 65535) (h_1 : 0 ≤ z1.toInt ∧ z1.toInt ≤ 65535) (a7 : Addr) :
    Met B18_71 Z a0 h0 #[(.ref a7), (.int (0 : Int32)), (.int (2 : Int32))] [ar a7 .char [(.int z0), (.int z1)]] (fun v ds => ∃ a410 : Addr, Ret (some (.ref a410)) [ar a410 .byte [(.int (nar .byte ((z0 >>> ((0 : Int32) &&& 31)).toInt8.toInt32))), (.int (nar .byte ((z0 >>> ((8 : Int32) &&& 31)).toInt8.toInt32))), (.int (nar .byte ((z1 >>> ((0 : Int32) &&& 31)).toInt8.toInt32))), (.int (nar .byte ((z1 >>> ((8 : Int32) &&& 31)).toInt8.toInt32)))], ar a7 .char [(.int z0), (.int z1)]] v ds) := by
  refine Met.of pn18 (ls := #[.val (.ref a7), .val (.int (0 : Int32)), .val (.int (2 : Int32)), .unset, .unset]) (fun m => by first | (simp [entryFrame, mkF, argsToLocals, Value.category, B18_71]; done) | rfl) ?_
  show Go B18_71 Z a0 h0 _ 0 0 [ar a7 .char [(.int z0), (.int z1)]] 0 #[.val (.ref a7), .val (.int (0 : Int32)), .val (.int (2 : Int32)), .unset, .unset] []
  refine go_iloadN 1 rfl d18_0 rfl ?_
  refine go_callS 4 rfl d18_1 (wd hw 83 rfl) (wd hw 84 rfl) (wd hw 43 rfl) (wd hw 85 rfl) (by decide) (Met.frame [ar a7 .char [(.int z0), (.int z1)]] (mt72 Z a0 hw h0 zc r99 SS z0 z1 h_0 h_1)) (argsL := [(.int (2 : Int32))]) (rest := []) rfl (ps := [.int]) (by decide +kernel) rfl rfl 0 rfl (by decide) (by decide) (by decide) (by decide) ?_
  rintro _ _ ⟨_, ⟨a410, rfl, rfl⟩, rfl⟩
  show Go B18_71 Z a0 h0 _ 1 4 [ar a410 .byte [(.int (0 : Int32)), (.int (0 : Int32)), (.int (0 : Int32)), (.int (0 : Int32))], ar a7 .char [(.int z0), (.int z1)]] 4 #[.val (.ref a7), .val (.int (0 : Int32)), .val (.int (2 : Int32)), .unset, .unset] [(.ref a410)]
  refine go_astoreN #[.val (.ref a7), .val (.int (0 : Int32)), .val (.int (2 : Int32)), .val (.ref a410), .unset] 5 rfl d18_4 rfl rfl rfl ?_
  refine go_iconst (0 : Int32) 6 rfl d18_5 rfl ?_
  refine go_istore #[.val (.ref a7), .val (.int (0 : Int32)), .val (.int (2 : Int32)), .val (.ref a410), .val (.int (0 : Int32))] 8 rfl d18_6 rfl rfl ?_
  refine go_iload 10 rfl d18_8 rfl ?_
  refine go_iloadN 11 rfl d18_10 rfl ?_
  refine go_icmp 32 14 rfl (by decide) rfl d18_11 rfl (fun (hc11 : (2 : Int) ≤ (0 : Int)) => absurd hc11 (by decide)) (fun (hc11 : ¬ ((2 : Int) ≤ (0 : Int))) => ?_)
  refine go_aloadN 15 rfl d18_14 rfl rfl ?_
  refine go_iload 17 rfl d18_15 rfl ?_
  refine go_aloadN 18 rfl d18_17 rfl rfl ?_
  refine go_iloadN 19 rfl d18_18 rfl ?_
  refine go_caload 20 rfl d18_19 rfl (Mo.el (i := 1) rfl (by decide) rfl) ?_
  refine go_callS 23 rfl d18_20 (wd hw 90 rfl) (wd hw 91 rfl) (wd hw 43 rfl) (wd hw 92 rfl) (by decide) (Met.frame [ar a7 .char [(.int z0), (.int z1)]] (mt74 Z a0 hw h0 zc r99 SS z0 z1 h_0 h_1 a410)) (argsL := [(.ref a410), (.int (0 : Int32)), (.int z0)]) (rest := []) rfl (ps := [(.array .byte), .int, .int]) (by decide +kernel) rfl rfl 0 rfl (by decide) (by decide) (by decide) (by decide) ?_
  rintro _ _ ⟨_, ⟨rfl, rfl⟩, rfl⟩
  show Go B18_71 Z a0 h0 _ 1 4 [ar a410 .byte [(.int (nar .byte ((z0 >>> ((0 : Int32) &&& 31)).toInt8.toInt32))), (.int (nar .byte ((z0 >>> ((8 : Int32) &&& 31)).toInt8.toInt32))), (.int (0 : Int32)), (.int (0 : Int32))], ar a7 .char [(.int z0), (.int z1)]] 23 #[.val (.ref a7), .val (.int (0 : Int32)), .val (.int (2 : Int32)), .val (.ref a410), .val (.int (0 : Int32))] []
  refine go_iinc #[.val (.ref a7), .val (.int (1 : Int32)), .val (.int (2 : Int32)), .val (.ref a410), .val (.int (0 : Int32))] 26 rfl d18_23 rfl rfl ?_
  refine go_iinc #[.val (.ref a7), .val (.int (1 : Int32)), .val (.int (2 : Int32)), .val (.ref a410), .val (.int (1 : Int32))] 29 rfl d18_26 rfl rfl ?_
  refine go_goto 8 (by decide) rfl d18_29 ?_
  refine go_iload 10 rfl d18_8 rfl ?_
  refine go_iloadN 11 rfl d18_10 rfl ?_
  refine go_icmp 32 14 rfl (by decide) rfl d18_11 rfl (fun (hc11 : (2 : Int) ≤ (1 : Int)) => absurd hc11 (by decide)) (fun (hc11 : ¬ ((2 : Int) ≤ (1 : Int))) => ?_)
  refine go_aloadN 15 rfl d18_14 rfl rfl ?_
  refine go_iload 17 rfl d18_15 rfl ?_
  refine go_aloadN 18 rfl d18_17 rfl rfl ?_
  refine go_iloadN 19 rfl d18_18 rfl ?_
  refine go_caload 20 rfl d18_19 rfl (Mo.el (i := 1) rfl (by decide) rfl) ?_
  refine go_callS 23 rfl d18_20 (wd hw 90 rfl) (wd hw 91 rfl) (wd hw 43 rfl) (wd hw 92 rfl) (by decide) (Met.frame [ar a7 .char [(.int z0), (.int z1)]] (mt75 Z a0 hw h0 zc r99 SS z0 z1 h_0 h_1 a410)) (argsL := [(.ref a410), (.int (1 : Int32)), (.int z1)]) (rest := []) rfl (ps := [(.array .byte), .int, .int]) (by decide +kernel) rfl rfl 0 rfl (by decide) (by decide) (by decide) (by decide) ?_
  rintro _ _ ⟨_, ⟨rfl, rfl⟩, rfl⟩
  show Go B18_71 Z a0 h0 _ 1 4 [ar a410 .byte [(.int (nar .byte ((z0 >>> ((0 : Int32) &&& 31)).toInt8.toInt32))), (.int (nar .byte ((z0 >>> ((8 : Int32) &&& 31)).toInt8.toInt32))), (.int (nar .byte ((z1 >>> ((0 : Int32) &&& 31)).toInt8.toInt32))), (.int (nar .byte ((z1 >>> ((8 : Int32) &&& 31)).toInt8.toInt32)))], ar a7 .char [(.int z0), (.int z1)]] 23 #[.val (.ref a7), .val (.int (1 : Int32)), .val (.int (2 : Int32)), .val (.ref a410), .val (.int (1 : Int32))] []
  refine go_iinc #[.val (.ref a7), .val (.int (2 : Int32)), .val (.int (2 : Int32)), .val (.ref a410), .val (.int (1 : Int32))] 26 rfl d18_23 rfl rfl ?_
  refine go_iinc #[.val (.ref a7), .val (.int (2 : Int32)), .val (.int (2 : Int32)), .val (.ref a410), .val (.int (2 : Int32))] 29 rfl d18_26 rfl rfl ?_
  refine go_goto 8 (by decide) rfl d18_29 ?_
  refine go_iload 10 rfl d18_8 rfl ?_
  refine go_iloadN 11 rfl d18_10 rfl ?_
  refine go_icmp 32 14 rfl (by decide) rfl d18_11 rfl (fun (hc11 : (2 : Int) ≤ (2 : Int)) => ?_) (fun (hc11 : ¬ ((2 : Int) ≤ (2 : Int))) => absurd hc11 (by decide))
  refine go_aloadN 33 rfl d18_32 rfl rfl ?_
  exact go_areturn d18_33 rfl rfl rfl rfl (by decide) (by decide) ⟨a410, rfl, rfl⟩
def B22_76 : Bdy := (⟨"java/lang/StringUTF16", "getChar", "([BI)C"⟩, jdk_52_method_5_code, 2, (some .char), ({ frames := 0, cells := 0, slots := 0, locals := 0 } : Room))
set_option maxRecDepth 65536 in
set_option maxHeartbeats 4000000 in
theorem mt76 (Z : State) (a0 : Array Value) (hw : ∀ d ∈ tables_1, d.before a0 Z = true) (h0 : Heap) (zc : Int32) (r99 : Value) (SS : Sts Z h0 zc r99) (z0 z1 : Int32) (h_0 : 0 ≤ z0.toInt ∧ z0.toInt ≤ 65535) (h_1 : 0 ≤ z1.toInt ∧ z1.toInt ≤ 65535) (a310 : Addr) :
    Met B22_76 Z a0 h0 #[(.ref a310), (.int (1 : Int32))] [ar a310 .byte [(.int (nar .byte ((z0 >>> ((0 : Int32) &&& 31)).toInt8.toInt32))), (.int (nar .byte ((z0 >>> ((8 : Int32) &&& 31)).toInt8.toInt32))), (.int (nar .byte ((z1 >>> ((0 : Int32) &&& 31)).toInt8.toInt32))), (.int (nar .byte ((z1 >>> ((8 : Int32) &&& 31)).toInt8.toInt32)))]] (Ret (some (.int z1)) [ar a310 .byte [(.int (nar .byte ((z0 >>> ((0 : Int32) &&& 31)).toInt8.toInt32))), (.int (nar .byte ((z0 >>> ((8 : Int32) &&& 31)).toInt8.toInt32))), (.int (nar .byte ((z1 >>> ((0 : Int32) &&& 31)).toInt8.toInt32))), (.int (nar .byte ((z1 >>> ((8 : Int32) &&& 31)).toInt8.toInt32)))]]) := by
  refine Met.of pn22 (ls := #[.val (.ref a310), .val (.int (1 : Int32))]) (fun m => by first | (simp [entryFrame, mkF, argsToLocals, Value.category, B22_76]; done) | rfl) ?_
  show Go B22_76 Z a0 h0 _ 0 0 [ar a310 .byte [(.int (nar .byte ((z0 >>> ((0 : Int32) &&& 31)).toInt8.toInt32))), (.int (nar .byte ((z0 >>> ((8 : Int32) &&& 31)).toInt8.toInt32))), (.int (nar .byte ((z1 >>> ((0 : Int32) &&& 31)).toInt8.toInt32))), (.int (nar .byte ((z1 >>> ((8 : Int32) &&& 31)).toInt8.toInt32)))]] 0 #[.val (.ref a310), .val (.int (1 : Int32))] []
  refine go_getS 3 rfl d22_0 (wd hw 93 rfl) SS.2.2.2.2.1 ?_
  refine go_if 28 6 rfl (by decide) rfl d22_3 rfl (fun (hc3 : (1 : Int) ≠ 0) => ?_) (fun (hc3 : ¬ ((1 : Int) ≠ 0)) => absurd hc3 (by decide))
  refine go_iloadN 29 rfl d22_28 rfl ?_
  refine go_iconst (1 : Int32) 30 rfl d22_29 rfl ?_
  refine go_ishl 31 rfl d22_30 rfl ?_
  show Go B22_76 Z a0 h0 _ 0 0 [ar a310 .byte [(.int (nar .byte ((z0 >>> ((0 : Int32) &&& 31)).toInt8.toInt32))), (.int (nar .byte ((z0 >>> ((8 : Int32) &&& 31)).toInt8.toInt32))), (.int (nar .byte ((z1 >>> ((0 : Int32) &&& 31)).toInt8.toInt32))), (.int (nar .byte ((z1 >>> ((8 : Int32) &&& 31)).toInt8.toInt32)))]] 31 #[.val (.ref a310), .val (.int (1 : Int32))] [(.int (2 : Int32))]
  refine go_istoreN #[.val (.ref a310), .val (.int (2 : Int32))] 32 rfl d22_31 rfl rfl ?_
  refine go_aloadN 33 rfl d22_32 rfl rfl ?_
  refine go_iloadN 34 rfl d22_33 rfl ?_
  refine go_iinc #[.val (.ref a310), .val (.int (3 : Int32))] 37 rfl d22_34 rfl rfl ?_
  refine go_baload 38 rfl d22_37 rfl (Mo.el (i := 0) rfl (by decide) rfl) ?_
  refine go_sipush (255 : Int32) 41 rfl d22_38 rfl ?_
  refine go_iand 42 rfl d22_41 rfl ?_
  refine go_getS 45 rfl d22_42 (wd hw 94 rfl) SS.2.2.2.2.2.1 ?_
  refine go_ishl 46 rfl d22_45 rfl ?_
  refine go_aloadN 47 rfl d22_46 rfl rfl ?_
  refine go_iloadN 48 rfl d22_47 rfl ?_
  refine go_baload 49 rfl d22_48 rfl (Mo.el (i := 0) rfl (by decide) rfl) ?_
  refine go_sipush (255 : Int32) 52 rfl d22_49 rfl ?_
  refine go_iand 53 rfl d22_52 rfl ?_
  refine go_getS 56 rfl d22_53 (wd hw 95 rfl) SS.2.2.2.2.2.2 ?_
  refine go_ishl 57 rfl d22_56 rfl ?_
  refine go_ior 58 rfl d22_57 rfl ?_
  refine go_i2c 59 rfl d22_58 rfl ?_
  exact go_ireturn d22_59 rfl (Or.inr (Or.inr (Or.inr (Or.inl rfl)))) rfl (congrArg Value.int (nar_c _)) (by decide) (by decide) (by rw [utf z1 h_1]; exact ⟨rfl, rfl⟩)
def B8_69 : Bdy := (⟨"java/lang/StringUTF16", "compress", "([CII)[B"⟩, jdk_52_method_16_code, 6, (some (.array .byte)), ({ frames := 3, cells := 2, slots := 6, locals := 40 } : Room))
set_option maxRecDepth 65536 in
set_option maxHeartbeats 4000000 in
theorem mt69 (Z : State) (a0 : Array Value) (hw : ∀ d ∈ tables_1, d.before a0 Z = true) (h0 : Heap) (zc : Int32) (r99 : Value) (SS : Sts Z h0 zc r99) (z0 z1 : Int32) (h_0 : 0 ≤ z0.toInt ∧ z0.toInt ≤ 65535) (h_1 : 0 ≤ z1.toInt ∧ z1.toInt ≤ 65535) (g0 : z0.toInt ≤ 255) (g1 : ¬ z1.toInt ≤ 255) (a7 : Addr) :
    Met B8_69 Z a0 h0 #[(.ref a7), (.int (0 : Int32)), (.int (2 : Int32))] [ar a7 .char [(.int z0), (.int z1)]] (fun v ds => ∃ a310 a309 : Addr, Ret (some (.ref a310)) [ar a310 .byte [(.int (nar .byte ((z0 >>> ((0 : Int32) &&& 31)).toInt8.toInt32))), (.int (nar .byte ((z0 >>> ((8 : Int32) &&& 31)).toInt8.toInt32))), (.int (nar .byte ((z1 >>> ((0 : Int32) &&& 31)).toInt8.toInt32))), (.int (nar .byte ((z1 >>> ((8 : Int32) &&& 31)).toInt8.toInt32)))], ar a7 .char [(.int z0), (.int z1)], ar a309 .byte [(.int (nar .byte (z0.toInt8.toInt32))), (.int (0 : Int32))]] v ds) := by
  refine Met.of pn8 (ls := #[.val (.ref a7), .val (.int (0 : Int32)), .val (.int (2 : Int32)), .unset, .unset, .unset]) (fun m => by first | (simp [entryFrame, mkF, argsToLocals, Value.category, B8_69]; done) | rfl) ?_
  show Go B8_69 Z a0 h0 _ 0 0 [ar a7 .char [(.int z0), (.int z1)]] 0 #[.val (.ref a7), .val (.int (0 : Int32)), .val (.int (2 : Int32)), .unset, .unset, .unset] []
  refine go_iloadN 1 rfl d8_0 rfl ?_
  refine go_newarr 3 rfl d8_1 rfl (wd hw 19 rfl) (by decide) 2 (by decide) (by decide) (by decide) (by decide) (fun a309 => ?_)
  show Go B8_69 Z a0 h0 _ 1 2 [ar a7 .char [(.int z0), (.int z1)], ar a309 .byte [(.int (0 : Int32)), (.int (0 : Int32))]] 3 #[.val (.ref a7), .val (.int (0 : Int32)), .val (.int (2 : Int32)), .unset, .unset, .unset] [(.ref a309)]
  refine go_astoreN #[.val (.ref a7), .val (.int (0 : Int32)), .val (.int (2 : Int32)), .val (.ref a309), .unset, .unset] 4 rfl d8_3 rfl rfl rfl ?_
  refine go_aloadN 5 rfl d8_4 rfl rfl ?_
  refine go_iloadN 6 rfl d8_5 rfl ?_
  refine go_aloadN 7 rfl d8_6 rfl rfl ?_
  refine go_iconst (0 : Int32) 8 rfl d8_7 rfl ?_
  refine go_iloadN 9 rfl d8_8 rfl ?_
  refine go_callS 12 rfl d8_9 (wd hw 45 rfl) (wd hw 46 rfl) (wd hw 43 rfl) (wd hw 47 rfl) (by decide) (mt70 Z a0 hw h0 zc r99 SS z0 z1 h_0 h_1 g0 g1 a7 a309) (argsL := [(.ref a7), (.int (0 : Int32)), (.ref a309), (.int (0 : Int32)), (.int (2 : Int32))]) (rest := []) rfl (ps := [(.array .char), .int, (.array .byte), .int, .int]) (by decide +kernel) rfl rfl 0 rfl (by decide) (by decide) (by decide) (by decide) ?_
  rintro _ _ ⟨rfl, rfl⟩
  show Go B8_69 Z a0 h0 _ 1 2 [ar a7 .char [(.int z0), (.int z1)], ar a309 .byte [(.int (nar .byte (z0.toInt8.toInt32))), (.int (0 : Int32))]] 12 #[.val (.ref a7), .val (.int (0 : Int32)), .val (.int (2 : Int32)), .val (.ref a309), .unset, .unset] [(.int (1 : Int32))]
  refine go_istore #[.val (.ref a7), .val (.int (0 : Int32)), .val (.int (2 : Int32)), .val (.ref a309), .val (.int (1 : Int32)), .unset] 14 rfl d8_12 rfl rfl ?_
  refine go_iload 16 rfl d8_14 rfl ?_
  refine go_iloadN 17 rfl d8_16 rfl ?_
  refine go_icmp 57 20 rfl (by decide) rfl d8_17 rfl (fun (hc17 : (1 : Int) = (2 : Int)) => absurd hc17 (by decide)) (fun (hc17 : ¬ ((1 : Int) = (2 : Int))) => ?_)
  refine go_aloadN 21 rfl d8_20 rfl rfl ?_
  refine go_iloadN 22 rfl d8_21 rfl ?_
  refine go_iloadN 23 rfl d8_22 rfl ?_
  refine go_callS 26 rfl d8_23 (wd hw 80 rfl) (wd hw 81 rfl) (wd hw 43 rfl) (wd hw 82 rfl) (by decide) (Met.frame [ar a309 .byte [(.int (nar .byte (z0.toInt8.toInt32))), (.int (0 : Int32))]] (mt71 Z a0 hw h0 zc r99 SS z0 z1 h_0 h_1 a7)) (argsL := [(.ref a7), (.int (0 : Int32)), (.int (2 : Int32))]) (rest := []) rfl (ps := [(.array .char), .int, .int]) (by decide +kernel) rfl rfl 0 rfl (by decide) (by decide) (by decide) (by decide) ?_
  rintro _ _ ⟨_, ⟨a310, rfl, rfl⟩, rfl⟩
  show Go B8_69 Z a0 h0 _ 2 6 [ar a310 .byte [(.int (nar .byte ((z0 >>> ((0 : Int32) &&& 31)).toInt8.toInt32))), (.int (nar .byte ((z0 >>> ((8 : Int32) &&& 31)).toInt8.toInt32))), (.int (nar .byte ((z1 >>> ((0 : Int32) &&& 31)).toInt8.toInt32))), (.int (nar .byte ((z1 >>> ((8 : Int32) &&& 31)).toInt8.toInt32)))], ar a7 .char [(.int z0), (.int z1)], ar a309 .byte [(.int (nar .byte (z0.toInt8.toInt32))), (.int (0 : Int32))]] 26 #[.val (.ref a7), .val (.int (0 : Int32)), .val (.int (2 : Int32)), .val (.ref a309), .val (.int (1 : Int32)), .unset] [(.ref a310)]
  refine go_astore #[.val (.ref a7), .val (.int (0 : Int32)), .val (.int (2 : Int32)), .val (.ref a309), .val (.int (1 : Int32)), .val (.ref a310)] 28 rfl d8_26 rfl rfl rfl ?_
  refine go_aload 30 rfl d8_28 rfl rfl ?_
  refine go_iload 32 rfl d8_30 rfl ?_
  refine go_callS 35 rfl d8_32 (wd hw 96 rfl) (wd hw 97 rfl) (wd hw 43 rfl) (wd hw 98 rfl) (by decide) (Met.frame [ar a7 .char [(.int z0), (.int z1)], ar a309 .byte [(.int (nar .byte (z0.toInt8.toInt32))), (.int (0 : Int32))]] (mt76 Z a0 hw h0 zc r99 SS z0 z1 h_0 h_1 a310)) (argsL := [(.ref a310), (.int (1 : Int32))]) (rest := []) rfl (ps := [(.array .byte), .int]) (by decide +kernel) rfl rfl 0 rfl (by decide) (by decide) (by decide) (by decide) ?_
  rintro _ _ ⟨_, ⟨rfl, rfl⟩, rfl⟩
  show Go B8_69 Z a0 h0 _ 2 6 [ar a310 .byte [(.int (nar .byte ((z0 >>> ((0 : Int32) &&& 31)).toInt8.toInt32))), (.int (nar .byte ((z0 >>> ((8 : Int32) &&& 31)).toInt8.toInt32))), (.int (nar .byte ((z1 >>> ((0 : Int32) &&& 31)).toInt8.toInt32))), (.int (nar .byte ((z1 >>> ((8 : Int32) &&& 31)).toInt8.toInt32)))], ar a7 .char [(.int z0), (.int z1)], ar a309 .byte [(.int (nar .byte (z0.toInt8.toInt32))), (.int (0 : Int32))]] 35 #[.val (.ref a7), .val (.int (0 : Int32)), .val (.int (2 : Int32)), .val (.ref a309), .val (.int (1 : Int32)), .val (.ref a310)] [(.int z1)]
  refine go_sipush (255 : Int32) 38 rfl d8_35 rfl ?_
  refine go_icmp 54 41 rfl (by decide) rfl d8_38 rfl (fun (hc38 : (255 : Int) < z1.toInt) => ?_) (fun (hc38 : ¬ ((255 : Int) < z1.toInt)) => absurd hc38 (by omega))
  refine go_aload 56 rfl d8_54 rfl rfl ?_
  exact go_areturn d8_56 rfl rfl rfl rfl (by decide) (by decide) ⟨a310, a309, rfl, rfl⟩
def B10_77 : Bdy := (⟨"java/lang/StringUTF16", "coderFromArrayLen", "([BI)B"⟩, jdk_52_method_15_code, 2, (some .byte), ({ frames := 0, cells := 0, slots := 0, locals := 0 } : Room))
set_option maxRecDepth 65536 in
set_option maxHeartbeats 4000000 in
theorem mt77 (Z : State) (a0 : Array Value) (hw : ∀ d ∈ tables_1, d.before a0 Z = true) (h0 : Heap) (zc : Int32) (r99 : Value) (SS : Sts Z h0 zc r99) (z0 z1 : Int32) (h_0 : 0 ≤ z0.toInt ∧ z0.toInt ≤ 65535) (h_1 : 0 ≤ z1.toInt ∧ z1.toInt ≤ 65535) (a209 : Addr) :
    Met B10_77 Z a0 h0 #[(.ref a209), (.int (2 : Int32))] [ar a209 .byte [(.int (nar .byte ((z0 >>> ((0 : Int32) &&& 31)).toInt8.toInt32))), (.int (nar .byte ((z0 >>> ((8 : Int32) &&& 31)).toInt8.toInt32))), (.int (nar .byte ((z1 >>> ((0 : Int32) &&& 31)).toInt8.toInt32))), (.int (nar .byte ((z1 >>> ((8 : Int32) &&& 31)).toInt8.toInt32)))]] (Ret (some (.int (1 : Int32))) [ar a209 .byte [(.int (nar .byte ((z0 >>> ((0 : Int32) &&& 31)).toInt8.toInt32))), (.int (nar .byte ((z0 >>> ((8 : Int32) &&& 31)).toInt8.toInt32))), (.int (nar .byte ((z1 >>> ((0 : Int32) &&& 31)).toInt8.toInt32))), (.int (nar .byte ((z1 >>> ((8 : Int32) &&& 31)).toInt8.toInt32)))]]) := by
  refine Met.of pn10 (ls := #[.val (.ref a209), .val (.int (2 : Int32))]) (fun m => by first | (simp [entryFrame, mkF, argsToLocals, Value.category, B10_77]; done) | rfl) ?_
  show Go B10_77 Z a0 h0 _ 0 0 [ar a209 .byte [(.int (nar .byte ((z0 >>> ((0 : Int32) &&& 31)).toInt8.toInt32))), (.int (nar .byte ((z0 >>> ((8 : Int32) &&& 31)).toInt8.toInt32))), (.int (nar .byte ((z1 >>> ((0 : Int32) &&& 31)).toInt8.toInt32))), (.int (nar .byte ((z1 >>> ((8 : Int32) &&& 31)).toInt8.toInt32)))]] 0 #[.val (.ref a209), .val (.int (2 : Int32))] []
  refine go_iloadN 1 rfl d10_0 rfl ?_
  refine go_aloadN 2 rfl d10_1 rfl rfl ?_
  refine go_alen 0 3 rfl d10_2 rfl rfl ?_
  show Go B10_77 Z a0 h0 _ 0 0 [ar a209 .byte [(.int (nar .byte ((z0 >>> ((0 : Int32) &&& 31)).toInt8.toInt32))), (.int (nar .byte ((z0 >>> ((8 : Int32) &&& 31)).toInt8.toInt32))), (.int (nar .byte ((z1 >>> ((0 : Int32) &&& 31)).toInt8.toInt32))), (.int (nar .byte ((z1 >>> ((8 : Int32) &&& 31)).toInt8.toInt32)))]] 3 #[.val (.ref a209), .val (.int (2 : Int32))] [(.int (4 : Int32)), (.int (2 : Int32))]
  refine go_isub 4 rfl d10_3 rfl ?_
  show Go B10_77 Z a0 h0 _ 0 0 [ar a209 .byte [(.int (nar .byte ((z0 >>> ((0 : Int32) &&& 31)).toInt8.toInt32))), (.int (nar .byte ((z0 >>> ((8 : Int32) &&& 31)).toInt8.toInt32))), (.int (nar .byte ((z1 >>> ((0 : Int32) &&& 31)).toInt8.toInt32))), (.int (nar .byte ((z1 >>> ((8 : Int32) &&& 31)).toInt8.toInt32)))]] 4 #[.val (.ref a209), .val (.int (2 : Int32))] [(.int (-2 : Int32))]
  refine go_bipush (31 : Int32) 6 rfl d10_4 rfl ?_
  refine go_iushr 7 rfl d10_6 rfl ?_
  show Go B10_77 Z a0 h0 _ 0 0 [ar a209 .byte [(.int (nar .byte ((z0 >>> ((0 : Int32) &&& 31)).toInt8.toInt32))), (.int (nar .byte ((z0 >>> ((8 : Int32) &&& 31)).toInt8.toInt32))), (.int (nar .byte ((z1 >>> ((0 : Int32) &&& 31)).toInt8.toInt32))), (.int (nar .byte ((z1 >>> ((8 : Int32) &&& 31)).toInt8.toInt32)))]] 7 #[.val (.ref a209), .val (.int (2 : Int32))] [(.int (1 : Int32))]
  refine go_i2b 8 rfl d10_7 rfl ?_
  show Go B10_77 Z a0 h0 _ 0 0 [ar a209 .byte [(.int (nar .byte ((z0 >>> ((0 : Int32) &&& 31)).toInt8.toInt32))), (.int (nar .byte ((z0 >>> ((8 : Int32) &&& 31)).toInt8.toInt32))), (.int (nar .byte ((z1 >>> ((0 : Int32) &&& 31)).toInt8.toInt32))), (.int (nar .byte ((z1 >>> ((8 : Int32) &&& 31)).toInt8.toInt32)))]] 8 #[.val (.ref a209), .val (.int (2 : Int32))] [(.int (1 : Int32))]
  exact go_ireturn d10_8 rfl (Or.inr (Or.inr (Or.inl rfl))) rfl rfl (by decide) (by decide) ⟨rfl, rfl⟩
def B3_68 : Bdy := (⟨"java/lang/String", "<init>", "([CIILjava/lang/Void;)V"⟩, jdk_42_method_149_code, 6, none, ({ frames := 4, cells := 2, slots := 6, locals := 57 } : Room))
set_option maxRecDepth 65536 in
set_option maxHeartbeats 4000000 in
theorem mt68 (Z : State) (a0 : Array Value) (hw : ∀ d ∈ tables_1, d.before a0 Z = true) (h0 : Heap) (zc : Int32) (r99 : Value) (SS : Sts Z h0 zc r99) (z0 z1 : Int32) (h_0 : 0 ≤ z0.toInt ∧ z0.toInt ≤ 65535) (h_1 : 0 ≤ z1.toInt ∧ z1.toInt ≤ 65535) (g0 : z0.toInt ≤ 255) (g1 : ¬ z1.toInt ≤ 255) (a6 : Addr) (a7 : Addr) :
    Met B3_68 Z a0 h0 #[(.ref a6), (.ref a7), (.int (0 : Int32)), (.int (2 : Int32)), .null] [ob a6 "java/lang/String" [("java/lang/String", "value", "[B", .null), ("java/lang/String", "coder", "B", (.int (0 : Int32)))], ar a7 .char [(.int z0), (.int z1)]] (fun v ds => ∃ a209 a210 : Addr, Ret none (mem3 a209 z0 z1 a7 a210 a6) v ds) := by
  refine Met.of pn3 (ls := #[.val (.ref a6), .val (.ref a7), .val (.int (0 : Int32)), .val (.int (2 : Int32)), .val .null, .unset]) (fun m => by first | (simp [entryFrame, mkF, argsToLocals, Value.category, B3_68]; done) | rfl) ?_
  show Go B3_68 Z a0 h0 _ 0 0 [ob a6 "java/lang/String" [("java/lang/String", "value", "[B", .null), ("java/lang/String", "coder", "B", (.int (0 : Int32)))], ar a7 .char [(.int z0), (.int z1)]] 0 #[.val (.ref a6), .val (.ref a7), .val (.int (0 : Int32)), .val (.int (2 : Int32)), .val .null, .unset] []
  refine go_aloadN 1 rfl d3_0 rfl rfl ?_
  refine go_initObj 4 rfl d3_1 rfl (wd hw 15 rfl) (wd hw 16 rfl) (wd hw 17 rfl) rfl (by decide) (by decide) ?_
  refine go_iloadN 5 rfl d3_4 rfl ?_
  refine go_if 27 8 rfl (by decide) rfl d3_5 rfl (fun (hc5 : (2 : Int) ≠ 0) => ?_) (fun (hc5 : ¬ ((2 : Int) ≠ 0)) => absurd hc5 (by decide))
  refine go_getS 30 rfl d3_27 (wd hw 40 rfl) SS.1 ?_
  refine go_if 58 33 rfl (by decide) rfl d3_30 rfl (fun (hc30 : zc.toInt = 0) => absurd hc30 (by exact fun q => SS.2.1 (Int32.toInt_inj.mp q))) (fun (hc30 : ¬ (zc.toInt = 0)) => ?_)
  refine go_aloadN 34 rfl d3_33 rfl rfl ?_
  refine go_iloadN 35 rfl d3_34 rfl ?_
  refine go_iloadN 36 rfl d3_35 rfl ?_
  refine Go.front 1 (Nat.le_of_ble_eq_true rfl) ?_
  show Go B3_68 Z a0 h0 _ 0 0 [ar a7 .char [(.int z0), (.int z1)], ob a6 "java/lang/String" [("java/lang/String", "value", "[B", .null), ("java/lang/String", "coder", "B", (.int (0 : Int32)))]] 36 #[.val (.ref a6), .val (.ref a7), .val (.int (0 : Int32)), .val (.int (2 : Int32)), .val .null, .unset] [(.int (2 : Int32)), (.int (0 : Int32)), (.ref a7)]
  refine go_callS 39 rfl d3_36 (wd hw 41 rfl) (wd hw 42 rfl) (wd hw 43 rfl) (wd hw 44 rfl) (by decide) (Met.frame [ob a6 "java/lang/String" [("java/lang/String", "value", "[B", .null), ("java/lang/String", "coder", "B", (.int (0 : Int32)))]] (mt69 Z a0 hw h0 zc r99 SS z0 z1 h_0 h_1 g0 g1 a7)) (argsL := [(.ref a7), (.int (0 : Int32)), (.int (2 : Int32))]) (rest := []) rfl (ps := [(.array .char), .int, .int]) (by decide +kernel) rfl rfl 0 rfl (by decide) (by decide) (by decide) (by decide) ?_
  rintro _ _ ⟨_, ⟨a209, a210, rfl, rfl⟩, rfl⟩
  show Go B3_68 Z a0 h0 _ 2 6 (mem1 a209 z0 z1 a7 a210 a6) 39 #[.val (.ref a6), .val (.ref a7), .val (.int (0 : Int32)), .val (.int (2 : Int32)), .val .null, .unset] [(.ref a209)]
  refine go_astore #[.val (.ref a6), .val (.ref a7), .val (.int (0 : Int32)), .val (.int (2 : Int32)), .val .null, .val (.ref a209)] 41 rfl d3_39 rfl rfl rfl ?_
  refine go_aloadN 42 rfl d3_41 rfl rfl ?_
  refine go_aload 44 rfl d3_42 rfl rfl ?_
  refine go_iloadN 45 rfl d3_44 rfl ?_
  refine go_callS 48 rfl d3_45 (wd hw 48 rfl) (wd hw 49 rfl) (wd hw 43 rfl) (wd hw 50 rfl) (by decide) (Met.frame [ar a7 .char [(.int z0), (.int z1)], ar a210 .byte [(.int (nar .byte (z0.toInt8.toInt32))), (.int (0 : Int32))], ob a6 "java/lang/String" [("java/lang/String", "value", "[B", .null), ("java/lang/String", "coder", "B", (.int (0 : Int32)))]] (mt77 Z a0 hw h0 zc r99 SS z0 z1 h_0 h_1 a209)) (argsL := [(.ref a209), (.int (2 : Int32))]) (rest := [(.ref a6)]) rfl (ps := [(.array .byte), .int]) (by decide +kernel) rfl rfl 1 rfl (by decide) (by decide) (by decide) (by decide) ?_
  rintro _ _ ⟨_, ⟨rfl, rfl⟩, rfl⟩
  show Go B3_68 Z a0 h0 _ 2 6 (mem1 a209 z0 z1 a7 a210 a6) 48 #[.val (.ref a6), .val (.ref a7), .val (.int (0 : Int32)), .val (.int (2 : Int32)), .val .null, .val (.ref a209)] [(.int (1 : Int32)), (.ref a6)]
  refine go_put 3 1 51 rfl d3_48 rfl rfl rfl (wd hw 25 rfl) (Or.inr ⟨(wd hw 21 rfl), rfl, rfl⟩) (wd hw 5 rfl) (ty := .byte) (by decide) rfl rfl ?_
  show Go B3_68 Z a0 h0 _ 2 6 (mem2 a209 z0 z1 a7 a210 a6) 51 #[.val (.ref a6), .val (.ref a7), .val (.int (0 : Int32)), .val (.int (2 : Int32)), .val .null, .val (.ref a209)] []
  refine go_aloadN 52 rfl d3_51 rfl rfl ?_
  refine go_aload 54 rfl d3_52 rfl rfl ?_
  refine go_put 3 0 57 rfl d3_54 rfl rfl rfl (wd hw 24 rfl) (Or.inr ⟨(wd hw 20 rfl), rfl, rfl⟩) (wd hw 5 rfl) (ty := (.array .byte)) (by decide) rfl rfl ?_
  show Go B3_68 Z a0 h0 _ 2 6 (mem3 a209 z0 z1 a7 a210 a6) 57 #[.val (.ref a6), .val (.ref a7), .val (.int (0 : Int32)), .val (.int (2 : Int32)), .val .null, .val (.ref a209)] []
  exact go_return d3_57 rfl rfl (by decide) (by decide) ⟨a209, a210, rfl, rfl⟩
def B2_67 : Bdy := (⟨"java/lang/String", "<init>", "([C)V"⟩, jdk_42_method_3_code, 2, none, ({ frames := 5, cells := 2, slots := 6, locals := 74 } : Room))
set_option maxRecDepth 65536 in
set_option maxHeartbeats 4000000 in
theorem mt67 (Z : State) (a0 : Array Value) (hw : ∀ d ∈ tables_1, d.before a0 Z = true) (h0 : Heap) (zc : Int32) (r99 : Value) (SS : Sts Z h0 zc r99) (z0 z1 : Int32) (h_0 : 0 ≤ z0.toInt ∧ z0.toInt ≤ 65535) (h_1 : 0 ≤ z1.toInt ∧ z1.toInt ≤ 65535) (g0 : z0.toInt ≤ 255) (g1 : ¬ z1.toInt ≤ 255) (a6 : Addr) (a7 : Addr) :
    Met B2_67 Z a0 h0 #[(.ref a6), (.ref a7)] [ob a6 "java/lang/String" [("java/lang/String", "value", "[B", .null), ("java/lang/String", "coder", "B", (.int (0 : Int32)))], ar a7 .char [(.int z0), (.int z1)]] (fun v ds => ∃ a109 a110 : Addr, Ret none (mem3 a109 z0 z1 a7 a110 a6) v ds) := by
  refine Met.of pn2 (ls := #[.val (.ref a6), .val (.ref a7)]) (fun m => by first | (simp [entryFrame, mkF, argsToLocals, Value.category, B2_67]; done) | rfl) ?_
  show Go B2_67 Z a0 h0 _ 0 0 [ob a6 "java/lang/String" [("java/lang/String", "value", "[B", .null), ("java/lang/String", "coder", "B", (.int (0 : Int32)))], ar a7 .char [(.int z0), (.int z1)]] 0 #[.val (.ref a6), .val (.ref a7)] []
  refine go_aloadN 1 rfl d2_0 rfl rfl ?_
  refine go_aloadN 2 rfl d2_1 rfl rfl ?_
  refine go_iconst (0 : Int32) 3 rfl d2_2 rfl ?_
  refine go_aloadN 4 rfl d2_3 rfl rfl ?_
  refine go_alen 1 5 rfl d2_4 rfl rfl ?_
  show Go B2_67 Z a0 h0 _ 0 0 [ob a6 "java/lang/String" [("java/lang/String", "value", "[B", .null), ("java/lang/String", "coder", "B", (.int (0 : Int32)))], ar a7 .char [(.int z0), (.int z1)]] 5 #[.val (.ref a6), .val (.ref a7)] [(.int (2 : Int32)), (.int (0 : Int32)), (.ref a7), (.ref a6)]
  refine go_aconstNull 6 rfl d2_5 ?_
  refine go_callI 9 rfl d2_6 rfl (wd hw 11 rfl) (wd hw 12 rfl) (wd hw 6 rfl) (wd hw 14 rfl) (by decide) (mt68 Z a0 hw h0 zc r99 SS z0 z1 h_0 h_1 g0 g1 a6 a7) (argsL := [(.ref a7), (.int (0 : Int32)), (.int (2 : Int32)), .null]) (rest := []) rfl (ret := none) (ps := [(.array .char), .int, .int, (.object "java/lang/Void")]) (by decide +kernel) rfl rfl 0 rfl (by decide) (by decide) (by decide) (by decide) ?_
  rintro _ _ ⟨a109, a110, rfl, rfl⟩
  show Go B2_67 Z a0 h0 _ 2 6 (mem3 a109 z0 z1 a7 a110 a6) 9 #[.val (.ref a6), .val (.ref a7)] []
  exact go_return d2_9 rfl rfl (by decide) (by decide) ⟨a109, a110, rfl, rfl⟩
def B7_81 : Bdy := (⟨"java/lang/String", "coder", "()B"⟩, jdk_42_method_152_code, 1, (some .byte), ({ frames := 0, cells := 0, slots := 0, locals := 0 } : Room))
set_option maxRecDepth 65536 in
set_option maxHeartbeats 4000000 in
theorem mt81 (Z : State) (a0 : Array Value) (hw : ∀ d ∈ tables_1, d.before a0 Z = true) (h0 : Heap) (zc : Int32) (r99 : Value) (SS : Sts Z h0 zc r99) (z0 z1 : Int32) (h_0 : 0 ≤ z0.toInt ∧ z0.toInt ≤ 65535) (h_1 : 0 ≤ z1.toInt ∧ z1.toInt ≤ 65535) (a9 : Addr) (a6 : Addr) :
    Met B7_81 Z a0 h0 #[(.ref a6)] (mem5 a9 z0 z1 a6) (Ret (some (.int (1 : Int32))) (mem5 a9 z0 z1 a6)) := by
  refine Met.of pn7 (ls := #[.val (.ref a6)]) (fun m => by first | (simp [entryFrame, mkF, argsToLocals, Value.category, B7_81]; done) | rfl) ?_
  show Go B7_81 Z a0 h0 _ 0 0 (mem5 a9 z0 z1 a6) 0 #[.val (.ref a6)] []
  refine go_getS 3 rfl d7_0 (wd hw 40 rfl) SS.1 ?_
  refine go_if 13 6 rfl (by decide) rfl d7_3 rfl (fun (hc3 : zc.toInt = 0) => absurd hc3 (by exact fun q => SS.2.1 (Int32.toInt_inj.mp q))) (fun (hc3 : ¬ (zc.toInt = 0)) => ?_)
  refine go_aloadN 7 rfl d7_6 rfl rfl ?_
  refine go_get 1 1 10 rfl d7_7 rfl rfl rfl (wd hw 25 rfl) ?_
  refine go_goto 14 (by decide) rfl d7_10 ?_
  exact go_ireturn d7_14 rfl (Or.inr (Or.inr (Or.inl rfl))) rfl rfl (by decide) (by decide) ⟨rfl, rfl⟩
def B6_80 : Bdy := (⟨"java/lang/String", "length", "()I"⟩, jdk_42_method_54_code, 1, (some .int), ({ frames := 1, cells := 0, slots := 0, locals := 13 } : Room))
set_option maxRecDepth 65536 in
set_option maxHeartbeats 4000000 in
theorem mt80 (Z : State) (a0 : Array Value) (hw : ∀ d ∈ tables_1, d.before a0 Z = true) (h0 : Heap) (zc : Int32) (r99 : Value) (SS : Sts Z h0 zc r99) (z0 z1 : Int32) (h_0 : 0 ≤ z0.toInt ∧ z0.toInt ≤ 65535) (h_1 : 0 ≤ z1.toInt ∧ z1.toInt ≤ 65535) (a9 : Addr) (a6 : Addr) :
    Met B6_80 Z a0 h0 #[(.ref a6)] (mem5 a9 z0 z1 a6) (Ret (some (.int (2 : Int32))) (mem5 a9 z0 z1 a6)) := by
  refine Met.of pn6 (ls := #[.val (.ref a6)]) (fun m => by first | (simp [entryFrame, mkF, argsToLocals, Value.category, B6_80]; done) | rfl) ?_
  show Go B6_80 Z a0 h0 _ 0 0 (mem5 a9 z0 z1 a6) 0 #[.val (.ref a6)] []
  refine go_aloadN 1 rfl d6_0 rfl rfl ?_
  refine go_get 1 0 4 rfl d6_1 rfl rfl rfl (wd hw 24 rfl) ?_
  refine go_alen 0 5 rfl d6_4 rfl rfl ?_
  show Go B6_80 Z a0 h0 _ 0 0 (mem5 a9 z0 z1 a6) 5 #[.val (.ref a6)] [(.int (4 : Int32))]
  refine go_aloadN 6 rfl d6_5 rfl rfl ?_
  refine go_callV 9 rfl d6_6 (wd hw 35 rfl) (wd hw 36 rfl) (wd hw 38 rfl) (wd hw 37 rfl) (wd hw 6 rfl) (wd hw 39 rfl) (by decide) (Mo.exa (i := 1) rfl) (mt81 Z a0 hw h0 zc r99 SS z0 z1 h_0 h_1 a9 a6) (argsL := []) (rest := [(.int (4 : Int32))]) rfl (ps := []) (by decide +kernel) rfl rfl 1 rfl (by decide) (by decide) (by decide) (by decide) ?_
  rintro _ _ ⟨rfl, rfl⟩
  show Go B6_80 Z a0 h0 _ 0 0 (mem5 a9 z0 z1 a6) 9 #[.val (.ref a6)] [(.int (1 : Int32)), (.int (4 : Int32))]
  refine go_ishr 10 rfl d6_9 rfl ?_
  show Go B6_80 Z a0 h0 _ 0 0 (mem5 a9 z0 z1 a6) 10 #[.val (.ref a6)] [(.int (2 : Int32))]
  exact go_ireturn d6_10 rfl (Or.inl rfl) rfl rfl (by decide) (by decide) ⟨rfl, rfl⟩
def B13_83 : Bdy := (⟨"java/lang/String", "isLatin1", "()Z"⟩, jdk_42_method_154_code, 1, (some .boolean), ({ frames := 0, cells := 0, slots := 0, locals := 0 } : Room))
set_option maxRecDepth 65536 in
set_option maxHeartbeats 4000000 in
theorem mt83 (Z : State) (a0 : Array Value) (hw : ∀ d ∈ tables_1, d.before a0 Z = true) (h0 : Heap) (zc : Int32) (r99 : Value) (SS : Sts Z h0 zc r99) (z0 z1 : Int32) (h_0 : 0 ≤ z0.toInt ∧ z0.toInt ≤ 65535) (h_1 : 0 ≤ z1.toInt ∧ z1.toInt ≤ 65535) (a9 : Addr) (a6 : Addr) :
    Met B13_83 Z a0 h0 #[(.ref a6)] (mem5 a9 z0 z1 a6) (Ret (some (.int (0 : Int32))) (mem5 a9 z0 z1 a6)) := by
  refine Met.of pn13 (ls := #[.val (.ref a6)]) (fun m => by first | (simp [entryFrame, mkF, argsToLocals, Value.category, B13_83]; done) | rfl) ?_
  show Go B13_83 Z a0 h0 _ 0 0 (mem5 a9 z0 z1 a6) 0 #[.val (.ref a6)] []
  refine go_getS 3 rfl d13_0 (wd hw 40 rfl) SS.1 ?_
  refine go_if 17 6 rfl (by decide) rfl d13_3 rfl (fun (hc3 : zc.toInt = 0) => absurd hc3 (by exact fun q => SS.2.1 (Int32.toInt_inj.mp q))) (fun (hc3 : ¬ (zc.toInt = 0)) => ?_)
  refine go_aloadN 7 rfl d13_6 rfl rfl ?_
  refine go_get 1 1 10 rfl d13_7 rfl rfl rfl (wd hw 25 rfl) ?_
  refine go_if 17 13 rfl (by decide) rfl d13_10 rfl (fun (hc10 : (1 : Int) ≠ 0) => ?_) (fun (hc10 : ¬ ((1 : Int) ≠ 0)) => absurd hc10 (by decide))
  refine go_iconst (0 : Int32) 18 rfl d13_17 rfl ?_
  exact go_ireturn d13_18 rfl (Or.inr (Or.inl rfl)) rfl rfl (by decide) (by decide) ⟨rfl, rfl⟩
def B25_86 : Bdy := (⟨"java/lang/StringUTF16", "length", "([B)I"⟩, jdk_52_method_6_code, 1, (some .int), ({ frames := 0, cells := 0, slots := 0, locals := 0 } : Room))
set_option maxRecDepth 65536 in
set_option maxHeartbeats 4000000 in
theorem mt86 (Z : State) (a0 : Array Value) (hw : ∀ d ∈ tables_1, d.before a0 Z = true) (h0 : Heap) (zc : Int32) (r99 : Value) (SS : Sts Z h0 zc r99) (z0 z1 : Int32) (h_0 : 0 ≤ z0.toInt ∧ z0.toInt ≤ 65535) (h_1 : 0 ≤ z1.toInt ∧ z1.toInt ≤ 65535) (a9 : Addr) :
    Met B25_86 Z a0 h0 #[(.ref a9)] [ar a9 .byte [(.int (nar .byte ((z0 >>> ((0 : Int32) &&& 31)).toInt8.toInt32))), (.int (nar .byte ((z0 >>> ((8 : Int32) &&& 31)).toInt8.toInt32))), (.int (nar .byte ((z1 >>> ((0 : Int32) &&& 31)).toInt8.toInt32))), (.int (nar .byte ((z1 >>> ((8 : Int32) &&& 31)).toInt8.toInt32)))]] (Ret (some (.int (2 : Int32))) [ar a9 .byte [(.int (nar .byte ((z0 >>> ((0 : Int32) &&& 31)).toInt8.toInt32))), (.int (nar .byte ((z0 >>> ((8 : Int32) &&& 31)).toInt8.toInt32))), (.int (nar .byte ((z1 >>> ((0 : Int32) &&& 31)).toInt8.toInt32))), (.int (nar .byte ((z1 >>> ((8 : Int32) &&& 31)).toInt8.toInt32)))]]) := by
  refine Met.of pn25 (ls := #[.val (.ref a9)]) (fun m => by first | (simp [entryFrame, mkF, argsToLocals, Value.category, B25_86]; done) | rfl) ?_
  show Go B25_86 Z a0 h0 _ 0 0 [ar a9 .byte [(.int (nar .byte ((z0 >>> ((0 : Int32) &&& 31)).toInt8.toInt32))), (.int (nar .byte ((z0 >>> ((8 : Int32) &&& 31)).toInt8.toInt32))), (.int (nar .byte ((z1 >>> ((0 : Int32) &&& 31)).toInt8.toInt32))), (.int (nar .byte ((z1 >>> ((8 : Int32) &&& 31)).toInt8.toInt32)))]] 0 #[.val (.ref a9)] []
  refine go_aloadN 1 rfl d25_0 rfl rfl ?_
  refine go_alen 0 2 rfl d25_1 rfl rfl ?_
  show Go B25_86 Z a0 h0 _ 0 0 [ar a9 .byte [(.int (nar .byte ((z0 >>> ((0 : Int32) &&& 31)).toInt8.toInt32))), (.int (nar .byte ((z0 >>> ((8 : Int32) &&& 31)).toInt8.toInt32))), (.int (nar .byte ((z1 >>> ((0 : Int32) &&& 31)).toInt8.toInt32))), (.int (nar .byte ((z1 >>> ((8 : Int32) &&& 31)).toInt8.toInt32)))]] 2 #[.val (.ref a9)] [(.int (4 : Int32))]
  refine go_iconst (1 : Int32) 3 rfl d25_2 rfl ?_
  refine go_ishr 4 rfl d25_3 rfl ?_
  show Go B25_86 Z a0 h0 _ 0 0 [ar a9 .byte [(.int (nar .byte ((z0 >>> ((0 : Int32) &&& 31)).toInt8.toInt32))), (.int (nar .byte ((z0 >>> ((8 : Int32) &&& 31)).toInt8.toInt32))), (.int (nar .byte ((z1 >>> ((0 : Int32) &&& 31)).toInt8.toInt32))), (.int (nar .byte ((z1 >>> ((8 : Int32) &&& 31)).toInt8.toInt32)))]] 4 #[.val (.ref a9)] [(.int (2 : Int32))]
  exact go_ireturn d25_4 rfl (Or.inl rfl) rfl rfl (by decide) (by decide) ⟨rfl, rfl⟩
def B16_88 : Bdy := (⟨"jdk/internal/util/Preconditions", "checkIndex", "(IILjava/util/function/BiFunction;)I"⟩, jdk_41_method_11_code, 3, (some .int), ({ frames := 0, cells := 0, slots := 0, locals := 0 } : Room))
set_option maxRecDepth 65536 in
set_option maxHeartbeats 4000000 in
theorem mt88 (Z : State) (a0 : Array Value) (hw : ∀ d ∈ tables_1, d.before a0 Z = true) (h0 : Heap) (zc : Int32) (r99 : Value) (SS : Sts Z h0 zc r99) (z0 z1 : Int32) (h_0 : 0 ≤ z0.toInt ∧ z0.toInt ≤ 65535) (h_1 : 0 ≤ z1.toInt ∧ z1.toInt ≤ 65535) :
    Met B16_88 Z a0 h0 #[(.int (0 : Int32)), (.int (2 : Int32)), r99] [] (Ret (some (.int (0 : Int32))) []) := by
  refine Met.of pn16 (ls := #[.val (.int (0 : Int32)), .val (.int (2 : Int32)), .val r99]) (fun m => by rcases ref_cases SS.2.2.2.1 with rfl | ⟨_, rfl⟩ <;> first | (simp [entryFrame, mkF, argsToLocals, Value.category, B16_88]; done) | rfl) ?_
  show Go B16_88 Z a0 h0 _ 0 0 [] 0 #[.val (.int (0 : Int32)), .val (.int (2 : Int32)), .val r99] []
  refine go_iloadN 1 rfl d16_0 rfl ?_
  refine go_if 9 4 rfl (by decide) rfl d16_1 rfl (fun (hc1 : (0 : Int) < 0) => absurd hc1 (by decide)) (fun (hc1 : ¬ ((0 : Int) < 0)) => ?_)
  refine go_iloadN 5 rfl d16_4 rfl ?_
  refine go_iloadN 6 rfl d16_5 rfl ?_
  refine go_icmp 16 9 rfl (by decide) rfl d16_6 rfl (fun (hc6 : (0 : Int) < (2 : Int)) => ?_) (fun (hc6 : ¬ ((0 : Int) < (2 : Int))) => absurd hc6 (by decide))
  refine go_iloadN 17 rfl d16_16 rfl ?_
  exact go_ireturn d16_17 rfl (Or.inl rfl) rfl rfl (by decide) (by decide) ⟨rfl, rfl⟩
def B15_87 : Bdy := (⟨"java/lang/String", "checkIndex", "(II)V"⟩, jdk_42_method_155_code, 2, none, ({ frames := 1, cells := 0, slots := 0, locals := 14 } : Room))
set_option maxRecDepth 65536 in
set_option maxHeartbeats 4000000 in
theorem mt87 (Z : State) (a0 : Array Value) (hw : ∀ d ∈ tables_1, d.before a0 Z = true) (h0 : Heap) (zc : Int32) (r99 : Value) (SS : Sts Z h0 zc r99) (z0 z1 : Int32) (h_0 : 0 ≤ z0.toInt ∧ z0.toInt ≤ 65535) (h_1 : 0 ≤ z1.toInt ∧ z1.toInt ≤ 65535) :
    Met B15_87 Z a0 h0 #[(.int (0 : Int32)), (.int (2 : Int32))] [] (Ret none []) := by
  refine Met.of pn15 (ls := #[.val (.int (0 : Int32)), .val (.int (2 : Int32))]) (fun m => by first | (simp [entryFrame, mkF, argsToLocals, Value.category, B15_87]; done) | rfl) ?_
  show Go B15_87 Z a0 h0 _ 0 0 [] 0 #[.val (.int (0 : Int32)), .val (.int (2 : Int32))] []
  refine go_iloadN 1 rfl d15_0 rfl ?_
  refine go_iloadN 2 rfl d15_1 rfl ?_
  refine go_getS 5 rfl d15_2 (wd hw 71 rfl) SS.2.2.1 ?_
  refine go_callS 8 rfl d15_5 (wd hw 73 rfl) (wd hw 74 rfl) (wd hw 72 rfl) (wd hw 75 rfl) (by decide) (mt88 Z a0 hw h0 zc r99 SS z0 z1 h_0 h_1) (argsL := [(.int (0 : Int32)), (.int (2 : Int32)), r99]) (rest := []) rfl (ps := [.int, .int, (.object "java/util/function/BiFunction")]) (by decide +kernel) rfl rfl 0 rfl (by decide) (by decide) (by decide) (by decide) ?_
  rintro _ _ ⟨rfl, rfl⟩
  show Go B15_87 Z a0 h0 _ 0 0 [] 8 #[.val (.int (0 : Int32)), .val (.int (2 : Int32))] [(.int (0 : Int32))]
  refine go_pop 9 rfl d15_8 rfl rfl ?_
  exact go_return d15_9 rfl rfl (by decide) (by decide) ⟨rfl, rfl⟩
def B24_85 : Bdy := (⟨"java/lang/StringUTF16", "checkIndex", "(I[B)V"⟩, jdk_52_method_91_code, 2, none, ({ frames := 2, cells := 0, slots := 0, locals := 27 } : Room))
set_option maxRecDepth 65536 in
set_option maxHeartbeats 4000000 in
theorem mt85 (Z : State) (a0 : Array Value) (hw : ∀ d ∈ tables_1, d.before a0 Z = true) (h0 : Heap) (zc : Int32) (r99 : Value) (SS : Sts Z h0 zc r99) (z0 z1 : Int32) (h_0 : 0 ≤ z0.toInt ∧ z0.toInt ≤ 65535) (h_1 : 0 ≤ z1.toInt ∧ z1.toInt ≤ 65535) (a9 : Addr) :
    Met B24_85 Z a0 h0 #[(.int (0 : Int32)), (.ref a9)] [ar a9 .byte [(.int (nar .byte ((z0 >>> ((0 : Int32) &&& 31)).toInt8.toInt32))), (.int (nar .byte ((z0 >>> ((8 : Int32) &&& 31)).toInt8.toInt32))), (.int (nar .byte ((z1 >>> ((0 : Int32) &&& 31)).toInt8.toInt32))), (.int (nar .byte ((z1 >>> ((8 : Int32) &&& 31)).toInt8.toInt32)))]] (Ret none [ar a9 .byte [(.int (nar .byte ((z0 >>> ((0 : Int32) &&& 31)).toInt8.toInt32))), (.int (nar .byte ((z0 >>> ((8 : Int32) &&& 31)).toInt8.toInt32))), (.int (nar .byte ((z1 >>> ((0 : Int32) &&& 31)).toInt8.toInt32))), (.int (nar .byte ((z1 >>> ((8 : Int32) &&& 31)).toInt8.toInt32)))]]) := by
  refine Met.of pn24 (ls := #[.val (.int (0 : Int32)), .val (.ref a9)]) (fun m => by first | (simp [entryFrame, mkF, argsToLocals, Value.category, B24_85]; done) | rfl) ?_
  show Go B24_85 Z a0 h0 _ 0 0 [ar a9 .byte [(.int (nar .byte ((z0 >>> ((0 : Int32) &&& 31)).toInt8.toInt32))), (.int (nar .byte ((z0 >>> ((8 : Int32) &&& 31)).toInt8.toInt32))), (.int (nar .byte ((z1 >>> ((0 : Int32) &&& 31)).toInt8.toInt32))), (.int (nar .byte ((z1 >>> ((8 : Int32) &&& 31)).toInt8.toInt32)))]] 0 #[.val (.int (0 : Int32)), .val (.ref a9)] []
  refine go_iloadN 1 rfl d24_0 rfl ?_
  refine go_aloadN 2 rfl d24_1 rfl rfl ?_
  refine go_callS 5 rfl d24_2 (wd hw 105 rfl) (wd hw 106 rfl) (wd hw 43 rfl) (wd hw 107 rfl) (by decide) (mt86 Z a0 hw h0 zc r99 SS z0 z1 h_0 h_1 a9) (argsL := [(.ref a9)]) (rest := [(.int (0 : Int32))]) rfl (ps := [(.array .byte)]) (by decide +kernel) rfl rfl 1 rfl (by decide) (by decide) (by decide) (by decide) ?_
  rintro _ _ ⟨rfl, rfl⟩
  show Go B24_85 Z a0 h0 _ 0 0 [ar a9 .byte [(.int (nar .byte ((z0 >>> ((0 : Int32) &&& 31)).toInt8.toInt32))), (.int (nar .byte ((z0 >>> ((8 : Int32) &&& 31)).toInt8.toInt32))), (.int (nar .byte ((z1 >>> ((0 : Int32) &&& 31)).toInt8.toInt32))), (.int (nar .byte ((z1 >>> ((8 : Int32) &&& 31)).toInt8.toInt32)))]] 5 #[.val (.int (0 : Int32)), .val (.ref a9)] [(.int (2 : Int32)), (.int (0 : Int32))]
  refine go_callS 8 rfl d24_5 (wd hw 108 rfl) (wd hw 69 rfl) (wd hw 6 rfl) (wd hw 70 rfl) (by decide) (Met.frame [ar a9 .byte [(.int (nar .byte ((z0 >>> ((0 : Int32) &&& 31)).toInt8.toInt32))), (.int (nar .byte ((z0 >>> ((8 : Int32) &&& 31)).toInt8.toInt32))), (.int (nar .byte ((z1 >>> ((0 : Int32) &&& 31)).toInt8.toInt32))), (.int (nar .byte ((z1 >>> ((8 : Int32) &&& 31)).toInt8.toInt32)))]] (mt87 Z a0 hw h0 zc r99 SS z0 z1 h_0 h_1)) (argsL := [(.int (0 : Int32)), (.int (2 : Int32))]) (rest := []) rfl (ps := [.int, .int]) (by decide +kernel) rfl rfl 0 rfl (by decide) (by decide) (by decide) (by decide) ?_
  rintro _ _ ⟨_, ⟨rfl, rfl⟩, rfl⟩
  show Go B24_85 Z a0 h0 _ 0 0 [ar a9 .byte [(.int (nar .byte ((z0 >>> ((0 : Int32) &&& 31)).toInt8.toInt32))), (.int (nar .byte ((z0 >>> ((8 : Int32) &&& 31)).toInt8.toInt32))), (.int (nar .byte ((z1 >>> ((0 : Int32) &&& 31)).toInt8.toInt32))), (.int (nar .byte ((z1 >>> ((8 : Int32) &&& 31)).toInt8.toInt32)))]] 8 #[.val (.int (0 : Int32)), .val (.ref a9)] []
  exact go_return d24_8 rfl rfl (by decide) (by decide) ⟨rfl, rfl⟩
def B22_89 : Bdy := (⟨"java/lang/StringUTF16", "getChar", "([BI)C"⟩, jdk_52_method_5_code, 2, (some .char), ({ frames := 0, cells := 0, slots := 0, locals := 0 } : Room))
set_option maxRecDepth 65536 in
set_option maxHeartbeats 4000000 in
theorem mt89 (Z : State) (a0 : Array Value) (hw : ∀ d ∈ tables_1, d.before a0 Z = true) (h0 : Heap) (zc : Int32) (r99 : Value) (SS : Sts Z h0 zc r99) (z0 z1 : Int32) (h_0 : 0 ≤ z0.toInt ∧ z0.toInt ≤ 65535) (h_1 : 0 ≤ z1.toInt ∧ z1.toInt ≤ 65535) (a9 : Addr) :
    Met B22_89 Z a0 h0 #[(.ref a9), (.int (0 : Int32))] [ar a9 .byte [(.int (nar .byte ((z0 >>> ((0 : Int32) &&& 31)).toInt8.toInt32))), (.int (nar .byte ((z0 >>> ((8 : Int32) &&& 31)).toInt8.toInt32))), (.int (nar .byte ((z1 >>> ((0 : Int32) &&& 31)).toInt8.toInt32))), (.int (nar .byte ((z1 >>> ((8 : Int32) &&& 31)).toInt8.toInt32)))]] (Ret (some (.int z0)) [ar a9 .byte [(.int (nar .byte ((z0 >>> ((0 : Int32) &&& 31)).toInt8.toInt32))), (.int (nar .byte ((z0 >>> ((8 : Int32) &&& 31)).toInt8.toInt32))), (.int (nar .byte ((z1 >>> ((0 : Int32) &&& 31)).toInt8.toInt32))), (.int (nar .byte ((z1 >>> ((8 : Int32) &&& 31)).toInt8.toInt32)))]]) := by
  refine Met.of pn22 (ls := #[.val (.ref a9), .val (.int (0 : Int32))]) (fun m => by first | (simp [entryFrame, mkF, argsToLocals, Value.category, B22_89]; done) | rfl) ?_
  show Go B22_89 Z a0 h0 _ 0 0 [ar a9 .byte [(.int (nar .byte ((z0 >>> ((0 : Int32) &&& 31)).toInt8.toInt32))), (.int (nar .byte ((z0 >>> ((8 : Int32) &&& 31)).toInt8.toInt32))), (.int (nar .byte ((z1 >>> ((0 : Int32) &&& 31)).toInt8.toInt32))), (.int (nar .byte ((z1 >>> ((8 : Int32) &&& 31)).toInt8.toInt32)))]] 0 #[.val (.ref a9), .val (.int (0 : Int32))] []
  refine go_getS 3 rfl d22_0 (wd hw 93 rfl) SS.2.2.2.2.1 ?_
  refine go_if 28 6 rfl (by decide) rfl d22_3 rfl (fun (hc3 : (1 : Int) ≠ 0) => ?_) (fun (hc3 : ¬ ((1 : Int) ≠ 0)) => absurd hc3 (by decide))
  refine go_iloadN 29 rfl d22_28 rfl ?_
  refine go_iconst (1 : Int32) 30 rfl d22_29 rfl ?_
  refine go_ishl 31 rfl d22_30 rfl ?_
  show Go B22_89 Z a0 h0 _ 0 0 [ar a9 .byte [(.int (nar .byte ((z0 >>> ((0 : Int32) &&& 31)).toInt8.toInt32))), (.int (nar .byte ((z0 >>> ((8 : Int32) &&& 31)).toInt8.toInt32))), (.int (nar .byte ((z1 >>> ((0 : Int32) &&& 31)).toInt8.toInt32))), (.int (nar .byte ((z1 >>> ((8 : Int32) &&& 31)).toInt8.toInt32)))]] 31 #[.val (.ref a9), .val (.int (0 : Int32))] [(.int (0 : Int32))]
  refine go_istoreN #[.val (.ref a9), .val (.int (0 : Int32))] 32 rfl d22_31 rfl rfl ?_
  refine go_aloadN 33 rfl d22_32 rfl rfl ?_
  refine go_iloadN 34 rfl d22_33 rfl ?_
  refine go_iinc #[.val (.ref a9), .val (.int (1 : Int32))] 37 rfl d22_34 rfl rfl ?_
  refine go_baload 38 rfl d22_37 rfl (Mo.el (i := 0) rfl (by decide) rfl) ?_
  refine go_sipush (255 : Int32) 41 rfl d22_38 rfl ?_
  refine go_iand 42 rfl d22_41 rfl ?_
  refine go_getS 45 rfl d22_42 (wd hw 94 rfl) SS.2.2.2.2.2.1 ?_
  refine go_ishl 46 rfl d22_45 rfl ?_
  refine go_aloadN 47 rfl d22_46 rfl rfl ?_
  refine go_iloadN 48 rfl d22_47 rfl ?_
  refine go_baload 49 rfl d22_48 rfl (Mo.el (i := 0) rfl (by decide) rfl) ?_
  refine go_sipush (255 : Int32) 52 rfl d22_49 rfl ?_
  refine go_iand 53 rfl d22_52 rfl ?_
  refine go_getS 56 rfl d22_53 (wd hw 95 rfl) SS.2.2.2.2.2.2 ?_
  refine go_ishl 57 rfl d22_56 rfl ?_
  refine go_ior 58 rfl d22_57 rfl ?_
  refine go_i2c 59 rfl d22_58 rfl ?_
  exact go_ireturn d22_59 rfl (Or.inr (Or.inr (Or.inr (Or.inl rfl)))) rfl (congrArg Value.int (nar_c _)) (by decide) (by decide) (by rw [utf z0 h_0]; exact ⟨rfl, rfl⟩)
def B23_84 : Bdy := (⟨"java/lang/StringUTF16", "charAt", "([BI)C"⟩, jdk_52_method_83_code, 2, (some .char), ({ frames := 3, cells := 0, slots := 0, locals := 40 } : Room))
set_option maxRecDepth 65536 in
set_option maxHeartbeats 4000000 in
theorem mt84 (Z : State) (a0 : Array Value) (hw : ∀ d ∈ tables_1, d.before a0 Z = true) (h0 : Heap) (zc : Int32) (r99 : Value) (SS : Sts Z h0 zc r99) (z0 z1 : Int32) (h_0 : 0 ≤ z0.toInt ∧ z0.toInt ≤ 65535) (h_1 : 0 ≤ z1.toInt ∧ z1.toInt ≤ 65535) (a9 : Addr) :
    Met B23_84 Z a0 h0 #[(.ref a9), (.int (0 : Int32))] [ar a9 .byte [(.int (nar .byte ((z0 >>> ((0 : Int32) &&& 31)).toInt8.toInt32))), (.int (nar .byte ((z0 >>> ((8 : Int32) &&& 31)).toInt8.toInt32))), (.int (nar .byte ((z1 >>> ((0 : Int32) &&& 31)).toInt8.toInt32))), (.int (nar .byte ((z1 >>> ((8 : Int32) &&& 31)).toInt8.toInt32)))]] (Ret (some (.int z0)) [ar a9 .byte [(.int (nar .byte ((z0 >>> ((0 : Int32) &&& 31)).toInt8.toInt32))), (.int (nar .byte ((z0 >>> ((8 : Int32) &&& 31)).toInt8.toInt32))), (.int (nar .byte ((z1 >>> ((0 : Int32) &&& 31)).toInt8.toInt32))), (.int (nar .byte ((z1 >>> ((8 : Int32) &&& 31)).toInt8.toInt32)))]]) := by
  refine Met.of pn23 (ls := #[.val (.ref a9), .val (.int (0 : Int32))]) (fun m => by first | (simp [entryFrame, mkF, argsToLocals, Value.category, B23_84]; done) | rfl) ?_
  show Go B23_84 Z a0 h0 _ 0 0 [ar a9 .byte [(.int (nar .byte ((z0 >>> ((0 : Int32) &&& 31)).toInt8.toInt32))), (.int (nar .byte ((z0 >>> ((8 : Int32) &&& 31)).toInt8.toInt32))), (.int (nar .byte ((z1 >>> ((0 : Int32) &&& 31)).toInt8.toInt32))), (.int (nar .byte ((z1 >>> ((8 : Int32) &&& 31)).toInt8.toInt32)))]] 0 #[.val (.ref a9), .val (.int (0 : Int32))] []
  refine go_iloadN 1 rfl d23_0 rfl ?_
  refine go_aloadN 2 rfl d23_1 rfl rfl ?_
  refine go_callS 5 rfl d23_2 (wd hw 102 rfl) (wd hw 103 rfl) (wd hw 43 rfl) (wd hw 104 rfl) (by decide) (mt85 Z a0 hw h0 zc r99 SS z0 z1 h_0 h_1 a9) (argsL := [(.int (0 : Int32)), (.ref a9)]) (rest := []) rfl (ps := [.int, (.array .byte)]) (by decide +kernel) rfl rfl 0 rfl (by decide) (by decide) (by decide) (by decide) ?_
  rintro _ _ ⟨rfl, rfl⟩
  show Go B23_84 Z a0 h0 _ 0 0 [ar a9 .byte [(.int (nar .byte ((z0 >>> ((0 : Int32) &&& 31)).toInt8.toInt32))), (.int (nar .byte ((z0 >>> ((8 : Int32) &&& 31)).toInt8.toInt32))), (.int (nar .byte ((z1 >>> ((0 : Int32) &&& 31)).toInt8.toInt32))), (.int (nar .byte ((z1 >>> ((8 : Int32) &&& 31)).toInt8.toInt32)))]] 5 #[.val (.ref a9), .val (.int (0 : Int32))] []
  refine go_aloadN 6 rfl d23_5 rfl rfl ?_
  refine go_iloadN 7 rfl d23_6 rfl ?_
  refine go_callS 10 rfl d23_7 (wd hw 96 rfl) (wd hw 97 rfl) (wd hw 43 rfl) (wd hw 98 rfl) (by decide) (mt89 Z a0 hw h0 zc r99 SS z0 z1 h_0 h_1 a9) (argsL := [(.ref a9), (.int (0 : Int32))]) (rest := []) rfl (ps := [(.array .byte), .int]) (by decide +kernel) rfl rfl 0 rfl (by decide) (by decide) (by decide) (by decide) ?_
  rintro _ _ ⟨rfl, rfl⟩
  show Go B23_84 Z a0 h0 _ 0 0 [ar a9 .byte [(.int (nar .byte ((z0 >>> ((0 : Int32) &&& 31)).toInt8.toInt32))), (.int (nar .byte ((z0 >>> ((8 : Int32) &&& 31)).toInt8.toInt32))), (.int (nar .byte ((z1 >>> ((0 : Int32) &&& 31)).toInt8.toInt32))), (.int (nar .byte ((z1 >>> ((8 : Int32) &&& 31)).toInt8.toInt32)))]] 10 #[.val (.ref a9), .val (.int (0 : Int32))] [(.int z0)]
  exact go_ireturn d23_10 rfl (Or.inr (Or.inr (Or.inr (Or.inl rfl)))) rfl (congrArg Value.int (nar_z z0 h_0)) (by decide) (by decide) ⟨rfl, rfl⟩
def B12_82 : Bdy := (⟨"java/lang/String", "charAt", "(I)C"⟩, jdk_42_method_56_code, 2, (some .char), ({ frames := 4, cells := 0, slots := 0, locals := 53 } : Room))
set_option maxRecDepth 65536 in
set_option maxHeartbeats 4000000 in
theorem mt82 (Z : State) (a0 : Array Value) (hw : ∀ d ∈ tables_1, d.before a0 Z = true) (h0 : Heap) (zc : Int32) (r99 : Value) (SS : Sts Z h0 zc r99) (z0 z1 : Int32) (h_0 : 0 ≤ z0.toInt ∧ z0.toInt ≤ 65535) (h_1 : 0 ≤ z1.toInt ∧ z1.toInt ≤ 65535) (a9 : Addr) (a6 : Addr) :
    Met B12_82 Z a0 h0 #[(.ref a6), (.int (0 : Int32))] (mem5 a9 z0 z1 a6) (Ret (some (.int z0)) (mem5 a9 z0 z1 a6)) := by
  refine Met.of pn12 (ls := #[.val (.ref a6), .val (.int (0 : Int32))]) (fun m => by first | (simp [entryFrame, mkF, argsToLocals, Value.category, B12_82]; done) | rfl) ?_
  show Go B12_82 Z a0 h0 _ 0 0 (mem5 a9 z0 z1 a6) 0 #[.val (.ref a6), .val (.int (0 : Int32))] []
  refine go_aloadN 1 rfl d12_0 rfl rfl ?_
  refine go_callV 4 rfl d12_1 (wd hw 59 rfl) (wd hw 60 rfl) (wd hw 62 rfl) (wd hw 61 rfl) (wd hw 6 rfl) (wd hw 63 rfl) (by decide) (Mo.exa (i := 1) rfl) (mt83 Z a0 hw h0 zc r99 SS z0 z1 h_0 h_1 a9 a6) (argsL := []) (rest := []) rfl (ps := []) (by decide +kernel) rfl rfl 0 rfl (by decide) (by decide) (by decide) (by decide) ?_
  rintro _ _ ⟨rfl, rfl⟩
  show Go B12_82 Z a0 h0 _ 0 0 (mem5 a9 z0 z1 a6) 4 #[.val (.ref a6), .val (.int (0 : Int32))] [(.int (0 : Int32))]
  refine go_if 16 7 rfl (by decide) rfl d12_4 rfl (fun (hc4 : (0 : Int) = 0) => ?_) (fun (hc4 : ¬ ((0 : Int) = 0)) => absurd hc4 (by decide))
  refine go_aloadN 17 rfl d12_16 rfl rfl ?_
  refine go_get 1 0 20 rfl d12_17 rfl rfl rfl (wd hw 24 rfl) ?_
  refine go_iloadN 21 rfl d12_20 rfl ?_
  refine go_callS 24 rfl d12_21 (wd hw 99 rfl) (wd hw 100 rfl) (wd hw 43 rfl) (wd hw 101 rfl) (by decide) (Met.frame [ob a6 "java/lang/String" [("java/lang/String", "value", "[B", (.ref a9)), ("java/lang/String", "coder", "B", (.int (1 : Int32)))]] (mt84 Z a0 hw h0 zc r99 SS z0 z1 h_0 h_1 a9)) (argsL := [(.ref a9), (.int (0 : Int32))]) (rest := []) rfl (ps := [(.array .byte), .int]) (by decide +kernel) rfl rfl 0 rfl (by decide) (by decide) (by decide) (by decide) ?_
  rintro _ _ ⟨_, ⟨rfl, rfl⟩, rfl⟩
  show Go B12_82 Z a0 h0 _ 0 0 (mem5 a9 z0 z1 a6) 24 #[.val (.ref a6), .val (.int (0 : Int32))] [(.int z0)]
  exact go_ireturn d12_24 rfl (Or.inr (Or.inr (Or.inr (Or.inl rfl)))) rfl (congrArg Value.int (nar_z z0 h_0)) (by decide) (by decide) ⟨rfl, rfl⟩
def B16_95 : Bdy := (⟨"jdk/internal/util/Preconditions", "checkIndex", "(IILjava/util/function/BiFunction;)I"⟩, jdk_41_method_11_code, 3, (some .int), ({ frames := 0, cells := 0, slots := 0, locals := 0 } : Room))
set_option maxRecDepth 65536 in
set_option maxHeartbeats 4000000 in
theorem mt95 (Z : State) (a0 : Array Value) (hw : ∀ d ∈ tables_1, d.before a0 Z = true) (h0 : Heap) (zc : Int32) (r99 : Value) (SS : Sts Z h0 zc r99) (z0 z1 : Int32) (h_0 : 0 ≤ z0.toInt ∧ z0.toInt ≤ 65535) (h_1 : 0 ≤ z1.toInt ∧ z1.toInt ≤ 65535) :
    Met B16_95 Z a0 h0 #[(.int (1 : Int32)), (.int (2 : Int32)), r99] [] (Ret (some (.int (1 : Int32))) []) := by
  refine Met.of pn16 (ls := #[.val (.int (1 : Int32)), .val (.int (2 : Int32)), .val r99]) (fun m => by rcases ref_cases SS.2.2.2.1 with rfl | ⟨_, rfl⟩ <;> first | (simp [entryFrame, mkF, argsToLocals, Value.category, B16_95]; done) | rfl) ?_
  show Go B16_95 Z a0 h0 _ 0 0 [] 0 #[.val (.int (1 : Int32)), .val (.int (2 : Int32)), .val r99] []
  refine go_iloadN 1 rfl d16_0 rfl ?_
  refine go_if 9 4 rfl (by decide) rfl d16_1 rfl (fun (hc1 : (1 : Int) < 0) => absurd hc1 (by decide)) (fun (hc1 : ¬ ((1 : Int) < 0)) => ?_)
  refine go_iloadN 5 rfl d16_4 rfl ?_
  refine go_iloadN 6 rfl d16_5 rfl ?_
  refine go_icmp 16 9 rfl (by decide) rfl d16_6 rfl (fun (hc6 : (1 : Int) < (2 : Int)) => ?_) (fun (hc6 : ¬ ((1 : Int) < (2 : Int))) => absurd hc6 (by decide))
  refine go_iloadN 17 rfl d16_16 rfl ?_
  exact go_ireturn d16_17 rfl (Or.inl rfl) rfl rfl (by decide) (by decide) ⟨rfl, rfl⟩
def B15_94 : Bdy := (⟨"java/lang/String", "checkIndex", "(II)V"⟩, jdk_42_method_155_code, 2, none, ({ frames := 1, cells := 0, slots := 0, locals := 14 } : Room))
set_option maxRecDepth 65536 in
set_option maxHeartbeats 4000000 in
theorem mt94 (Z : State) (a0 : Array Value) (hw : ∀ d ∈ tables_1, d.before a0 Z = true) (h0 : Heap) (zc : Int32) (r99 : Value) (SS : Sts Z h0 zc r99) (z0 z1 : Int32) (h_0 : 0 ≤ z0.toInt ∧ z0.toInt ≤ 65535) (h_1 : 0 ≤ z1.toInt ∧ z1.toInt ≤ 65535) :
    Met B15_94 Z a0 h0 #[(.int (1 : Int32)), (.int (2 : Int32))] [] (Ret none []) := by
  refine Met.of pn15 (ls := #[.val (.int (1 : Int32)), .val (.int (2 : Int32))]) (fun m => by first | (simp [entryFrame, mkF, argsToLocals, Value.category, B15_94]; done) | rfl) ?_
  show Go B15_94 Z a0 h0 _ 0 0 [] 0 #[.val (.int (1 : Int32)), .val (.int (2 : Int32))] []
  refine go_iloadN 1 rfl d15_0 rfl ?_
  refine go_iloadN 2 rfl d15_1 rfl ?_
  refine go_getS 5 rfl d15_2 (wd hw 71 rfl) SS.2.2.1 ?_
  refine go_callS 8 rfl d15_5 (wd hw 73 rfl) (wd hw 74 rfl) (wd hw 72 rfl) (wd hw 75 rfl) (by decide) (mt95 Z a0 hw h0 zc r99 SS z0 z1 h_0 h_1) (argsL := [(.int (1 : Int32)), (.int (2 : Int32)), r99]) (rest := []) rfl (ps := [.int, .int, (.object "java/util/function/BiFunction")]) (by decide +kernel) rfl rfl 0 rfl (by decide) (by decide) (by decide) (by decide) ?_
  rintro _ _ ⟨rfl, rfl⟩
  show Go B15_94 Z a0 h0 _ 0 0 [] 8 #[.val (.int (1 : Int32)), .val (.int (2 : Int32))] [(.int (1 : Int32))]
  refine go_pop 9 rfl d15_8 rfl rfl ?_
  exact go_return d15_9 rfl rfl (by decide) (by decide) ⟨rfl, rfl⟩
def B24_93 : Bdy := (⟨"java/lang/StringUTF16", "checkIndex", "(I[B)V"⟩, jdk_52_method_91_code, 2, none, ({ frames := 2, cells := 0, slots := 0, locals := 27 } : Room))
set_option maxRecDepth 65536 in
set_option maxHeartbeats 4000000 in
theorem mt93 (Z : State) (a0 : Array Value) (hw : ∀ d ∈ tables_1, d.before a0 Z = true) (h0 : Heap) (zc : Int32) (r99 : Value) (SS : Sts Z h0 zc r99) (z0 z1 : Int32) (h_0 : 0 ≤ z0.toInt ∧ z0.toInt ≤ 65535) (h_1 : 0 ≤ z1.toInt ∧ z1.toInt ≤ 65535) (a9 : Addr) :
    Met B24_93 Z a0 h0 #[(.int (1 : Int32)), (.ref a9)] [ar a9 .byte [(.int (nar .byte ((z0 >>> ((0 : Int32) &&& 31)).toInt8.toInt32))), (.int (nar .byte ((z0 >>> ((8 : Int32) &&& 31)).toInt8.toInt32))), (.int (nar .byte ((z1 >>> ((0 : Int32) &&& 31)).toInt8.toInt32))), (.int (nar .byte ((z1 >>> ((8 : Int32) &&& 31)).toInt8.toInt32)))]] (Ret none [ar a9 .byte [(.int (nar .byte ((z0 >>> ((0 : Int32) &&& 31)).toInt8.toInt32))), (.int (nar .byte ((z0 >>> ((8 : Int32) &&& 31)).toInt8.toInt32))), (.int (nar .byte ((z1 >>> ((0 : Int32) &&& 31)).toInt8.toInt32))), (.int (nar .byte ((z1 >>> ((8 : Int32) &&& 31)).toInt8.toInt32)))]]) := by
  refine Met.of pn24 (ls := #[.val (.int (1 : Int32)), .val (.ref a9)]) (fun m => by first | (simp [entryFrame, mkF, argsToLocals, Value.category, B24_93]; done) | rfl) ?_
  show Go B24_93 Z a0 h0 _ 0 0 [ar a9 .byte [(.int (nar .byte ((z0 >>> ((0 : Int32) &&& 31)).toInt8.toInt32))), (.int (nar .byte ((z0 >>> ((8 : Int32) &&& 31)).toInt8.toInt32))), (.int (nar .byte ((z1 >>> ((0 : Int32) &&& 31)).toInt8.toInt32))), (.int (nar .byte ((z1 >>> ((8 : Int32) &&& 31)).toInt8.toInt32)))]] 0 #[.val (.int (1 : Int32)), .val (.ref a9)] []
  refine go_iloadN 1 rfl d24_0 rfl ?_
  refine go_aloadN 2 rfl d24_1 rfl rfl ?_
  refine go_callS 5 rfl d24_2 (wd hw 105 rfl) (wd hw 106 rfl) (wd hw 43 rfl) (wd hw 107 rfl) (by decide) (mt86 Z a0 hw h0 zc r99 SS z0 z1 h_0 h_1 a9) (argsL := [(.ref a9)]) (rest := [(.int (1 : Int32))]) rfl (ps := [(.array .byte)]) (by decide +kernel) rfl rfl 1 rfl (by decide) (by decide) (by decide) (by decide) ?_
  rintro _ _ ⟨rfl, rfl⟩
  show Go B24_93 Z a0 h0 _ 0 0 [ar a9 .byte [(.int (nar .byte ((z0 >>> ((0 : Int32) &&& 31)).toInt8.toInt32))), (.int (nar .byte ((z0 >>> ((8 : Int32) &&& 31)).toInt8.toInt32))), (.int (nar .byte ((z1 >>> ((0 : Int32) &&& 31)).toInt8.toInt32))), (.int (nar .byte ((z1 >>> ((8 : Int32) &&& 31)).toInt8.toInt32)))]] 5 #[.val (.int (1 : Int32)), .val (.ref a9)] [(.int (2 : Int32)), (.int (1 : Int32))]
  refine go_callS 8 rfl d24_5 (wd hw 108 rfl) (wd hw 69 rfl) (wd hw 6 rfl) (wd hw 70 rfl) (by decide) (Met.frame [ar a9 .byte [(.int (nar .byte ((z0 >>> ((0 : Int32) &&& 31)).toInt8.toInt32))), (.int (nar .byte ((z0 >>> ((8 : Int32) &&& 31)).toInt8.toInt32))), (.int (nar .byte ((z1 >>> ((0 : Int32) &&& 31)).toInt8.toInt32))), (.int (nar .byte ((z1 >>> ((8 : Int32) &&& 31)).toInt8.toInt32)))]] (mt94 Z a0 hw h0 zc r99 SS z0 z1 h_0 h_1)) (argsL := [(.int (1 : Int32)), (.int (2 : Int32))]) (rest := []) rfl (ps := [.int, .int]) (by decide +kernel) rfl rfl 0 rfl (by decide) (by decide) (by decide) (by decide) ?_
  rintro _ _ ⟨_, ⟨rfl, rfl⟩, rfl⟩
  show Go B24_93 Z a0 h0 _ 0 0 [ar a9 .byte [(.int (nar .byte ((z0 >>> ((0 : Int32) &&& 31)).toInt8.toInt32))), (.int (nar .byte ((z0 >>> ((8 : Int32) &&& 31)).toInt8.toInt32))), (.int (nar .byte ((z1 >>> ((0 : Int32) &&& 31)).toInt8.toInt32))), (.int (nar .byte ((z1 >>> ((8 : Int32) &&& 31)).toInt8.toInt32)))]] 8 #[.val (.int (1 : Int32)), .val (.ref a9)] []
  exact go_return d24_8 rfl rfl (by decide) (by decide) ⟨rfl, rfl⟩
def B23_92 : Bdy := (⟨"java/lang/StringUTF16", "charAt", "([BI)C"⟩, jdk_52_method_83_code, 2, (some .char), ({ frames := 3, cells := 0, slots := 0, locals := 40 } : Room))
set_option maxRecDepth 65536 in
set_option maxHeartbeats 4000000 in
theorem mt92 (Z : State) (a0 : Array Value) (hw : ∀ d ∈ tables_1, d.before a0 Z = true) (h0 : Heap) (zc : Int32) (r99 : Value) (SS : Sts Z h0 zc r99) (z0 z1 : Int32) (h_0 : 0 ≤ z0.toInt ∧ z0.toInt ≤ 65535) (h_1 : 0 ≤ z1.toInt ∧ z1.toInt ≤ 65535) (a9 : Addr) :
    Met B23_92 Z a0 h0 #[(.ref a9), (.int (1 : Int32))] [ar a9 .byte [(.int (nar .byte ((z0 >>> ((0 : Int32) &&& 31)).toInt8.toInt32))), (.int (nar .byte ((z0 >>> ((8 : Int32) &&& 31)).toInt8.toInt32))), (.int (nar .byte ((z1 >>> ((0 : Int32) &&& 31)).toInt8.toInt32))), (.int (nar .byte ((z1 >>> ((8 : Int32) &&& 31)).toInt8.toInt32)))]] (Ret (some (.int z1)) [ar a9 .byte [(.int (nar .byte ((z0 >>> ((0 : Int32) &&& 31)).toInt8.toInt32))), (.int (nar .byte ((z0 >>> ((8 : Int32) &&& 31)).toInt8.toInt32))), (.int (nar .byte ((z1 >>> ((0 : Int32) &&& 31)).toInt8.toInt32))), (.int (nar .byte ((z1 >>> ((8 : Int32) &&& 31)).toInt8.toInt32)))]]) := by
  refine Met.of pn23 (ls := #[.val (.ref a9), .val (.int (1 : Int32))]) (fun m => by first | (simp [entryFrame, mkF, argsToLocals, Value.category, B23_92]; done) | rfl) ?_
  show Go B23_92 Z a0 h0 _ 0 0 [ar a9 .byte [(.int (nar .byte ((z0 >>> ((0 : Int32) &&& 31)).toInt8.toInt32))), (.int (nar .byte ((z0 >>> ((8 : Int32) &&& 31)).toInt8.toInt32))), (.int (nar .byte ((z1 >>> ((0 : Int32) &&& 31)).toInt8.toInt32))), (.int (nar .byte ((z1 >>> ((8 : Int32) &&& 31)).toInt8.toInt32)))]] 0 #[.val (.ref a9), .val (.int (1 : Int32))] []
  refine go_iloadN 1 rfl d23_0 rfl ?_
  refine go_aloadN 2 rfl d23_1 rfl rfl ?_
  refine go_callS 5 rfl d23_2 (wd hw 102 rfl) (wd hw 103 rfl) (wd hw 43 rfl) (wd hw 104 rfl) (by decide) (mt93 Z a0 hw h0 zc r99 SS z0 z1 h_0 h_1 a9) (argsL := [(.int (1 : Int32)), (.ref a9)]) (rest := []) rfl (ps := [.int, (.array .byte)]) (by decide +kernel) rfl rfl 0 rfl (by decide) (by decide) (by decide) (by decide) ?_
  rintro _ _ ⟨rfl, rfl⟩
  show Go B23_92 Z a0 h0 _ 0 0 [ar a9 .byte [(.int (nar .byte ((z0 >>> ((0 : Int32) &&& 31)).toInt8.toInt32))), (.int (nar .byte ((z0 >>> ((8 : Int32) &&& 31)).toInt8.toInt32))), (.int (nar .byte ((z1 >>> ((0 : Int32) &&& 31)).toInt8.toInt32))), (.int (nar .byte ((z1 >>> ((8 : Int32) &&& 31)).toInt8.toInt32)))]] 5 #[.val (.ref a9), .val (.int (1 : Int32))] []
  refine go_aloadN 6 rfl d23_5 rfl rfl ?_
  refine go_iloadN 7 rfl d23_6 rfl ?_
  refine go_callS 10 rfl d23_7 (wd hw 96 rfl) (wd hw 97 rfl) (wd hw 43 rfl) (wd hw 98 rfl) (by decide) (mt76 Z a0 hw h0 zc r99 SS z0 z1 h_0 h_1 a9) (argsL := [(.ref a9), (.int (1 : Int32))]) (rest := []) rfl (ps := [(.array .byte), .int]) (by decide +kernel) rfl rfl 0 rfl (by decide) (by decide) (by decide) (by decide) ?_
  rintro _ _ ⟨rfl, rfl⟩
  show Go B23_92 Z a0 h0 _ 0 0 [ar a9 .byte [(.int (nar .byte ((z0 >>> ((0 : Int32) &&& 31)).toInt8.toInt32))), (.int (nar .byte ((z0 >>> ((8 : Int32) &&& 31)).toInt8.toInt32))), (.int (nar .byte ((z1 >>> ((0 : Int32) &&& 31)).toInt8.toInt32))), (.int (nar .byte ((z1 >>> ((8 : Int32) &&& 31)).toInt8.toInt32)))]] 10 #[.val (.ref a9), .val (.int (1 : Int32))] [(.int z1)]
  exact go_ireturn d23_10 rfl (Or.inr (Or.inr (Or.inr (Or.inl rfl)))) rfl (congrArg Value.int (nar_z z1 h_1)) (by decide) (by decide) ⟨rfl, rfl⟩
def B12_91 : Bdy := (⟨"java/lang/String", "charAt", "(I)C"⟩, jdk_42_method_56_code, 2, (some .char), ({ frames := 4, cells := 0, slots := 0, locals := 53 } : Room))
set_option maxRecDepth 65536 in
set_option maxHeartbeats 4000000 in
theorem mt91 (Z : State) (a0 : Array Value) (hw : ∀ d ∈ tables_1, d.before a0 Z = true) (h0 : Heap) (zc : Int32) (r99 : Value) (SS : Sts Z h0 zc r99) (z0 z1 : Int32) (h_0 : 0 ≤ z0.toInt ∧ z0.toInt ≤ 65535) (h_1 : 0 ≤ z1.toInt ∧ z1.toInt ≤ 65535) (a9 : Addr) (a6 : Addr) :
    Met B12_91 Z a0 h0 #[(.ref a6), (.int (1 : Int32))] (mem5 a9 z0 z1 a6) (Ret (some (.int z1)) (mem5 a9 z0 z1 a6)) := by
  refine Met.of pn12 (ls := #[.val (.ref a6), .val (.int (1 : Int32))]) (fun m => by first | (simp [entryFrame, mkF, argsToLocals, Value.category, B12_91]; done) | rfl) ?_
  show Go B12_91 Z a0 h0 _ 0 0 (mem5 a9 z0 z1 a6) 0 #[.val (.ref a6), .val (.int (1 : Int32))] []
  refine go_aloadN 1 rfl d12_0 rfl rfl ?_
  refine go_callV 4 rfl d12_1 (wd hw 59 rfl) (wd hw 60 rfl) (wd hw 62 rfl) (wd hw 61 rfl) (wd hw 6 rfl) (wd hw 63 rfl) (by decide) (Mo.exa (i := 1) rfl) (mt83 Z a0 hw h0 zc r99 SS z0 z1 h_0 h_1 a9 a6) (argsL := []) (rest := []) rfl (ps := []) (by decide +kernel) rfl rfl 0 rfl (by decide) (by decide) (by decide) (by decide) ?_
  rintro _ _ ⟨rfl, rfl⟩
  show Go B12_91 Z a0 h0 _ 0 0 (mem5 a9 z0 z1 a6) 4 #[.val (.ref a6), .val (.int (1 : Int32))] [(.int (0 : Int32))]
  refine go_if 16 7 rfl (by decide) rfl d12_4 rfl (fun (hc4 : (0 : Int) = 0) => ?_) (fun (hc4 : ¬ ((0 : Int) = 0)) => absurd hc4 (by decide))
  refine go_aloadN 17 rfl d12_16 rfl rfl ?_
  refine go_get 1 0 20 rfl d12_17 rfl rfl rfl (wd hw 24 rfl) ?_
  refine go_iloadN 21 rfl d12_20 rfl ?_
  refine go_callS 24 rfl d12_21 (wd hw 99 rfl) (wd hw 100 rfl) (wd hw 43 rfl) (wd hw 101 rfl) (by decide) (Met.frame [ob a6 "java/lang/String" [("java/lang/String", "value", "[B", (.ref a9)), ("java/lang/String", "coder", "B", (.int (1 : Int32)))]] (mt92 Z a0 hw h0 zc r99 SS z0 z1 h_0 h_1 a9)) (argsL := [(.ref a9), (.int (1 : Int32))]) (rest := []) rfl (ps := [(.array .byte), .int]) (by decide +kernel) rfl rfl 0 rfl (by decide) (by decide) (by decide) (by decide) ?_
  rintro _ _ ⟨_, ⟨rfl, rfl⟩, rfl⟩
  show Go B12_91 Z a0 h0 _ 0 0 (mem5 a9 z0 z1 a6) 24 #[.val (.ref a6), .val (.int (1 : Int32))] [(.int z1)]
  exact go_ireturn d12_24 rfl (Or.inr (Or.inr (Or.inr (Or.inl rfl)))) rfl (congrArg Value.int (nar_z z1 h_1)) (by decide) (by decide) ⟨rfl, rfl⟩
def B5_79 : Bdy := (⟨"com/example/tool_port/toolport/http/HttpSyntax", "isFieldValue", "(Ljava/lang/String;)Z"⟩, prog_33_method_3_code, 2, (some .boolean), ({ frames := 5, cells := 0, slots := 0, locals := 66 } : Room))
set_option maxRecDepth 65536 in
set_option maxHeartbeats 4000000 in
theorem mt79 (Z : State) (a0 : Array Value) (hw : ∀ d ∈ tables_1, d.before a0 Z = true) (h0 : Heap) (zc : Int32) (r99 : Value) (SS : Sts Z h0 zc r99) (z0 z1 : Int32) (h_0 : 0 ≤ z0.toInt ∧ z0.toInt ≤ 65535) (h_1 : 0 ≤ z1.toInt ∧ z1.toInt ≤ 65535) (a9 : Addr) (a6 : Addr) :
    Met B5_79 Z a0 h0 #[(.ref a6)] (mem5 a9 z0 z1 a6) (Qz ((z0.toInt = 9 ∨ (32 ≤ z0.toInt ∧ z0.toInt ≠ 127 ∧ z0.toInt ≤ 255)) ∧ (z1.toInt = 9 ∨ (32 ≤ z1.toInt ∧ z1.toInt ≠ 127 ∧ z1.toInt ≤ 255))) (mem5 a9 z0 z1 a6)) := by
  refine Met.of pn5 (ls := #[.val (.ref a6), .unset]) (fun m => by first | (simp [entryFrame, mkF, argsToLocals, Value.category, B5_79]; done) | rfl) ?_
  show Go B5_79 Z a0 h0 _ 0 0 (mem5 a9 z0 z1 a6) 0 #[.val (.ref a6), .unset] []
  refine go_iconst (0 : Int32) 1 rfl d5_0 rfl ?_
  refine go_istoreN #[.val (.ref a6), .val (.int (0 : Int32))] 2 rfl d5_1 rfl rfl ?_
  refine go_iloadN 3 rfl d5_2 rfl ?_
  refine go_aloadN 4 rfl d5_3 rfl rfl ?_
  refine go_callV 7 rfl d5_4 (wd hw 30 rfl) (wd hw 31 rfl) (wd hw 33 rfl) (wd hw 32 rfl) (wd hw 6 rfl) (wd hw 34 rfl) (by decide) (Mo.exa (i := 1) rfl) (mt80 Z a0 hw h0 zc r99 SS z0 z1 h_0 h_1 a9 a6) (argsL := []) (rest := [(.int (0 : Int32))]) rfl (ps := []) (by decide +kernel) rfl rfl 1 rfl (by decide) (by decide) (by decide) (by decide) ?_
  rintro _ _ ⟨rfl, rfl⟩
  show Go B5_79 Z a0 h0 _ 0 0 (mem5 a9 z0 z1 a6) 7 #[.val (.ref a6), .val (.int (0 : Int32))] [(.int (2 : Int32)), (.int (0 : Int32))]
  refine go_icmp 29 10 rfl (by decide) rfl d5_7 rfl (fun (hc7 : (2 : Int) ≤ (0 : Int)) => absurd hc7 (by decide)) (fun (hc7 : ¬ ((2 : Int) ≤ (0 : Int))) => ?_)
  refine go_aloadN 11 rfl d5_10 rfl rfl ?_
  refine go_iloadN 12 rfl d5_11 rfl ?_
  refine go_callV 15 rfl d5_12 (wd hw 54 rfl) (wd hw 55 rfl) (wd hw 57 rfl) (wd hw 56 rfl) (wd hw 6 rfl) (wd hw 58 rfl) (by decide) (Mo.exa (i := 1) rfl) (mt82 Z a0 hw h0 zc r99 SS z0 z1 h_0 h_1 a9 a6) (argsL := [(.int (0 : Int32))]) (rest := []) rfl (ps := [.int]) (by decide +kernel) rfl rfl 0 rfl (by decide) (by decide) (by decide) (by decide) ?_
  rintro _ _ ⟨rfl, rfl⟩
  show Go B5_79 Z a0 h0 _ 0 0 (mem5 a9 z0 z1 a6) 15 #[.val (.ref a6), .val (.int (0 : Int32))] [(.int z0)]
  refine go_callS 18 rfl d5_15 (wd hw 76 rfl) (wd hw 77 rfl) (wd hw 28 rfl) (wd hw 78 rfl) (by decide) (m_isFieldValueChar Z a0 hw h0 (mem5 a9 z0 z1 a6) z0) (argsL := [(.int z0)]) (rest := []) rfl (ps := [.int]) (by decide +kernel) rfl rfl 0 rfl (by decide) (by decide) (by decide) (by decide) ?_
  rintro _ _ ⟨z116, rfl, rfl, hz116⟩
  show Go B5_79 Z a0 h0 _ 0 0 (mem5 a9 z0 z1 a6) 18 #[.val (.ref a6), .val (.int (0 : Int32))] [(.int z116)]
  refine go_if 23 21 rfl (by decide) rfl d5_18 rfl (fun (hc18_89 : z116.toInt ≠ 0) => ?_) (fun (hc18_89 : ¬ (z116.toInt ≠ 0)) => ?_)
  · refine go_iinc #[.val (.ref a6), .val (.int (1 : Int32))] 26 rfl d5_23 rfl rfl ?_
    refine go_goto 2 (by decide) rfl d5_26 ?_
    refine go_iloadN 3 rfl d5_2 rfl ?_
    refine go_aloadN 4 rfl d5_3 rfl rfl ?_
    refine go_callV 7 rfl d5_4 (wd hw 30 rfl) (wd hw 31 rfl) (wd hw 33 rfl) (wd hw 32 rfl) (wd hw 6 rfl) (wd hw 34 rfl) (by decide) (Mo.exa (i := 1) rfl) (mt80 Z a0 hw h0 zc r99 SS z0 z1 h_0 h_1 a9 a6) (argsL := []) (rest := [(.int (1 : Int32))]) rfl (ps := []) (by decide +kernel) rfl rfl 1 rfl (by decide) (by decide) (by decide) (by decide) ?_
    rintro _ _ ⟨rfl, rfl⟩
    show Go B5_79 Z a0 h0 _ 0 0 (mem5 a9 z0 z1 a6) 7 #[.val (.ref a6), .val (.int (1 : Int32))] [(.int (2 : Int32)), (.int (1 : Int32))]
    refine go_icmp 29 10 rfl (by decide) rfl d5_7 rfl (fun (hc7 : (2 : Int) ≤ (1 : Int)) => absurd hc7 (by decide)) (fun (hc7 : ¬ ((2 : Int) ≤ (1 : Int))) => ?_)
    refine go_aloadN 11 rfl d5_10 rfl rfl ?_
    refine go_iloadN 12 rfl d5_11 rfl ?_
    refine go_callV 15 rfl d5_12 (wd hw 54 rfl) (wd hw 55 rfl) (wd hw 57 rfl) (wd hw 56 rfl) (wd hw 6 rfl) (wd hw 58 rfl) (by decide) (Mo.exa (i := 1) rfl) (mt91 Z a0 hw h0 zc r99 SS z0 z1 h_0 h_1 a9 a6) (argsL := [(.int (1 : Int32))]) (rest := []) rfl (ps := [.int]) (by decide +kernel) rfl rfl 0 rfl (by decide) (by decide) (by decide) (by decide) ?_
    rintro _ _ ⟨rfl, rfl⟩
    show Go B5_79 Z a0 h0 _ 0 0 (mem5 a9 z0 z1 a6) 15 #[.val (.ref a6), .val (.int (1 : Int32))] [(.int z1)]
    refine go_callS 18 rfl d5_15 (wd hw 76 rfl) (wd hw 77 rfl) (wd hw 28 rfl) (wd hw 78 rfl) (by decide) (m_isFieldValueChar Z a0 hw h0 (mem5 a9 z0 z1 a6) z1) (argsL := [(.int z1)]) (rest := []) rfl (ps := [.int]) (by decide +kernel) rfl rfl 0 rfl (by decide) (by decide) (by decide) (by decide) ?_
    rintro _ _ ⟨z117, rfl, rfl, hz117⟩
    show Go B5_79 Z a0 h0 _ 0 0 (mem5 a9 z0 z1 a6) 18 #[.val (.ref a6), .val (.int (1 : Int32))] [(.int z117)]
    refine go_if 23 21 rfl (by decide) rfl d5_18 rfl (fun (hc18_95 : z117.toInt ≠ 0) => ?_) (fun (hc18_95 : ¬ (z117.toInt ≠ 0)) => ?_)
    · refine go_iinc #[.val (.ref a6), .val (.int (2 : Int32))] 26 rfl d5_23 rfl rfl ?_
      refine go_goto 2 (by decide) rfl d5_26 ?_
      refine go_iloadN 3 rfl d5_2 rfl ?_
      refine go_aloadN 4 rfl d5_3 rfl rfl ?_
      refine go_callV 7 rfl d5_4 (wd hw 30 rfl) (wd hw 31 rfl) (wd hw 33 rfl) (wd hw 32 rfl) (wd hw 6 rfl) (wd hw 34 rfl) (by decide) (Mo.exa (i := 1) rfl) (mt80 Z a0 hw h0 zc r99 SS z0 z1 h_0 h_1 a9 a6) (argsL := []) (rest := [(.int (2 : Int32))]) rfl (ps := []) (by decide +kernel) rfl rfl 1 rfl (by decide) (by decide) (by decide) (by decide) ?_
      rintro _ _ ⟨rfl, rfl⟩
      show Go B5_79 Z a0 h0 _ 0 0 (mem5 a9 z0 z1 a6) 7 #[.val (.ref a6), .val (.int (2 : Int32))] [(.int (2 : Int32)), (.int (2 : Int32))]
      refine go_icmp 29 10 rfl (by decide) rfl d5_7 rfl (fun (hc7 : (2 : Int) ≤ (2 : Int)) => ?_) (fun (hc7 : ¬ ((2 : Int) ≤ (2 : Int))) => absurd hc7 (by decide))
      refine go_iconst (1 : Int32) 30 rfl d5_29 rfl ?_
      exact go_ireturn d5_30 rfl (Or.inr (Or.inl rfl)) rfl rfl (by decide) (by decide) ⟨_, rfl, rfl, Or.inl ⟨rfl, by omega⟩⟩
    · refine go_iconst (0 : Int32) 22 rfl d5_21 rfl ?_
      exact go_ireturn d5_22 rfl (Or.inr (Or.inl rfl)) rfl rfl (by decide) (by decide) ⟨_, rfl, rfl, Or.inr ⟨rfl, by omega⟩⟩
  · refine go_iconst (0 : Int32) 22 rfl d5_21 rfl ?_
    exact go_ireturn d5_22 rfl (Or.inr (Or.inl rfl)) rfl rfl (by decide) (by decide) ⟨_, rfl, rfl, Or.inr ⟨rfl, by omega⟩⟩
def B9_101 : Bdy := (⟨"java/lang/StringUTF16", "compress", "([CI[BII)I"⟩, jdk_52_method_21_code, 7, (some .int), ({ frames := 0, cells := 0, slots := 0, locals := 0 } : Room))
set_option maxRecDepth 65536 in
set_option maxHeartbeats 4000000 in
theorem mt101 (Z : State) (a0 : Array Value) (hw : ∀ d ∈ tables_1, d.before a0 Z = true) (h0 : Heap) (zc : Int32) (r99 : Value) (SS : Sts Z h0 zc r99) (z0 z1 : Int32) (h_0 : 0 ≤ z0.toInt ∧ z0.toInt ≤ 65535) (h_1 : 0 ≤ z1.toInt ∧ z1.toInt ≤ 65535) (g0 : ¬ z0.toInt ≤ 255) (a7 : Addr) (a311 : Addr) :
    Met B9_101 Z a0 h0 #[(.ref a7), (.int (0 : Int32)), (.ref a311), (.int (0 : Int32)), (.int (2 : Int32))] [ar a7 .char [(.int z0), (.int z1)], ar a311 .byte [(.int (0 : Int32)), (.int (0 : Int32))]] (Ret (some (.int (0 : Int32))) [ar a7 .char [(.int z0), (.int z1)], ar a311 .byte [(.int (0 : Int32)), (.int (0 : Int32))]]) := by
  refine Met.of pn9 (ls := #[.val (.ref a7), .val (.int (0 : Int32)), .val (.ref a311), .val (.int (0 : Int32)), .val (.int (2 : Int32)), .unset, .unset]) (fun m => by first | (simp [entryFrame, mkF, argsToLocals, Value.category, B9_101]; done) | rfl) ?_
  show Go B9_101 Z a0 h0 _ 0 0 [ar a7 .char [(.int z0), (.int z1)], ar a311 .byte [(.int (0 : Int32)), (.int (0 : Int32))]] 0 #[.val (.ref a7), .val (.int (0 : Int32)), .val (.ref a311), .val (.int (0 : Int32)), .val (.int (2 : Int32)), .unset, .unset] []
  refine go_iconst (0 : Int32) 1 rfl d9_0 rfl ?_
  refine go_istore #[.val (.ref a7), .val (.int (0 : Int32)), .val (.ref a311), .val (.int (0 : Int32)), .val (.int (2 : Int32)), .val (.int (0 : Int32)), .unset] 3 rfl d9_1 rfl rfl ?_
  refine go_iload 5 rfl d9_3 rfl ?_
  refine go_iload 7 rfl d9_5 rfl ?_
  refine go_icmp 44 10 rfl (by decide) rfl d9_7 rfl (fun (hc7 : (2 : Int) ≤ (0 : Int)) => absurd hc7 (by decide)) (fun (hc7 : ¬ ((2 : Int) ≤ (0 : Int))) => ?_)
  refine go_aloadN 11 rfl d9_10 rfl rfl ?_
  refine go_iloadN 12 rfl d9_11 rfl ?_
  refine go_caload 13 rfl d9_12 rfl (Mo.el (i := 0) rfl (by decide) rfl) ?_
  refine go_istore #[.val (.ref a7), .val (.int (0 : Int32)), .val (.ref a311), .val (.int (0 : Int32)), .val (.int (2 : Int32)), .val (.int (0 : Int32)), .val (.int z0)] 15 rfl d9_13 rfl rfl ?_
  refine go_iload 17 rfl d9_15 rfl ?_
  refine go_sipush (255 : Int32) 20 rfl d9_17 rfl ?_
  refine go_icmp 26 23 rfl (by decide) rfl d9_20 rfl (fun (hc20 : z0.toInt ≤ (255 : Int)) => absurd hc20 (by omega)) (fun (hc20 : ¬ (z0.toInt ≤ (255 : Int))) => ?_)
  refine go_iload 25 rfl d9_23 rfl ?_
  exact go_ireturn d9_25 rfl (Or.inl rfl) rfl rfl (by decide) (by decide) ⟨rfl, rfl⟩
def B8_100 : Bdy := (⟨"java/lang/StringUTF16", "compress", "([CII)[B"⟩, jdk_52_method_16_code, 6, (some (.array .byte)), ({ frames := 3, cells := 2, slots := 6, locals := 40 } : Room))
set_option maxRecDepth 65536 in
set_option maxHeartbeats 4000000 in
theorem mt100 (Z : State) (a0 : Array Value) (hw : ∀ d ∈ tables_1, d.before a0 Z = true) (h0 : Heap) (zc : Int32) (r99 : Value) (SS : Sts Z h0 zc r99) (z0 z1 : Int32) (h_0 : 0 ≤ z0.toInt ∧ z0.toInt ≤ 65535) (h_1 : 0 ≤ z1.toInt ∧ z1.toInt ≤ 65535) (g0 : ¬ z0.toInt ≤ 255) (a7 : Addr) :
    Met B8_100 Z a0 h0 #[(.ref a7), (.int (0 : Int32)), (.int (2 : Int32))] [ar a7 .char [(.int z0), (.int z1)]] (fun v ds => ∃ a312 a311 : Addr, Ret (some (.ref a312)) [ar a312 .byte [(.int (nar .byte ((z0 >>> ((0 : Int32) &&& 31)).toInt8.toInt32))), (.int (nar .byte ((z0 >>> ((8 : Int32) &&& 31)).toInt8.toInt32))), (.int (nar .byte ((z1 >>> ((0 : Int32) &&& 31)).toInt8.toInt32))), (.int (nar .byte ((z1 >>> ((8 : Int32) &&& 31)).toInt8.toInt32)))], ar a7 .char [(.int z0), (.int z1)], ar a311 .byte [(.int (0 : Int32)), (.int (0 : Int32))]] v ds) := by
  refine Met.of pn8 (ls := #[.val (.ref a7), .val (.int (0 : Int32)), .val (.int (2 : Int32)), .unset, .unset, .unset]) (fun m => by first | (simp [entryFrame, mkF, argsToLocals, Value.category, B8_100]; done) | rfl) ?_
  show Go B8_100 Z a0 h0 _ 0 0 [ar a7 .char [(.int z0), (.int z1)]] 0 #[.val (.ref a7), .val (.int (0 : Int32)), .val (.int (2 : Int32)), .unset, .unset, .unset] []
  refine go_iloadN 1 rfl d8_0 rfl ?_
  refine go_newarr 3 rfl d8_1 rfl (wd hw 19 rfl) (by decide) 2 (by decide) (by decide) (by decide) (by decide) (fun a311 => ?_)
  show Go B8_100 Z a0 h0 _ 1 2 [ar a7 .char [(.int z0), (.int z1)], ar a311 .byte [(.int (0 : Int32)), (.int (0 : Int32))]] 3 #[.val (.ref a7), .val (.int (0 : Int32)), .val (.int (2 : Int32)), .unset, .unset, .unset] [(.ref a311)]
  refine go_astoreN #[.val (.ref a7), .val (.int (0 : Int32)), .val (.int (2 : Int32)), .val (.ref a311), .unset, .unset] 4 rfl d8_3 rfl rfl rfl ?_
  refine go_aloadN 5 rfl d8_4 rfl rfl ?_
  refine go_iloadN 6 rfl d8_5 rfl ?_
  refine go_aloadN 7 rfl d8_6 rfl rfl ?_
  refine go_iconst (0 : Int32) 8 rfl d8_7 rfl ?_
  refine go_iloadN 9 rfl d8_8 rfl ?_
  refine go_callS 12 rfl d8_9 (wd hw 45 rfl) (wd hw 46 rfl) (wd hw 43 rfl) (wd hw 47 rfl) (by decide) (mt101 Z a0 hw h0 zc r99 SS z0 z1 h_0 h_1 g0 a7 a311) (argsL := [(.ref a7), (.int (0 : Int32)), (.ref a311), (.int (0 : Int32)), (.int (2 : Int32))]) (rest := []) rfl (ps := [(.array .char), .int, (.array .byte), .int, .int]) (by decide +kernel) rfl rfl 0 rfl (by decide) (by decide) (by decide) (by decide) ?_
  rintro _ _ ⟨rfl, rfl⟩
  show Go B8_100 Z a0 h0 _ 1 2 [ar a7 .char [(.int z0), (.int z1)], ar a311 .byte [(.int (0 : Int32)), (.int (0 : Int32))]] 12 #[.val (.ref a7), .val (.int (0 : Int32)), .val (.int (2 : Int32)), .val (.ref a311), .unset, .unset] [(.int (0 : Int32))]
  refine go_istore #[.val (.ref a7), .val (.int (0 : Int32)), .val (.int (2 : Int32)), .val (.ref a311), .val (.int (0 : Int32)), .unset] 14 rfl d8_12 rfl rfl ?_
  refine go_iload 16 rfl d8_14 rfl ?_
  refine go_iloadN 17 rfl d8_16 rfl ?_
  refine go_icmp 57 20 rfl (by decide) rfl d8_17 rfl (fun (hc17 : (0 : Int) = (2 : Int)) => absurd hc17 (by decide)) (fun (hc17 : ¬ ((0 : Int) = (2 : Int))) => ?_)
  refine go_aloadN 21 rfl d8_20 rfl rfl ?_
  refine go_iloadN 22 rfl d8_21 rfl ?_
  refine go_iloadN 23 rfl d8_22 rfl ?_
  refine go_callS 26 rfl d8_23 (wd hw 80 rfl) (wd hw 81 rfl) (wd hw 43 rfl) (wd hw 82 rfl) (by decide) (Met.frame [ar a311 .byte [(.int (0 : Int32)), (.int (0 : Int32))]] (mt71 Z a0 hw h0 zc r99 SS z0 z1 h_0 h_1 a7)) (argsL := [(.ref a7), (.int (0 : Int32)), (.int (2 : Int32))]) (rest := []) rfl (ps := [(.array .char), .int, .int]) (by decide +kernel) rfl rfl 0 rfl (by decide) (by decide) (by decide) (by decide) ?_
  rintro _ _ ⟨_, ⟨a312, rfl, rfl⟩, rfl⟩
  show Go B8_100 Z a0 h0 _ 2 6 [ar a312 .byte [(.int (nar .byte ((z0 >>> ((0 : Int32) &&& 31)).toInt8.toInt32))), (.int (nar .byte ((z0 >>> ((8 : Int32) &&& 31)).toInt8.toInt32))), (.int (nar .byte ((z1 >>> ((0 : Int32) &&& 31)).toInt8.toInt32))), (.int (nar .byte ((z1 >>> ((8 : Int32) &&& 31)).toInt8.toInt32)))], ar a7 .char [(.int z0), (.int z1)], ar a311 .byte [(.int (0 : Int32)), (.int (0 : Int32))]] 26 #[.val (.ref a7), .val (.int (0 : Int32)), .val (.int (2 : Int32)), .val (.ref a311), .val (.int (0 : Int32)), .unset] [(.ref a312)]
  refine go_astore #[.val (.ref a7), .val (.int (0 : Int32)), .val (.int (2 : Int32)), .val (.ref a311), .val (.int (0 : Int32)), .val (.ref a312)] 28 rfl d8_26 rfl rfl rfl ?_
  refine go_aload 30 rfl d8_28 rfl rfl ?_
  refine go_iload 32 rfl d8_30 rfl ?_
  refine go_callS 35 rfl d8_32 (wd hw 96 rfl) (wd hw 97 rfl) (wd hw 43 rfl) (wd hw 98 rfl) (by decide) (Met.frame [ar a7 .char [(.int z0), (.int z1)], ar a311 .byte [(.int (0 : Int32)), (.int (0 : Int32))]] (mt89 Z a0 hw h0 zc r99 SS z0 z1 h_0 h_1 a312)) (argsL := [(.ref a312), (.int (0 : Int32))]) (rest := []) rfl (ps := [(.array .byte), .int]) (by decide +kernel) rfl rfl 0 rfl (by decide) (by decide) (by decide) (by decide) ?_
  rintro _ _ ⟨_, ⟨rfl, rfl⟩, rfl⟩
  show Go B8_100 Z a0 h0 _ 2 6 [ar a312 .byte [(.int (nar .byte ((z0 >>> ((0 : Int32) &&& 31)).toInt8.toInt32))), (.int (nar .byte ((z0 >>> ((8 : Int32) &&& 31)).toInt8.toInt32))), (.int (nar .byte ((z1 >>> ((0 : Int32) &&& 31)).toInt8.toInt32))), (.int (nar .byte ((z1 >>> ((8 : Int32) &&& 31)).toInt8.toInt32)))], ar a7 .char [(.int z0), (.int z1)], ar a311 .byte [(.int (0 : Int32)), (.int (0 : Int32))]] 35 #[.val (.ref a7), .val (.int (0 : Int32)), .val (.int (2 : Int32)), .val (.ref a311), .val (.int (0 : Int32)), .val (.ref a312)] [(.int z0)]
  refine go_sipush (255 : Int32) 38 rfl d8_35 rfl ?_
  refine go_icmp 54 41 rfl (by decide) rfl d8_38 rfl (fun (hc38 : (255 : Int) < z0.toInt) => ?_) (fun (hc38 : ¬ ((255 : Int) < z0.toInt)) => absurd hc38 (by omega))
  refine go_aload 56 rfl d8_54 rfl rfl ?_
  exact go_areturn d8_56 rfl rfl rfl rfl (by decide) (by decide) ⟨a312, a311, rfl, rfl⟩
def B3_99 : Bdy := (⟨"java/lang/String", "<init>", "([CIILjava/lang/Void;)V"⟩, jdk_42_method_149_code, 6, none, ({ frames := 4, cells := 2, slots := 6, locals := 57 } : Room))
set_option maxRecDepth 65536 in
set_option maxHeartbeats 4000000 in
theorem mt99 (Z : State) (a0 : Array Value) (hw : ∀ d ∈ tables_1, d.before a0 Z = true) (h0 : Heap) (zc : Int32) (r99 : Value) (SS : Sts Z h0 zc r99) (z0 z1 : Int32) (h_0 : 0 ≤ z0.toInt ∧ z0.toInt ≤ 65535) (h_1 : 0 ≤ z1.toInt ∧ z1.toInt ≤ 65535) (g0 : ¬ z0.toInt ≤ 255) (a6 : Addr) (a7 : Addr) :
    Met B3_99 Z a0 h0 #[(.ref a6), (.ref a7), (.int (0 : Int32)), (.int (2 : Int32)), .null] [ob a6 "java/lang/String" [("java/lang/String", "value", "[B", .null), ("java/lang/String", "coder", "B", (.int (0 : Int32)))], ar a7 .char [(.int z0), (.int z1)]] (fun v ds => ∃ a211 a212 : Addr, Ret none (mem8 a211 z0 z1 a7 a212 a6) v ds) := by
  refine Met.of pn3 (ls := #[.val (.ref a6), .val (.ref a7), .val (.int (0 : Int32)), .val (.int (2 : Int32)), .val .null, .unset]) (fun m => by first | (simp [entryFrame, mkF, argsToLocals, Value.category, B3_99]; done) | rfl) ?_
  show Go B3_99 Z a0 h0 _ 0 0 [ob a6 "java/lang/String" [("java/lang/String", "value", "[B", .null), ("java/lang/String", "coder", "B", (.int (0 : Int32)))], ar a7 .char [(.int z0), (.int z1)]] 0 #[.val (.ref a6), .val (.ref a7), .val (.int (0 : Int32)), .val (.int (2 : Int32)), .val .null, .unset] []
  refine go_aloadN 1 rfl d3_0 rfl rfl ?_
  refine go_initObj 4 rfl d3_1 rfl (wd hw 15 rfl) (wd hw 16 rfl) (wd hw 17 rfl) rfl (by decide) (by decide) ?_
  refine go_iloadN 5 rfl d3_4 rfl ?_
  refine go_if 27 8 rfl (by decide) rfl d3_5 rfl (fun (hc5 : (2 : Int) ≠ 0) => ?_) (fun (hc5 : ¬ ((2 : Int) ≠ 0)) => absurd hc5 (by decide))
  refine go_getS 30 rfl d3_27 (wd hw 40 rfl) SS.1 ?_
  refine go_if 58 33 rfl (by decide) rfl d3_30 rfl (fun (hc30 : zc.toInt = 0) => absurd hc30 (by exact fun q => SS.2.1 (Int32.toInt_inj.mp q))) (fun (hc30 : ¬ (zc.toInt = 0)) => ?_)
  refine go_aloadN 34 rfl d3_33 rfl rfl ?_
  refine go_iloadN 35 rfl d3_34 rfl ?_
  refine go_iloadN 36 rfl d3_35 rfl ?_
  refine Go.front 1 (Nat.le_of_ble_eq_true rfl) ?_
  show Go B3_99 Z a0 h0 _ 0 0 [ar a7 .char [(.int z0), (.int z1)], ob a6 "java/lang/String" [("java/lang/String", "value", "[B", .null), ("java/lang/String", "coder", "B", (.int (0 : Int32)))]] 36 #[.val (.ref a6), .val (.ref a7), .val (.int (0 : Int32)), .val (.int (2 : Int32)), .val .null, .unset] [(.int (2 : Int32)), (.int (0 : Int32)), (.ref a7)]
  refine go_callS 39 rfl d3_36 (wd hw 41 rfl) (wd hw 42 rfl) (wd hw 43 rfl) (wd hw 44 rfl) (by decide) (Met.frame [ob a6 "java/lang/String" [("java/lang/String", "value", "[B", .null), ("java/lang/String", "coder", "B", (.int (0 : Int32)))]] (mt100 Z a0 hw h0 zc r99 SS z0 z1 h_0 h_1 g0 a7)) (argsL := [(.ref a7), (.int (0 : Int32)), (.int (2 : Int32))]) (rest := []) rfl (ps := [(.array .char), .int, .int]) (by decide +kernel) rfl rfl 0 rfl (by decide) (by decide) (by decide) (by decide) ?_
  rintro _ _ ⟨_, ⟨a211, a212, rfl, rfl⟩, rfl⟩
  show Go B3_99 Z a0 h0 _ 2 6 (mem6 a211 z0 z1 a7 a212 a6) 39 #[.val (.ref a6), .val (.ref a7), .val (.int (0 : Int32)), .val (.int (2 : Int32)), .val .null, .unset] [(.ref a211)]
  refine go_astore #[.val (.ref a6), .val (.ref a7), .val (.int (0 : Int32)), .val (.int (2 : Int32)), .val .null, .val (.ref a211)] 41 rfl d3_39 rfl rfl rfl ?_
  refine go_aloadN 42 rfl d3_41 rfl rfl ?_
  refine go_aload 44 rfl d3_42 rfl rfl ?_
  refine go_iloadN 45 rfl d3_44 rfl ?_
  refine go_callS 48 rfl d3_45 (wd hw 48 rfl) (wd hw 49 rfl) (wd hw 43 rfl) (wd hw 50 rfl) (by decide) (Met.frame [ar a7 .char [(.int z0), (.int z1)], ar a212 .byte [(.int (0 : Int32)), (.int (0 : Int32))], ob a6 "java/lang/String" [("java/lang/String", "value", "[B", .null), ("java/lang/String", "coder", "B", (.int (0 : Int32)))]] (mt77 Z a0 hw h0 zc r99 SS z0 z1 h_0 h_1 a211)) (argsL := [(.ref a211), (.int (2 : Int32))]) (rest := [(.ref a6)]) rfl (ps := [(.array .byte), .int]) (by decide +kernel) rfl rfl 1 rfl (by decide) (by decide) (by decide) (by decide) ?_
  rintro _ _ ⟨_, ⟨rfl, rfl⟩, rfl⟩
  show Go B3_99 Z a0 h0 _ 2 6 (mem6 a211 z0 z1 a7 a212 a6) 48 #[.val (.ref a6), .val (.ref a7), .val (.int (0 : Int32)), .val (.int (2 : Int32)), .val .null, .val (.ref a211)] [(.int (1 : Int32)), (.ref a6)]
  refine go_put 3 1 51 rfl d3_48 rfl rfl rfl (wd hw 25 rfl) (Or.inr ⟨(wd hw 21 rfl), rfl, rfl⟩) (wd hw 5 rfl) (ty := .byte) (by decide) rfl rfl ?_
  show Go B3_99 Z a0 h0 _ 2 6 (mem7 a211 z0 z1 a7 a212 a6) 51 #[.val (.ref a6), .val (.ref a7), .val (.int (0 : Int32)), .val (.int (2 : Int32)), .val .null, .val (.ref a211)] []
  refine go_aloadN 52 rfl d3_51 rfl rfl ?_
  refine go_aload 54 rfl d3_52 rfl rfl ?_
  refine go_put 3 0 57 rfl d3_54 rfl rfl rfl (wd hw 24 rfl) (Or.inr ⟨(wd hw 20 rfl), rfl, rfl⟩) (wd hw 5 rfl) (ty := (.array .byte)) (by decide) rfl rfl ?_
  show Go B3_99 Z a0 h0 _ 2 6 (mem8 a211 z0 z1 a7 a212 a6) 57 #[.val (.ref a6), .val (.ref a7), .val (.int (0 : Int32)), .val (.int (2 : Int32)), .val .null, .val (.ref a211)] []
  exact go_return d3_57 rfl rfl (by decide) (by decide) ⟨a211, a212, rfl, rfl⟩
def B2_98 : Bdy := (⟨"java/lang/String", "<init>", "([C)V"⟩, jdk_42_method_3_code, 2, none, ({ frames := 5, cells := 2, slots := 6, locals := 74 } : Room))
set_option maxRecDepth 65536 in
set_option maxHeartbeats 4000000 in
theorem mt98 (Z : State) (a0 : Array Value) (hw : ∀ d ∈ tables_1, d.before a0 Z = true) (h0 : Heap) (zc : Int32) (r99 : Value) (SS : Sts Z h0 zc r99) (z0 z1 : Int32) (h_0 : 0 ≤ z0.toInt ∧ z0.toInt ≤ 65535) (h_1 : 0 ≤ z1.toInt ∧ z1.toInt ≤ 65535) (g0 : ¬ z0.toInt ≤ 255) (a6 : Addr) (a7 : Addr) :
    Met B2_98 Z a0 h0 #[(.ref a6), (.ref a7)] [ob a6 "java/lang/String" [("java/lang/String", "value", "[B", .null), ("java/lang/String", "coder", "B", (.int (0 : Int32)))], ar a7 .char [(.int z0), (.int z1)]] (fun v ds => ∃ a111 a112 : Addr, Ret none (mem8 a111 z0 z1 a7 a112 a6) v ds) := by
  refine Met.of pn2 (ls := #[.val (.ref a6), .val (.ref a7)]) (fun m => by first | (simp [entryFrame, mkF, argsToLocals, Value.category, B2_98]; done) | rfl) ?_
  show Go B2_98 Z a0 h0 _ 0 0 [ob a6 "java/lang/String" [("java/lang/String", "value", "[B", .null), ("java/lang/String", "coder", "B", (.int (0 : Int32)))], ar a7 .char [(.int z0), (.int z1)]] 0 #[.val (.ref a6), .val (.ref a7)] []
  refine go_aloadN 1 rfl d2_0 rfl rfl ?_
  refine go_aloadN 2 rfl d2_1 rfl rfl ?_
  refine go_iconst (0 : Int32) 3 rfl d2_2 rfl ?_
  refine go_aloadN 4 rfl d2_3 rfl rfl ?_
  refine go_alen 1 5 rfl d2_4 rfl rfl ?_
  show Go B2_98 Z a0 h0 _ 0 0 [ob a6 "java/lang/String" [("java/lang/String", "value", "[B", .null), ("java/lang/String", "coder", "B", (.int (0 : Int32)))], ar a7 .char [(.int z0), (.int z1)]] 5 #[.val (.ref a6), .val (.ref a7)] [(.int (2 : Int32)), (.int (0 : Int32)), (.ref a7), (.ref a6)]
  refine go_aconstNull 6 rfl d2_5 ?_
  refine go_callI 9 rfl d2_6 rfl (wd hw 11 rfl) (wd hw 12 rfl) (wd hw 6 rfl) (wd hw 14 rfl) (by decide) (mt99 Z a0 hw h0 zc r99 SS z0 z1 h_0 h_1 g0 a6 a7) (argsL := [(.ref a7), (.int (0 : Int32)), (.int (2 : Int32)), .null]) (rest := []) rfl (ret := none) (ps := [(.array .char), .int, .int, (.object "java/lang/Void")]) (by decide +kernel) rfl rfl 0 rfl (by decide) (by decide) (by decide) (by decide) ?_
  rintro _ _ ⟨a111, a112, rfl, rfl⟩
  show Go B2_98 Z a0 h0 _ 2 6 (mem8 a111 z0 z1 a7 a112 a6) 9 #[.val (.ref a6), .val (.ref a7)] []
  exact go_return d2_9 rfl rfl (by decide) (by decide) ⟨a111, a112, rfl, rfl⟩
def B9_107 : Bdy := (⟨"java/lang/StringUTF16", "compress", "([CI[BII)I"⟩, jdk_52_method_21_code, 7, (some .int), ({ frames := 0, cells := 0, slots := 0, locals := 0 } : Room))
set_option maxRecDepth 65536 in
set_option maxHeartbeats 4000000 in
theorem mt107 (Z : State) (a0 : Array Value) (hw : ∀ d ∈ tables_1, d.before a0 Z = true) (h0 : Heap) (zc : Int32) (r99 : Value) (SS : Sts Z h0 zc r99) (z0 z1 z2 : Int32) (h_0 : 0 ≤ z0.toInt ∧ z0.toInt ≤ 65535) (h_1 : 0 ≤ z1.toInt ∧ z1.toInt ≤ 65535) (h_2 : 0 ≤ z2.toInt ∧ z2.toInt ≤ 65535) (g0 : z0.toInt ≤ 255) (g1 : z1.toInt ≤ 255) (g2 : z2.toInt ≤ 255) (a14 : Addr) (a315 : Addr) :
    Met B9_107 Z a0 h0 #[(.ref a14), (.int (0 : Int32)), (.ref a315), (.int (0 : Int32)), (.int (3 : Int32))] [ar a14 .char [(.int z0), (.int z1), (.int z2)], ar a315 .byte [(.int (0 : Int32)), (.int (0 : Int32)), (.int (0 : Int32))]] (Ret (some (.int (3 : Int32))) [ar a14 .char [(.int z0), (.int z1), (.int z2)], ar a315 .byte [(.int (nar .byte (z0.toInt8.toInt32))), (.int (nar .byte (z1.toInt8.toInt32))), (.int (nar .byte (z2.toInt8.toInt32)))]]) := by
  refine Met.of pn9 (ls := #[.val (.ref a14), .val (.int (0 : Int32)), .val (.ref a315), .val (.int (0 : Int32)), .val (.int (3 : Int32)), .unset, .unset]) (fun m => by first | (simp [entryFrame, mkF, argsToLocals, Value.category, B9_107]; done) | rfl) ?_
  show Go B9_107 Z a0 h0 _ 0 0 [ar a14 .char [(.int z0), (.int z1), (.int z2)], ar a315 .byte [(.int (0 : Int32)), (.int (0 : Int32)), (.int (0 : Int32))]] 0 #[.val (.ref a14), .val (.int (0 : Int32)), .val (.ref a315), .val (.int (0 : Int32)), .val (.int (3 : Int32)), .unset, .unset] []
  refine go_iconst (0 : Int32) 1 rfl d9_0 rfl ?_
  refine go_istore #[.val (.ref a14), .val (.int (0 : Int32)), .val (.ref a315), .val (.int (0 : Int32)), .val (.int (3 : Int32)), .val (.int (0 : Int32)), .unset] 3 rfl d9_1 rfl rfl ?_
  refine go_iload 5 rfl d9_3 rfl ?_
  refine go_iload 7 rfl d9_5 rfl ?_
  refine go_icmp 44 10 rfl (by decide) rfl d9_7 rfl (fun (hc7 : (3 : Int) ≤ (0 : Int)) => absurd hc7 (by decide)) (fun (hc7 : ¬ ((3 : Int) ≤ (0 : Int))) => ?_)
  refine go_aloadN 11 rfl d9_10 rfl rfl ?_
  refine go_iloadN 12 rfl d9_11 rfl ?_
  refine go_caload 13 rfl d9_12 rfl (Mo.el (i := 0) rfl (by decide) rfl) ?_
  refine go_istore #[.val (.ref a14), .val (.int (0 : Int32)), .val (.ref a315), .val (.int (0 : Int32)), .val (.int (3 : Int32)), .val (.int (0 : Int32)), .val (.int z0)] 15 rfl d9_13 rfl rfl ?_
  refine go_iload 17 rfl d9_15 rfl ?_
  refine go_sipush (255 : Int32) 20 rfl d9_17 rfl ?_
  refine go_icmp 26 23 rfl (by decide) rfl d9_20 rfl (fun (hc20 : z0.toInt ≤ (255 : Int)) => ?_) (fun (hc20 : ¬ (z0.toInt ≤ (255 : Int))) => absurd hc20 (by omega))
  refine go_aloadN 27 rfl d9_26 rfl rfl ?_
  refine go_iloadN 28 rfl d9_27 rfl ?_
  refine go_iload 30 rfl d9_28 rfl ?_
  refine go_i2b 31 rfl d9_30 rfl ?_
  refine go_bastore 1 32 rfl d9_31 rfl rfl (by decide) (Nat.le_of_ble_eq_true rfl) ?_
  show Go B9_107 Z a0 h0 _ 0 0 [ar a14 .char [(.int z0), (.int z1), (.int z2)], ar a315 .byte [(.int (nar .byte (z0.toInt8.toInt32))), (.int (0 : Int32)), (.int (0 : Int32))]] 32 #[.val (.ref a14), .val (.int (0 : Int32)), .val (.ref a315), .val (.int (0 : Int32)), .val (.int (3 : Int32)), .val (.int (0 : Int32)), .val (.int z0)] []
  refine go_iinc #[.val (.ref a14), .val (.int (1 : Int32)), .val (.ref a315), .val (.int (0 : Int32)), .val (.int (3 : Int32)), .val (.int (0 : Int32)), .val (.int z0)] 35 rfl d9_32 rfl rfl ?_
  refine go_iinc #[.val (.ref a14), .val (.int (1 : Int32)), .val (.ref a315), .val (.int (1 : Int32)), .val (.int (3 : Int32)), .val (.int (0 : Int32)), .val (.int z0)] 38 rfl d9_35 rfl rfl ?_
  refine go_iinc #[.val (.ref a14), .val (.int (1 : Int32)), .val (.ref a315), .val (.int (1 : Int32)), .val (.int (3 : Int32)), .val (.int (1 : Int32)), .val (.int z0)] 41 rfl d9_38 rfl rfl ?_
  refine go_goto 3 (by decide) rfl d9_41 ?_
  refine go_iload 5 rfl d9_3 rfl ?_
  refine go_iload 7 rfl d9_5 rfl ?_
  refine go_icmp 44 10 rfl (by decide) rfl d9_7 rfl (fun (hc7 : (3 : Int) ≤ (1 : Int)) => absurd hc7 (by decide)) (fun (hc7 : ¬ ((3 : Int) ≤ (1 : Int))) => ?_)
  refine go_aloadN 11 rfl d9_10 rfl rfl ?_
  refine go_iloadN 12 rfl d9_11 rfl ?_
  refine go_caload 13 rfl d9_12 rfl (Mo.el (i := 0) rfl (by decide) rfl) ?_
  refine go_istore #[.val (.ref a14), .val (.int (1 : Int32)), .val (.ref a315), .val (.int (1 : Int32)), .val (.int (3 : Int32)), .val (.int (1 : Int32)), .val (.int z1)] 15 rfl d9_13 rfl rfl ?_
  refine go_iload 17 rfl d9_15 rfl ?_
  refine go_sipush (255 : Int32) 20 rfl d9_17 rfl ?_
  refine go_icmp 26 23 rfl (by decide) rfl d9_20 rfl (fun (hc20 : z1.toInt ≤ (255 : Int)) => ?_) (fun (hc20 : ¬ (z1.toInt ≤ (255 : Int))) => absurd hc20 (by omega))
  refine go_aloadN 27 rfl d9_26 rfl rfl ?_
  refine go_iloadN 28 rfl d9_27 rfl ?_
  refine go_iload 30 rfl d9_28 rfl ?_
  refine go_i2b 31 rfl d9_30 rfl ?_
  refine go_bastore 1 32 rfl d9_31 rfl rfl (by decide) (Nat.le_of_ble_eq_true rfl) ?_
  show Go B9_107 Z a0 h0 _ 0 0 [ar a14 .char [(.int z0), (.int z1), (.int z2)], ar a315 .byte [(.int (nar .byte (z0.toInt8.toInt32))), (.int (nar .byte (z1.toInt8.toInt32))), (.int (0 : Int32))]] 32 #[.val (.ref a14), .val (.int (1 : Int32)), .val (.ref a315), .val (.int (1 : Int32)), .val (.int (3 : Int32)), .val (.int (1 : Int32)), .val (.int z1)] []
  refine go_iinc #[.val (.ref a14), .val (.int (2 : Int32)), .val (.ref a315), .val (.int (1 : Int32)), .val (.int (3 : Int32)), .val (.int (1 : Int32)), .val (.int z1)] 35 rfl d9_32 rfl rfl ?_
  refine go_iinc #[.val (.ref a14), .val (.int (2 : Int32)), .val (.ref a315), .val (.int (2 : Int32)), .val (.int (3 : Int32)), .val (.int (1 : Int32)), .val (.int z1)] 38 rfl d9_35 rfl rfl ?_
  refine go_iinc #[.val (.ref a14), .val (.int (2 : Int32)), .val (.ref a315), .val (.int (2 : Int32)), .val (.int (3 : Int32)), .val (.int (2 : Int32)), .val (.int z1)] 41 rfl d9_38 rfl rfl ?_
  refine go_goto 3 (by decide) rfl d9_41 ?_
  refine go_iload 5 rfl d9_3 rfl ?_
  refine go_iload 7 rfl d9_5 rfl ?_
  refine go_icmp 44 10 rfl (by decide) rfl d9_7 rfl (fun (hc7 : (3 : Int) ≤ (2 : Int)) => absurd hc7 (by decide)) (fun (hc7 : ¬ ((3 : Int) ≤ (2 : Int))) => ?_)
  refine go_aloadN 11 rfl d9_10 rfl rfl ?_
  refine go_iloadN 12 rfl d9_11 rfl ?_
  refine go_caload 13 rfl d9_12 rfl (Mo.el (i := 0) rfl (by decide) rfl) ?_
  refine go_istore #[.val (.ref a14), .val (.int (2 : Int32)), .val (.ref a315), .val (.int (2 : Int32)), .val (.int (3 : Int32)), .val (.int (2 : Int32)), .val (.int z2)] 15 rfl d9_13 rfl rfl ?_
  refine go_iload 17 rfl d9_15 rfl ?_
  refine go_sipush (255 : Int32) 20 rfl d9_17 rfl ?_
  refine go_icmp 26 23 rfl (by decide) rfl d9_20 rfl (fun (hc20 : z2.toInt ≤ (255 : Int)) => ?_) (fun (hc20 : ¬ (z2.toInt ≤ (255 : Int))) => absurd hc20 (by omega))
  refine go_aloadN 27 rfl d9_26 rfl rfl ?_
  refine go_iloadN 28 rfl d9_27 rfl ?_
  refine go_iload 30 rfl d9_28 rfl ?_
  refine go_i2b 31 rfl d9_30 rfl ?_
  refine go_bastore 1 32 rfl d9_31 rfl rfl (by decide) (Nat.le_of_ble_eq_true rfl) ?_
  show Go B9_107 Z a0 h0 _ 0 0 [ar a14 .char [(.int z0), (.int z1), (.int z2)], ar a315 .byte [(.int (nar .byte (z0.toInt8.toInt32))), (.int (nar .byte (z1.toInt8.toInt32))), (.int (nar .byte (z2.toInt8.toInt32)))]] 32 #[.val (.ref a14), .val (.int (2 : Int32)), .val (.ref a315), .val (.int (2 : Int32)), .val (.int (3 : Int32)), .val (.int (2 : Int32)), .val (.int z2)] []
  refine go_iinc #[.val (.ref a14), .val (.int (3 : Int32)), .val (.ref a315), .val (.int (2 : Int32)), .val (.int (3 : Int32)), .val (.int (2 : Int32)), .val (.int z2)] 35 rfl d9_32 rfl rfl ?_
  refine go_iinc #[.val (.ref a14), .val (.int (3 : Int32)), .val (.ref a315), .val (.int (3 : Int32)), .val (.int (3 : Int32)), .val (.int (2 : Int32)), .val (.int z2)] 38 rfl d9_35 rfl rfl ?_
  refine go_iinc #[.val (.ref a14), .val (.int (3 : Int32)), .val (.ref a315), .val (.int (3 : Int32)), .val (.int (3 : Int32)), .val (.int (3 : Int32)), .val (.int z2)] 41 rfl d9_38 rfl rfl ?_
  refine go_goto 3 (by decide) rfl d9_41 ?_
  refine go_iload 5 rfl d9_3 rfl ?_
  refine go_iload 7 rfl d9_5 rfl ?_
  refine go_icmp 44 10 rfl (by decide) rfl d9_7 rfl (fun (hc7 : (3 : Int) ≤ (3 : Int)) => ?_) (fun (hc7 : ¬ ((3 : Int) ≤ (3 : Int))) => absurd hc7 (by decide))
  refine go_iload 46 rfl d9_44 rfl ?_
  exact go_ireturn d9_46 rfl (Or.inl rfl) rfl rfl (by decide) (by decide) ⟨rfl, rfl⟩
def B8_106 : Bdy := (⟨"java/lang/StringUTF16", "compress", "([CII)[B"⟩, jdk_52_method_16_code, 6, (some (.array .byte)), ({ frames := 1, cells := 1, slots := 3, locals := 18 } : Room))
set_option maxRecDepth 65536 in
set_option maxHeartbeats 4000000 in
theorem mt106 (Z : State) (a0 : Array Value) (hw : ∀ d ∈ tables_1, d.before a0 Z = true) (h0 : Heap) (zc : Int32) (r99 : Value) (SS : Sts Z h0 zc r99) (z0 z1 z2 : Int32) (h_0 : 0 ≤ z0.toInt ∧ z0.toInt ≤ 65535) (h_1 : 0 ≤ z1.toInt ∧ z1.toInt ≤ 65535) (h_2 : 0 ≤ z2.toInt ∧ z2.toInt ≤ 65535) (g0 : z0.toInt ≤ 255) (g1 : z1.toInt ≤ 255) (g2 : z2.toInt ≤ 255) (a14 : Addr) :
    Met B8_106 Z a0 h0 #[(.ref a14), (.int (0 : Int32)), (.int (3 : Int32))] [ar a14 .char [(.int z0), (.int z1), (.int z2)]] (fun v ds => ∃ a315 : Addr, Ret (some (.ref a315)) [ar a14 .char [(.int z0), (.int z1), (.int z2)], ar a315 .byte [(.int (nar .byte (z0.toInt8.toInt32))), (.int (nar .byte (z1.toInt8.toInt32))), (.int (nar .byte (z2.toInt8.toInt32)))]] v ds) := by
  refine Met.of pn8 (ls := #[.val (.ref a14), .val (.int (0 : Int32)), .val (.int (3 : Int32)), .unset, .unset, .unset]) (fun m => by first | (simp [entryFrame, mkF, argsToLocals, Value.category, B8_106]; done) | rfl) ?_
  show Go B8_106 Z a0 h0 _ 0 0 [ar a14 .char [(.int z0), (.int z1), (.int z2)]] 0 #[.val (.ref a14), .val (.int (0 : Int32)), .val (.int (3 : Int32)), .unset, .unset, .unset] []
  refine go_iloadN 1 rfl d8_0 rfl ?_
  refine go_newarr 3 rfl d8_1 rfl (wd hw 19 rfl) (by decide) 3 (by decide) (by decide) (by decide) (by decide) (fun a315 => ?_)
  show Go B8_106 Z a0 h0 _ 1 3 [ar a14 .char [(.int z0), (.int z1), (.int z2)], ar a315 .byte [(.int (0 : Int32)), (.int (0 : Int32)), (.int (0 : Int32))]] 3 #[.val (.ref a14), .val (.int (0 : Int32)), .val (.int (3 : Int32)), .unset, .unset, .unset] [(.ref a315)]
  refine go_astoreN #[.val (.ref a14), .val (.int (0 : Int32)), .val (.int (3 : Int32)), .val (.ref a315), .unset, .unset] 4 rfl d8_3 rfl rfl rfl ?_
  refine go_aloadN 5 rfl d8_4 rfl rfl ?_
  refine go_iloadN 6 rfl d8_5 rfl ?_
  refine go_aloadN 7 rfl d8_6 rfl rfl ?_
  refine go_iconst (0 : Int32) 8 rfl d8_7 rfl ?_
  refine go_iloadN 9 rfl d8_8 rfl ?_
  refine go_callS 12 rfl d8_9 (wd hw 45 rfl) (wd hw 46 rfl) (wd hw 43 rfl) (wd hw 47 rfl) (by decide) (mt107 Z a0 hw h0 zc r99 SS z0 z1 z2 h_0 h_1 h_2 g0 g1 g2 a14 a315) (argsL := [(.ref a14), (.int (0 : Int32)), (.ref a315), (.int (0 : Int32)), (.int (3 : Int32))]) (rest := []) rfl (ps := [(.array .char), .int, (.array .byte), .int, .int]) (by decide +kernel) rfl rfl 0 rfl (by decide) (by decide) (by decide) (by decide) ?_
  rintro _ _ ⟨rfl, rfl⟩
  show Go B8_106 Z a0 h0 _ 1 3 [ar a14 .char [(.int z0), (.int z1), (.int z2)], ar a315 .byte [(.int (nar .byte (z0.toInt8.toInt32))), (.int (nar .byte (z1.toInt8.toInt32))), (.int (nar .byte (z2.toInt8.toInt32)))]] 12 #[.val (.ref a14), .val (.int (0 : Int32)), .val (.int (3 : Int32)), .val (.ref a315), .unset, .unset] [(.int (3 : Int32))]
  refine go_istore #[.val (.ref a14), .val (.int (0 : Int32)), .val (.int (3 : Int32)), .val (.ref a315), .val (.int (3 : Int32)), .unset] 14 rfl d8_12 rfl rfl ?_
  refine go_iload 16 rfl d8_14 rfl ?_
  refine go_iloadN 17 rfl d8_16 rfl ?_
  refine go_icmp 57 20 rfl (by decide) rfl d8_17 rfl (fun (hc17 : (3 : Int) = (3 : Int)) => ?_) (fun (hc17 : ¬ ((3 : Int) = (3 : Int))) => absurd hc17 (by decide))
  refine go_aloadN 58 rfl d8_57 rfl rfl ?_
  exact go_areturn d8_58 rfl rfl rfl rfl (by decide) (by decide) ⟨a315, rfl, rfl⟩
def B10_108 : Bdy := (⟨"java/lang/StringUTF16", "coderFromArrayLen", "([BI)B"⟩, jdk_52_method_15_code, 2, (some .byte), ({ frames := 0, cells := 0, slots := 0, locals := 0 } : Room))
set_option maxRecDepth 65536 in
set_option maxHeartbeats 4000000 in
theorem mt108 (Z : State) (a0 : Array Value) (hw : ∀ d ∈ tables_1, d.before a0 Z = true) (h0 : Heap) (zc : Int32) (r99 : Value) (SS : Sts Z h0 zc r99) (z0 z1 z2 : Int32) (h_0 : 0 ≤ z0.toInt ∧ z0.toInt ≤ 65535) (h_1 : 0 ≤ z1.toInt ∧ z1.toInt ≤ 65535) (h_2 : 0 ≤ z2.toInt ∧ z2.toInt ≤ 65535) (g0 : z0.toInt ≤ 255) (g1 : z1.toInt ≤ 255) (g2 : z2.toInt ≤ 255) (a215 : Addr) :
    Met B10_108 Z a0 h0 #[(.ref a215), (.int (3 : Int32))] [ar a215 .byte [(.int (nar .byte (z0.toInt8.toInt32))), (.int (nar .byte (z1.toInt8.toInt32))), (.int (nar .byte (z2.toInt8.toInt32)))]] (Ret (some (.int (0 : Int32))) [ar a215 .byte [(.int (nar .byte (z0.toInt8.toInt32))), (.int (nar .byte (z1.toInt8.toInt32))), (.int (nar .byte (z2.toInt8.toInt32)))]]) := by
  refine Met.of pn10 (ls := #[.val (.ref a215), .val (.int (3 : Int32))]) (fun m => by first | (simp [entryFrame, mkF, argsToLocals, Value.category, B10_108]; done) | rfl) ?_
  show Go B10_108 Z a0 h0 _ 0 0 [ar a215 .byte [(.int (nar .byte (z0.toInt8.toInt32))), (.int (nar .byte (z1.toInt8.toInt32))), (.int (nar .byte (z2.toInt8.toInt32)))]] 0 #[.val (.ref a215), .val (.int (3 : Int32))] []
  refine go_iloadN 1 rfl d10_0 rfl ?_
  refine go_aloadN 2 rfl d10_1 rfl rfl ?_
  refine go_alen 0 3 rfl d10_2 rfl rfl ?_
  show Go B10_108 Z a0 h0 _ 0 0 [ar a215 .byte [(.int (nar .byte (z0.toInt8.toInt32))), (.int (nar .byte (z1.toInt8.toInt32))), (.int (nar .byte (z2.toInt8.toInt32)))]] 3 #[.val (.ref a215), .val (.int (3 : Int32))] [(.int (3 : Int32)), (.int (3 : Int32))]
  refine go_isub 4 rfl d10_3 rfl ?_
  show Go B10_108 Z a0 h0 _ 0 0 [ar a215 .byte [(.int (nar .byte (z0.toInt8.toInt32))), (.int (nar .byte (z1.toInt8.toInt32))), (.int (nar .byte (z2.toInt8.toInt32)))]] 4 #[.val (.ref a215), .val (.int (3 : Int32))] [(.int (0 : Int32))]
  refine go_bipush (31 : Int32) 6 rfl d10_4 rfl ?_
  refine go_iushr 7 rfl d10_6 rfl ?_
  show Go B10_108 Z a0 h0 _ 0 0 [ar a215 .byte [(.int (nar .byte (z0.toInt8.toInt32))), (.int (nar .byte (z1.toInt8.toInt32))), (.int (nar .byte (z2.toInt8.toInt32)))]] 7 #[.val (.ref a215), .val (.int (3 : Int32))] [(.int (0 : Int32))]
  refine go_i2b 8 rfl d10_7 rfl ?_
  show Go B10_108 Z a0 h0 _ 0 0 [ar a215 .byte [(.int (nar .byte (z0.toInt8.toInt32))), (.int (nar .byte (z1.toInt8.toInt32))), (.int (nar .byte (z2.toInt8.toInt32)))]] 8 #[.val (.ref a215), .val (.int (3 : Int32))] [(.int (0 : Int32))]
  exact go_ireturn d10_8 rfl (Or.inr (Or.inr (Or.inl rfl))) rfl rfl (by decide) (by decide) ⟨rfl, rfl⟩
def B3_105 : Bdy := (⟨"java/lang/String", "<init>", "([CIILjava/lang/Void;)V"⟩, jdk_42_method_149_code, 6, none, ({ frames := 2, cells := 1, slots := 3, locals := 35 } : Room))
set_option maxRecDepth 65536 in
set_option maxHeartbeats 4000000 in
theorem mt105 (Z : State) (a0 : Array Value) (hw : ∀ d ∈ tables_1, d.before a0 Z = true) (h0 : Heap) (zc : Int32) (r99 : Value) (SS : Sts Z h0 zc r99) (z0 z1 z2 : Int32) (h_0 : 0 ≤ z0.toInt ∧ z0.toInt ≤ 65535) (h_1 : 0 ≤ z1.toInt ∧ z1.toInt ≤ 65535) (h_2 : 0 ≤ z2.toInt ∧ z2.toInt ≤ 65535) (g0 : z0.toInt ≤ 255) (g1 : z1.toInt ≤ 255) (g2 : z2.toInt ≤ 255) (a13 : Addr) (a14 : Addr) :
    Met B3_105 Z a0 h0 #[(.ref a13), (.ref a14), (.int (0 : Int32)), (.int (3 : Int32)), .null] [ob a13 "java/lang/String" [("java/lang/String", "value", "[B", .null), ("java/lang/String", "coder", "B", (.int (0 : Int32)))], ar a14 .char [(.int z0), (.int z1), (.int z2)]] (fun v ds => ∃ a215 : Addr, Ret none [ar a215 .byte [(.int (nar .byte (z0.toInt8.toInt32))), (.int (nar .byte (z1.toInt8.toInt32))), (.int (nar .byte (z2.toInt8.toInt32)))], ar a14 .char [(.int z0), (.int z1), (.int z2)], ob a13 "java/lang/String" [("java/lang/String", "value", "[B", (.ref a215)), ("java/lang/String", "coder", "B", (.int (0 : Int32)))]] v ds) := by
  refine Met.of pn3 (ls := #[.val (.ref a13), .val (.ref a14), .val (.int (0 : Int32)), .val (.int (3 : Int32)), .val .null, .unset]) (fun m => by first | (simp [entryFrame, mkF, argsToLocals, Value.category, B3_105]; done) | rfl) ?_
  show Go B3_105 Z a0 h0 _ 0 0 [ob a13 "java/lang/String" [("java/lang/String", "value", "[B", .null), ("java/lang/String", "coder", "B", (.int (0 : Int32)))], ar a14 .char [(.int z0), (.int z1), (.int z2)]] 0 #[.val (.ref a13), .val (.ref a14), .val (.int (0 : Int32)), .val (.int (3 : Int32)), .val .null, .unset] []
  refine go_aloadN 1 rfl d3_0 rfl rfl ?_
  refine go_initObj 4 rfl d3_1 rfl (wd hw 15 rfl) (wd hw 16 rfl) (wd hw 17 rfl) rfl (by decide) (by decide) ?_
  refine go_iloadN 5 rfl d3_4 rfl ?_
  refine go_if 27 8 rfl (by decide) rfl d3_5 rfl (fun (hc5 : (3 : Int) ≠ 0) => ?_) (fun (hc5 : ¬ ((3 : Int) ≠ 0)) => absurd hc5 (by decide))
  refine go_getS 30 rfl d3_27 (wd hw 40 rfl) SS.1 ?_
  refine go_if 58 33 rfl (by decide) rfl d3_30 rfl (fun (hc30 : zc.toInt = 0) => absurd hc30 (by exact fun q => SS.2.1 (Int32.toInt_inj.mp q))) (fun (hc30 : ¬ (zc.toInt = 0)) => ?_)
  refine go_aloadN 34 rfl d3_33 rfl rfl ?_
  refine go_iloadN 35 rfl d3_34 rfl ?_
  refine go_iloadN 36 rfl d3_35 rfl ?_
  refine Go.front 1 (Nat.le_of_ble_eq_true rfl) ?_
  show Go B3_105 Z a0 h0 _ 0 0 [ar a14 .char [(.int z0), (.int z1), (.int z2)], ob a13 "java/lang/String" [("java/lang/String", "value", "[B", .null), ("java/lang/String", "coder", "B", (.int (0 : Int32)))]] 36 #[.val (.ref a13), .val (.ref a14), .val (.int (0 : Int32)), .val (.int (3 : Int32)), .val .null, .unset] [(.int (3 : Int32)), (.int (0 : Int32)), (.ref a14)]
  refine go_callS 39 rfl d3_36 (wd hw 41 rfl) (wd hw 42 rfl) (wd hw 43 rfl) (wd hw 44 rfl) (by decide) (Met.frame [ob a13 "java/lang/String" [("java/lang/String", "value", "[B", .null), ("java/lang/String", "coder", "B", (.int (0 : Int32)))]] (mt106 Z a0 hw h0 zc r99 SS z0 z1 z2 h_0 h_1 h_2 g0 g1 g2 a14)) (argsL := [(.ref a14), (.int (0 : Int32)), (.int (3 : Int32))]) (rest := []) rfl (ps := [(.array .char), .int, .int]) (by decide +kernel) rfl rfl 0 rfl (by decide) (by decide) (by decide) (by decide) ?_
  rintro _ _ ⟨_, ⟨a215, rfl, rfl⟩, rfl⟩
  show Go B3_105 Z a0 h0 _ 1 3 [ar a14 .char [(.int z0), (.int z1), (.int z2)], ar a215 .byte [(.int (nar .byte (z0.toInt8.toInt32))), (.int (nar .byte (z1.toInt8.toInt32))), (.int (nar .byte (z2.toInt8.toInt32)))], ob a13 "java/lang/String" [("java/lang/String", "value", "[B", .null), ("java/lang/String", "coder", "B", (.int (0 : Int32)))]] 39 #[.val (.ref a13), .val (.ref a14), .val (.int (0 : Int32)), .val (.int (3 : Int32)), .val .null, .unset] [(.ref a215)]
  refine go_astore #[.val (.ref a13), .val (.ref a14), .val (.int (0 : Int32)), .val (.int (3 : Int32)), .val .null, .val (.ref a215)] 41 rfl d3_39 rfl rfl rfl ?_
  refine go_aloadN 42 rfl d3_41 rfl rfl ?_
  refine go_aload 44 rfl d3_42 rfl rfl ?_
  refine go_iloadN 45 rfl d3_44 rfl ?_
  refine Go.front 1 (Nat.le_of_ble_eq_true rfl) ?_
  show Go B3_105 Z a0 h0 _ 1 3 [ar a215 .byte [(.int (nar .byte (z0.toInt8.toInt32))), (.int (nar .byte (z1.toInt8.toInt32))), (.int (nar .byte (z2.toInt8.toInt32)))], ar a14 .char [(.int z0), (.int z1), (.int z2)], ob a13 "java/lang/String" [("java/lang/String", "value", "[B", .null), ("java/lang/String", "coder", "B", (.int (0 : Int32)))]] 45 #[.val (.ref a13), .val (.ref a14), .val (.int (0 : Int32)), .val (.int (3 : Int32)), .val .null, .val (.ref a215)] [(.int (3 : Int32)), (.ref a215), (.ref a13)]
  refine go_callS 48 rfl d3_45 (wd hw 48 rfl) (wd hw 49 rfl) (wd hw 43 rfl) (wd hw 50 rfl) (by decide) (Met.frame [ar a14 .char [(.int z0), (.int z1), (.int z2)], ob a13 "java/lang/String" [("java/lang/String", "value", "[B", .null), ("java/lang/String", "coder", "B", (.int (0 : Int32)))]] (mt108 Z a0 hw h0 zc r99 SS z0 z1 z2 h_0 h_1 h_2 g0 g1 g2 a215)) (argsL := [(.ref a215), (.int (3 : Int32))]) (rest := [(.ref a13)]) rfl (ps := [(.array .byte), .int]) (by decide +kernel) rfl rfl 1 rfl (by decide) (by decide) (by decide) (by decide) ?_
  rintro _ _ ⟨_, ⟨rfl, rfl⟩, rfl⟩
  show Go B3_105 Z a0 h0 _ 1 3 [ar a215 .byte [(.int (nar .byte (z0.toInt8.toInt32))), (.int (nar .byte (z1.toInt8.toInt32))), (.int (nar .byte (z2.toInt8.toInt32)))], ar a14 .char [(.int z0), (.int z1), (.int z2)], ob a13 "java/lang/String" [("java/lang/String", "value", "[B", .null), ("java/lang/String", "coder", "B", (.int (0 : Int32)))]] 48 #[.val (.ref a13), .val (.ref a14), .val (.int (0 : Int32)), .val (.int (3 : Int32)), .val .null, .val (.ref a215)] [(.int (0 : Int32)), (.ref a13)]
  refine go_put 2 1 51 rfl d3_48 rfl rfl rfl (wd hw 25 rfl) (Or.inr ⟨(wd hw 21 rfl), rfl, rfl⟩) (wd hw 5 rfl) (ty := .byte) (by decide) rfl rfl ?_
  show Go B3_105 Z a0 h0 _ 1 3 [ar a215 .byte [(.int (nar .byte (z0.toInt8.toInt32))), (.int (nar .byte (z1.toInt8.toInt32))), (.int (nar .byte (z2.toInt8.toInt32)))], ar a14 .char [(.int z0), (.int z1), (.int z2)], ob a13 "java/lang/String" [("java/lang/String", "value", "[B", .null), ("java/lang/String", "coder", "B", (.int (0 : Int32)))]] 51 #[.val (.ref a13), .val (.ref a14), .val (.int (0 : Int32)), .val (.int (3 : Int32)), .val .null, .val (.ref a215)] []
  refine go_aloadN 52 rfl d3_51 rfl rfl ?_
  refine go_aload 54 rfl d3_52 rfl rfl ?_
  refine go_put 2 0 57 rfl d3_54 rfl rfl rfl (wd hw 24 rfl) (Or.inr ⟨(wd hw 20 rfl), rfl, rfl⟩) (wd hw 5 rfl) (ty := (.array .byte)) (by decide) rfl rfl ?_
  show Go B3_105 Z a0 h0 _ 1 3 [ar a215 .byte [(.int (nar .byte (z0.toInt8.toInt32))), (.int (nar .byte (z1.toInt8.toInt32))), (.int (nar .byte (z2.toInt8.toInt32)))], ar a14 .char [(.int z0), (.int z1), (.int z2)], ob a13 "java/lang/String" [("java/lang/String", "value", "[B", (.ref a215)), ("java/lang/String", "coder", "B", (.int (0 : Int32)))]] 57 #[.val (.ref a13), .val (.ref a14), .val (.int (0 : Int32)), .val (.int (3 : Int32)), .val .null, .val (.ref a215)] []
  exact go_return d3_57 rfl rfl (by decide) (by decide) ⟨a215, rfl, rfl⟩
def B2_104 : Bdy := (⟨"java/lang/String", "<init>", "([C)V"⟩, jdk_42_method_3_code, 2, none, ({ frames := 3, cells := 1, slots := 3, locals := 52 } : Room))
set_option maxRecDepth 65536 in
set_option maxHeartbeats 4000000 in
theorem mt104 (Z : State) (a0 : Array Value) (hw : ∀ d ∈ tables_1, d.before a0 Z = true) (h0 : Heap) (zc : Int32) (r99 : Value) (SS : Sts Z h0 zc r99) (z0 z1 z2 : Int32) (h_0 : 0 ≤ z0.toInt ∧ z0.toInt ≤ 65535) (h_1 : 0 ≤ z1.toInt ∧ z1.toInt ≤ 65535) (h_2 : 0 ≤ z2.toInt ∧ z2.toInt ≤ 65535) (g0 : z0.toInt ≤ 255) (g1 : z1.toInt ≤ 255) (g2 : z2.toInt ≤ 255) (a13 : Addr) (a14 : Addr) :
    Met B2_104 Z a0 h0 #[(.ref a13), (.ref a14)] [ob a13 "java/lang/String" [("java/lang/String", "value", "[B", .null), ("java/lang/String", "coder", "B", (.int (0 : Int32)))], ar a14 .char [(.int z0), (.int z1), (.int z2)]] (fun v ds => ∃ a115 : Addr, Ret none [ar a115 .byte [(.int (nar .byte (z0.toInt8.toInt32))), (.int (nar .byte (z1.toInt8.toInt32))), (.int (nar .byte (z2.toInt8.toInt32)))], ar a14 .char [(.int z0), (.int z1), (.int z2)], ob a13 "java/lang/String" [("java/lang/String", "value", "[B", (.ref a115)), ("java/lang/String", "coder", "B", (.int (0 : Int32)))]] v ds) := by
  refine Met.of pn2 (ls := #[.val (.ref a13), .val (.ref a14)]) (fun m => by first | (simp [entryFrame, mkF, argsToLocals, Value.category, B2_104]; done) | rfl) ?_
  show Go B2_104 Z a0 h0 _ 0 0 [ob a13 "java/lang/String" [("java/lang/String", "value", "[B", .null), ("java/lang/String", "coder", "B", (.int (0 : Int32)))], ar a14 .char [(.int z0), (.int z1), (.int z2)]] 0 #[.val (.ref a13), .val (.ref a14)] []
  refine go_aloadN 1 rfl d2_0 rfl rfl ?_
  refine go_aloadN 2 rfl d2_1 rfl rfl ?_
  refine go_iconst (0 : Int32) 3 rfl d2_2 rfl ?_
  refine go_aloadN 4 rfl d2_3 rfl rfl ?_
  refine go_alen 1 5 rfl d2_4 rfl rfl ?_
  show Go B2_104 Z a0 h0 _ 0 0 [ob a13 "java/lang/String" [("java/lang/String", "value", "[B", .null), ("java/lang/String", "coder", "B", (.int (0 : Int32)))], ar a14 .char [(.int z0), (.int z1), (.int z2)]] 5 #[.val (.ref a13), .val (.ref a14)] [(.int (3 : Int32)), (.int (0 : Int32)), (.ref a14), (.ref a13)]
  refine go_aconstNull 6 rfl d2_5 ?_
  refine go_callI 9 rfl d2_6 rfl (wd hw 11 rfl) (wd hw 12 rfl) (wd hw 6 rfl) (wd hw 14 rfl) (by decide) (mt105 Z a0 hw h0 zc r99 SS z0 z1 z2 h_0 h_1 h_2 g0 g1 g2 a13 a14) (argsL := [(.ref a14), (.int (0 : Int32)), (.int (3 : Int32)), .null]) (rest := []) rfl (ret := none) (ps := [(.array .char), .int, .int, (.object "java/lang/Void")]) (by decide +kernel) rfl rfl 0 rfl (by decide) (by decide) (by decide) (by decide) ?_
  rintro _ _ ⟨a115, rfl, rfl⟩
  show Go B2_104 Z a0 h0 _ 1 3 [ar a115 .byte [(.int (nar .byte (z0.toInt8.toInt32))), (.int (nar .byte (z1.toInt8.toInt32))), (.int (nar .byte (z2.toInt8.toInt32)))], ar a14 .char [(.int z0), (.int z1), (.int z2)], ob a13 "java/lang/String" [("java/lang/String", "value", "[B", (.ref a115)), ("java/lang/String", "coder", "B", (.int (0 : Int32)))]] 9 #[.val (.ref a13), .val (.ref a14)] []
  exact go_return d2_9 rfl rfl (by decide) (by decide) ⟨a115, rfl, rfl⟩
def B7_112 : Bdy := (⟨"java/lang/String", "coder", "()B"⟩, jdk_42_method_152_code, 1, (some .byte), ({ frames := 0, cells := 0, slots := 0, locals := 0 } : Room))
set_option maxRecDepth 65536 in
set_option maxHeartbeats 4000000 in
theorem mt112 (Z : State) (a0 : Array Value) (hw : ∀ d ∈ tables_1, d.before a0 Z = true) (h0 : Heap) (zc : Int32) (r99 : Value) (SS : Sts Z h0 zc r99) (z0 z1 z2 : Int32) (h_0 : 0 ≤ z0.toInt ∧ z0.toInt ≤ 65535) (h_1 : 0 ≤ z1.toInt ∧ z1.toInt ≤ 65535) (h_2 : 0 ≤ z2.toInt ∧ z2.toInt ≤ 65535) (g0 : z0.toInt ≤ 255) (g1 : z1.toInt ≤ 255) (g2 : z2.toInt ≤ 255) (a15 : Addr) (a13 : Addr) :
    Met B7_112 Z a0 h0 #[(.ref a13)] [ar a15 .byte [(.int (nar .byte (z0.toInt8.toInt32))), (.int (nar .byte (z1.toInt8.toInt32))), (.int (nar .byte (z2.toInt8.toInt32)))], ob a13 "java/lang/String" [("java/lang/String", "value", "[B", (.ref a15)), ("java/lang/String", "coder", "B", (.int (0 : Int32)))]] (Ret (some (.int (0 : Int32))) [ar a15 .byte [(.int (nar .byte (z0.toInt8.toInt32))), (.int (nar .byte (z1.toInt8.toInt32))), (.int (nar .byte (z2.toInt8.toInt32)))], ob a13 "java/lang/String" [("java/lang/String", "value", "[B", (.ref a15)), ("java/lang/String", "coder", "B", (.int (0 : Int32)))]]) := by
  refine Met.of pn7 (ls := #[.val (.ref a13)]) (fun m => by first | (simp [entryFrame, mkF, argsToLocals, Value.category, B7_112]; done) | rfl) ?_
  show Go B7_112 Z a0 h0 _ 0 0 [ar a15 .byte [(.int (nar .byte (z0.toInt8.toInt32))), (.int (nar .byte (z1.toInt8.toInt32))), (.int (nar .byte (z2.toInt8.toInt32)))], ob a13 "java/lang/String" [("java/lang/String", "value", "[B", (.ref a15)), ("java/lang/String", "coder", "B", (.int (0 : Int32)))]] 0 #[.val (.ref a13)] []
  refine go_getS 3 rfl d7_0 (wd hw 40 rfl) SS.1 ?_
  refine go_if 13 6 rfl (by decide) rfl d7_3 rfl (fun (hc3 : zc.toInt = 0) => absurd hc3 (by exact fun q => SS.2.1 (Int32.toInt_inj.mp q))) (fun (hc3 : ¬ (zc.toInt = 0)) => ?_)
  refine go_aloadN 7 rfl d7_6 rfl rfl ?_
  refine go_get 1 1 10 rfl d7_7 rfl rfl rfl (wd hw 25 rfl) ?_
  refine go_goto 14 (by decide) rfl d7_10 ?_
  exact go_ireturn d7_14 rfl (Or.inr (Or.inr (Or.inl rfl))) rfl rfl (by decide) (by decide) ⟨rfl, rfl⟩
def B6_111 : Bdy := (⟨"java/lang/String", "length", "()I"⟩, jdk_42_method_54_code, 1, (some .int), ({ frames := 1, cells := 0, slots := 0, locals := 13 } : Room))
set_option maxRecDepth 65536 in
set_option maxHeartbeats 4000000 in
theorem mt111 (Z : State) (a0 : Array Value) (hw : ∀ d ∈ tables_1, d.before a0 Z = true) (h0 : Heap) (zc : Int32) (r99 : Value) (SS : Sts Z h0 zc r99) (z0 z1 z2 : Int32) (h_0 : 0 ≤ z0.toInt ∧ z0.toInt ≤ 65535) (h_1 : 0 ≤ z1.toInt ∧ z1.toInt ≤ 65535) (h_2 : 0 ≤ z2.toInt ∧ z2.toInt ≤ 65535) (g0 : z0.toInt ≤ 255) (g1 : z1.toInt ≤ 255) (g2 : z2.toInt ≤ 255) (a15 : Addr) (a13 : Addr) :
    Met B6_111 Z a0 h0 #[(.ref a13)] [ar a15 .byte [(.int (nar .byte (z0.toInt8.toInt32))), (.int (nar .byte (z1.toInt8.toInt32))), (.int (nar .byte (z2.toInt8.toInt32)))], ob a13 "java/lang/String" [("java/lang/String", "value", "[B", (.ref a15)), ("java/lang/String", "coder", "B", (.int (0 : Int32)))]] (Ret (some (.int (3 : Int32))) [ar a15 .byte [(.int (nar .byte (z0.toInt8.toInt32))), (.int (nar .byte (z1.toInt8.toInt32))), (.int (nar .byte (z2.toInt8.toInt32)))], ob a13 "java/lang/String" [("java/lang/String", "value", "[B", (.ref a15)), ("java/lang/String", "coder", "B", (.int (0 : Int32)))]]) := by
  refine Met.of pn6 (ls := #[.val (.ref a13)]) (fun m => by first | (simp [entryFrame, mkF, argsToLocals, Value.category, B6_111]; done) | rfl) ?_
  show Go B6_111 Z a0 h0 _ 0 0 [ar a15 .byte [(.int (nar .byte (z0.toInt8.toInt32))), (.int (nar .byte (z1.toInt8.toInt32))), (.int (nar .byte (z2.toInt8.toInt32)))], ob a13 "java/lang/String" [("java/lang/String", "value", "[B", (.ref a15)), ("java/lang/String", "coder", "B", (.int (0 : Int32)))]] 0 #[.val (.ref a13)] []
  refine go_aloadN 1 rfl d6_0 rfl rfl ?_
  refine go_get 1 0 4 rfl d6_1 rfl rfl rfl (wd hw 24 rfl) ?_
  refine go_alen 0 5 rfl d6_4 rfl rfl ?_
  show Go B6_111 Z a0 h0 _ 0 0 [ar a15 .byte [(.int (nar .byte (z0.toInt8.toInt32))), (.int (nar .byte (z1.toInt8.toInt32))), (.int (nar .byte (z2.toInt8.toInt32)))], ob a13 "java/lang/String" [("java/lang/String", "value", "[B", (.ref a15)), ("java/lang/String", "coder", "B", (.int (0 : Int32)))]] 5 #[.val (.ref a13)] [(.int (3 : Int32))]
  refine go_aloadN 6 rfl d6_5 rfl rfl ?_
  refine go_callV 9 rfl d6_6 (wd hw 35 rfl) (wd hw 36 rfl) (wd hw 38 rfl) (wd hw 37 rfl) (wd hw 6 rfl) (wd hw 39 rfl) (by decide) (Mo.exa (i := 1) rfl) (mt112 Z a0 hw h0 zc r99 SS z0 z1 z2 h_0 h_1 h_2 g0 g1 g2 a15 a13) (argsL := []) (rest := [(.int (3 : Int32))]) rfl (ps := []) (by decide +kernel) rfl rfl 1 rfl (by decide) (by decide) (by decide) (by decide) ?_
  rintro _ _ ⟨rfl, rfl⟩
  show Go B6_111 Z a0 h0 _ 0 0 [ar a15 .byte [(.int (nar .byte (z0.toInt8.toInt32))), (.int (nar .byte (z1.toInt8.toInt32))), (.int (nar .byte (z2.toInt8.toInt32)))], ob a13 "java/lang/String" [("java/lang/String", "value", "[B", (.ref a15)), ("java/lang/String", "coder", "B", (.int (0 : Int32)))]] 9 #[.val (.ref a13)] [(.int (0 : Int32)), (.int (3 : Int32))]
  refine go_ishr 10 rfl d6_9 rfl ?_
  show Go B6_111 Z a0 h0 _ 0 0 [ar a15 .byte [(.int (nar .byte (z0.toInt8.toInt32))), (.int (nar .byte (z1.toInt8.toInt32))), (.int (nar .byte (z2.toInt8.toInt32)))], ob a13 "java/lang/String" [("java/lang/String", "value", "[B", (.ref a15)), ("java/lang/String", "coder", "B", (.int (0 : Int32)))]] 10 #[.val (.ref a13)] [(.int (3 : Int32))]
  exact go_ireturn d6_10 rfl (Or.inl rfl) rfl rfl (by decide) (by decide) ⟨rfl, rfl⟩
def B13_114 : Bdy := (⟨"java/lang/String", "isLatin1", "()Z"⟩, jdk_42_method_154_code, 1, (some .boolean), ({ frames := 0, cells := 0, slots := 0, locals := 0 } : Room))
set_option maxRecDepth 65536 in
set_option maxHeartbeats 4000000 in
theorem mt114 (Z : State) (a0 : Array Value) (hw : ∀ d ∈ tables_1, d.before a0 Z = true) (h0 : Heap) (zc : Int32) (r99 : Value) (SS : Sts Z h0 zc r99) (z0 z1 z2 : Int32) (h_0 : 0 ≤ z0.toInt ∧ z0.toInt ≤ 65535) (h_1 : 0 ≤ z1.toInt ∧ z1.toInt ≤ 65535) (h_2 : 0 ≤ z2.toInt ∧ z2.toInt ≤ 65535) (g0 : z0.toInt ≤ 255) (g1 : z1.toInt ≤ 255) (g2 : z2.toInt ≤ 255) (a15 : Addr) (a13 : Addr) :
    Met B13_114 Z a0 h0 #[(.ref a13)] [ar a15 .byte [(.int (nar .byte (z0.toInt8.toInt32))), (.int (nar .byte (z1.toInt8.toInt32))), (.int (nar .byte (z2.toInt8.toInt32)))], ob a13 "java/lang/String" [("java/lang/String", "value", "[B", (.ref a15)), ("java/lang/String", "coder", "B", (.int (0 : Int32)))]] (Ret (some (.int (1 : Int32))) [ar a15 .byte [(.int (nar .byte (z0.toInt8.toInt32))), (.int (nar .byte (z1.toInt8.toInt32))), (.int (nar .byte (z2.toInt8.toInt32)))], ob a13 "java/lang/String" [("java/lang/String", "value", "[B", (.ref a15)), ("java/lang/String", "coder", "B", (.int (0 : Int32)))]]) := by
  refine Met.of pn13 (ls := #[.val (.ref a13)]) (fun m => by first | (simp [entryFrame, mkF, argsToLocals, Value.category, B13_114]; done) | rfl) ?_
  show Go B13_114 Z a0 h0 _ 0 0 [ar a15 .byte [(.int (nar .byte (z0.toInt8.toInt32))), (.int (nar .byte (z1.toInt8.toInt32))), (.int (nar .byte (z2.toInt8.toInt32)))], ob a13 "java/lang/String" [("java/lang/String", "value", "[B", (.ref a15)), ("java/lang/String", "coder", "B", (.int (0 : Int32)))]] 0 #[.val (.ref a13)] []
  refine go_getS 3 rfl d13_0 (wd hw 40 rfl) SS.1 ?_
  refine go_if 17 6 rfl (by decide) rfl d13_3 rfl (fun (hc3 : zc.toInt = 0) => absurd hc3 (by exact fun q => SS.2.1 (Int32.toInt_inj.mp q))) (fun (hc3 : ¬ (zc.toInt = 0)) => ?_)
  refine go_aloadN 7 rfl d13_6 rfl rfl ?_
  refine go_get 1 1 10 rfl d13_7 rfl rfl rfl (wd hw 25 rfl) ?_
  refine go_if 17 13 rfl (by decide) rfl d13_10 rfl (fun (hc10 : (0 : Int) ≠ 0) => absurd hc10 (by decide)) (fun (hc10 : ¬ ((0 : Int) ≠ 0)) => ?_)
  refine go_iconst (1 : Int32) 14 rfl d13_13 rfl ?_
  refine go_goto 18 (by decide) rfl d13_14 ?_
  exact go_ireturn d13_18 rfl (Or.inr (Or.inl rfl)) rfl rfl (by decide) (by decide) ⟨rfl, rfl⟩
def B16_117 : Bdy := (⟨"jdk/internal/util/Preconditions", "checkIndex", "(IILjava/util/function/BiFunction;)I"⟩, jdk_41_method_11_code, 3, (some .int), ({ frames := 0, cells := 0, slots := 0, locals := 0 } : Room))
set_option maxRecDepth 65536 in
set_option maxHeartbeats 4000000 in
theorem mt117 (Z : State) (a0 : Array Value) (hw : ∀ d ∈ tables_1, d.before a0 Z = true) (h0 : Heap) (zc : Int32) (r99 : Value) (SS : Sts Z h0 zc r99) (z0 z1 z2 : Int32) (h_0 : 0 ≤ z0.toInt ∧ z0.toInt ≤ 65535) (h_1 : 0 ≤ z1.toInt ∧ z1.toInt ≤ 65535) (h_2 : 0 ≤ z2.toInt ∧ z2.toInt ≤ 65535) (g0 : z0.toInt ≤ 255) (g1 : z1.toInt ≤ 255) (g2 : z2.toInt ≤ 255) :
    Met B16_117 Z a0 h0 #[(.int (0 : Int32)), (.int (3 : Int32)), r99] [] (Ret (some (.int (0 : Int32))) []) := by
  refine Met.of pn16 (ls := #[.val (.int (0 : Int32)), .val (.int (3 : Int32)), .val r99]) (fun m => by rcases ref_cases SS.2.2.2.1 with rfl | ⟨_, rfl⟩ <;> first | (simp [entryFrame, mkF, argsToLocals, Value.category, B16_117]; done) | rfl) ?_
  show Go B16_117 Z a0 h0 _ 0 0 [] 0 #[.val (.int (0 : Int32)), .val (.int (3 : Int32)), .val r99] []
  refine go_iloadN 1 rfl d16_0 rfl ?_
  refine go_if 9 4 rfl (by decide) rfl d16_1 rfl (fun (hc1 : (0 : Int) < 0) => absurd hc1 (by decide)) (fun (hc1 : ¬ ((0 : Int) < 0)) => ?_)
  refine go_iloadN 5 rfl d16_4 rfl ?_
  refine go_iloadN 6 rfl d16_5 rfl ?_
  refine go_icmp 16 9 rfl (by decide) rfl d16_6 rfl (fun (hc6 : (0 : Int) < (3 : Int)) => ?_) (fun (hc6 : ¬ ((0 : Int) < (3 : Int))) => absurd hc6 (by decide))
  refine go_iloadN 17 rfl d16_16 rfl ?_
  exact go_ireturn d16_17 rfl (Or.inl rfl) rfl rfl (by decide) (by decide) ⟨rfl, rfl⟩
def B15_116 : Bdy := (⟨"java/lang/String", "checkIndex", "(II)V"⟩, jdk_42_method_155_code, 2, none, ({ frames := 1, cells := 0, slots := 0, locals := 14 } : Room))
set_option maxRecDepth 65536 in
set_option maxHeartbeats 4000000 in
theorem mt116 (Z : State) (a0 : Array Value) (hw : ∀ d ∈ tables_1, d.before a0 Z = true) (h0 : Heap) (zc : Int32) (r99 : Value) (SS : Sts Z h0 zc r99) (z0 z1 z2 : Int32) (h_0 : 0 ≤ z0.toInt ∧ z0.toInt ≤ 65535) (h_1 : 0 ≤ z1.toInt ∧ z1.toInt ≤ 65535) (h_2 : 0 ≤ z2.toInt ∧ z2.toInt ≤ 65535) (g0 : z0.toInt ≤ 255) (g1 : z1.toInt ≤ 255) (g2 : z2.toInt ≤ 255) :
    Met B15_116 Z a0 h0 #[(.int (0 : Int32)), (.int (3 : Int32))] [] (Ret none []) := by
  refine Met.of pn15 (ls := #[.val (.int (0 : Int32)), .val (.int (3 : Int32))]) (fun m => by first | (simp [entryFrame, mkF, argsToLocals, Value.category, B15_116]; done) | rfl) ?_
  show Go B15_116 Z a0 h0 _ 0 0 [] 0 #[.val (.int (0 : Int32)), .val (.int (3 : Int32))] []
  refine go_iloadN 1 rfl d15_0 rfl ?_
  refine go_iloadN 2 rfl d15_1 rfl ?_
  refine go_getS 5 rfl d15_2 (wd hw 71 rfl) SS.2.2.1 ?_
  refine go_callS 8 rfl d15_5 (wd hw 73 rfl) (wd hw 74 rfl) (wd hw 72 rfl) (wd hw 75 rfl) (by decide) (mt117 Z a0 hw h0 zc r99 SS z0 z1 z2 h_0 h_1 h_2 g0 g1 g2) (argsL := [(.int (0 : Int32)), (.int (3 : Int32)), r99]) (rest := []) rfl (ps := [.int, .int, (.object "java/util/function/BiFunction")]) (by decide +kernel) rfl rfl 0 rfl (by decide) (by decide) (by decide) (by decide) ?_
  rintro _ _ ⟨rfl, rfl⟩
  show Go B15_116 Z a0 h0 _ 0 0 [] 8 #[.val (.int (0 : Int32)), .val (.int (3 : Int32))] [(.int (0 : Int32))]
  refine go_pop 9 rfl d15_8 rfl rfl ?_
  exact go_return d15_9 rfl rfl (by decide) (by decide) ⟨rfl, rfl⟩
def B14_115 : Bdy := (⟨"java/lang/StringLatin1", "charAt", "([BI)C"⟩, jdk_43_method_2_code, 2, (some .char), ({ frames := 2, cells := 0, slots := 0, locals := 27 } : Room))
set_option maxRecDepth 65536 in
set_option maxHeartbeats 4000000 in
theorem mt115 (Z : State) (a0 : Array Value) (hw : ∀ d ∈ tables_1, d.before a0 Z = true) (h0 : Heap) (zc : Int32) (r99 : Value) (SS : Sts Z h0 zc r99) (z0 z1 z2 : Int32) (h_0 : 0 ≤ z0.toInt ∧ z0.toInt ≤ 65535) (h_1 : 0 ≤ z1.toInt ∧ z1.toInt ≤ 65535) (h_2 : 0 ≤ z2.toInt ∧ z2.toInt ≤ 65535) (g0 : z0.toInt ≤ 255) (g1 : z1.toInt ≤ 255) (g2 : z2.toInt ≤ 255) (a15 : Addr) :
    Met B14_115 Z a0 h0 #[(.ref a15), (.int (0 : Int32))] [ar a15 .byte [(.int (nar .byte (z0.toInt8.toInt32))), (.int (nar .byte (z1.toInt8.toInt32))), (.int (nar .byte (z2.toInt8.toInt32)))]] (Ret (some (.int z0)) [ar a15 .byte [(.int (nar .byte (z0.toInt8.toInt32))), (.int (nar .byte (z1.toInt8.toInt32))), (.int (nar .byte (z2.toInt8.toInt32)))]]) := by
  refine Met.of pn14 (ls := #[.val (.ref a15), .val (.int (0 : Int32))]) (fun m => by first | (simp [entryFrame, mkF, argsToLocals, Value.category, B14_115]; done) | rfl) ?_
  show Go B14_115 Z a0 h0 _ 0 0 [ar a15 .byte [(.int (nar .byte (z0.toInt8.toInt32))), (.int (nar .byte (z1.toInt8.toInt32))), (.int (nar .byte (z2.toInt8.toInt32)))]] 0 #[.val (.ref a15), .val (.int (0 : Int32))] []
  refine go_iloadN 1 rfl d14_0 rfl ?_
  refine go_aloadN 2 rfl d14_1 rfl rfl ?_
  refine go_alen 0 3 rfl d14_2 rfl rfl ?_
  show Go B14_115 Z a0 h0 _ 0 0 [ar a15 .byte [(.int (nar .byte (z0.toInt8.toInt32))), (.int (nar .byte (z1.toInt8.toInt32))), (.int (nar .byte (z2.toInt8.toInt32)))]] 3 #[.val (.ref a15), .val (.int (0 : Int32))] [(.int (3 : Int32)), (.int (0 : Int32))]
  refine go_callS 6 rfl d14_3 (wd hw 68 rfl) (wd hw 69 rfl) (wd hw 6 rfl) (wd hw 70 rfl) (by decide) (Met.frame [ar a15 .byte [(.int (nar .byte (z0.toInt8.toInt32))), (.int (nar .byte (z1.toInt8.toInt32))), (.int (nar .byte (z2.toInt8.toInt32)))]] (mt116 Z a0 hw h0 zc r99 SS z0 z1 z2 h_0 h_1 h_2 g0 g1 g2)) (argsL := [(.int (0 : Int32)), (.int (3 : Int32))]) (rest := []) rfl (ps := [.int, .int]) (by decide +kernel) rfl rfl 0 rfl (by decide) (by decide) (by decide) (by decide) ?_
  rintro _ _ ⟨_, ⟨rfl, rfl⟩, rfl⟩
  show Go B14_115 Z a0 h0 _ 0 0 [ar a15 .byte [(.int (nar .byte (z0.toInt8.toInt32))), (.int (nar .byte (z1.toInt8.toInt32))), (.int (nar .byte (z2.toInt8.toInt32)))]] 6 #[.val (.ref a15), .val (.int (0 : Int32))] []
  refine go_aloadN 7 rfl d14_6 rfl rfl ?_
  refine go_iloadN 8 rfl d14_7 rfl ?_
  refine go_baload 9 rfl d14_8 rfl (Mo.el (i := 0) rfl (by decide) rfl) ?_
  refine go_sipush (255 : Int32) 12 rfl d14_9 rfl ?_
  refine go_iand 13 rfl d14_12 rfl ?_
  refine go_i2c 14 rfl d14_13 rfl ?_
  exact go_ireturn d14_14 rfl (Or.inr (Or.inr (Or.inr (Or.inl rfl)))) rfl (congrArg Value.int (nar_c _)) (by decide) (by decide) (by rw [lat z0 (by omega)]; exact ⟨rfl, rfl⟩)
def B12_113 : Bdy := (⟨"java/lang/String", "charAt", "(I)C"⟩, jdk_42_method_56_code, 2, (some .char), ({ frames := 3, cells := 0, slots := 0, locals := 40 } : Room))
set_option maxRecDepth 65536 in
set_option maxHeartbeats 4000000 in
theorem mt113 (Z : State) (a0 : Array Value) (hw : ∀ d ∈ tables_1, d.before a0 Z = true) (h0 : Heap) (zc : Int32) (r99 : Value) (SS : Sts Z h0 zc r99) (z0 z1 z2 : Int32) (h_0 : 0 ≤ z0.toInt ∧ z0.toInt ≤ 65535) (h_1 : 0 ≤ z1.toInt ∧ z1.toInt ≤ 65535) (h_2 : 0 ≤ z2.toInt ∧ z2.toInt ≤ 65535) (g0 : z0.toInt ≤ 255) (g1 : z1.toInt ≤ 255) (g2 : z2.toInt ≤ 255) (a15 : Addr) (a13 : Addr) :
    Met B12_113 Z a0 h0 #[(.ref a13), (.int (0 : Int32))] [ar a15 .byte [(.int (nar .byte (z0.toInt8.toInt32))), (.int (nar .byte (z1.toInt8.toInt32))), (.int (nar .byte (z2.toInt8.toInt32)))], ob a13 "java/lang/String" [("java/lang/String", "value", "[B", (.ref a15)), ("java/lang/String", "coder", "B", (.int (0 : Int32)))]] (Ret (some (.int z0)) [ar a15 .byte [(.int (nar .byte (z0.toInt8.toInt32))), (.int (nar .byte (z1.toInt8.toInt32))), (.int (nar .byte (z2.toInt8.toInt32)))], ob a13 "java/lang/String" [("java/lang/String", "value", "[B", (.ref a15)), ("java/lang/String", "coder", "B", (.int (0 : Int32)))]]) := by
  refine Met.of pn12 (ls := #[.val (.ref a13), .val (.int (0 : Int32))]) (fun m => by first | (simp [entryFrame, mkF, argsToLocals, Value.category, B12_113]; done) | rfl) ?_
  show Go B12_113 Z a0 h0 _ 0 0 [ar a15 .byte [(.int (nar .byte (z0.toInt8.toInt32))), (.int (nar .byte (z1.toInt8.toInt32))), (.int (nar .byte (z2.toInt8.toInt32)))], ob a13 "java/lang/String" [("java/lang/String", "value", "[B", (.ref a15)), ("java/lang/String", "coder", "B", (.int (0 : Int32)))]] 0 #[.val (.ref a13), .val (.int (0 : Int32))] []
  refine go_aloadN 1 rfl d12_0 rfl rfl ?_
  refine go_callV 4 rfl d12_1 (wd hw 59 rfl) (wd hw 60 rfl) (wd hw 62 rfl) (wd hw 61 rfl) (wd hw 6 rfl) (wd hw 63 rfl) (by decide) (Mo.exa (i := 1) rfl) (mt114 Z a0 hw h0 zc r99 SS z0 z1 z2 h_0 h_1 h_2 g0 g1 g2 a15 a13) (argsL := []) (rest := []) rfl (ps := []) (by decide +kernel) rfl rfl 0 rfl (by decide) (by decide) (by decide) (by decide) ?_
  rintro _ _ ⟨rfl, rfl⟩
  show Go B12_113 Z a0 h0 _ 0 0 [ar a15 .byte [(.int (nar .byte (z0.toInt8.toInt32))), (.int (nar .byte (z1.toInt8.toInt32))), (.int (nar .byte (z2.toInt8.toInt32)))], ob a13 "java/lang/String" [("java/lang/String", "value", "[B", (.ref a15)), ("java/lang/String", "coder", "B", (.int (0 : Int32)))]] 4 #[.val (.ref a13), .val (.int (0 : Int32))] [(.int (1 : Int32))]
  refine go_if 16 7 rfl (by decide) rfl d12_4 rfl (fun (hc4 : (1 : Int) = 0) => absurd hc4 (by decide)) (fun (hc4 : ¬ ((1 : Int) = 0)) => ?_)
  refine go_aloadN 8 rfl d12_7 rfl rfl ?_
  refine go_get 1 0 11 rfl d12_8 rfl rfl rfl (wd hw 24 rfl) ?_
  refine go_iloadN 12 rfl d12_11 rfl ?_
  refine go_callS 15 rfl d12_12 (wd hw 64 rfl) (wd hw 65 rfl) (wd hw 66 rfl) (wd hw 67 rfl) (by decide) (Met.frame [ob a13 "java/lang/String" [("java/lang/String", "value", "[B", (.ref a15)), ("java/lang/String", "coder", "B", (.int (0 : Int32)))]] (mt115 Z a0 hw h0 zc r99 SS z0 z1 z2 h_0 h_1 h_2 g0 g1 g2 a15)) (argsL := [(.ref a15), (.int (0 : Int32))]) (rest := []) rfl (ps := [(.array .byte), .int]) (by decide +kernel) rfl rfl 0 rfl (by decide) (by decide) (by decide) (by decide) ?_
  rintro _ _ ⟨_, ⟨rfl, rfl⟩, rfl⟩
  show Go B12_113 Z a0 h0 _ 0 0 [ar a15 .byte [(.int (nar .byte (z0.toInt8.toInt32))), (.int (nar .byte (z1.toInt8.toInt32))), (.int (nar .byte (z2.toInt8.toInt32)))], ob a13 "java/lang/String" [("java/lang/String", "value", "[B", (.ref a15)), ("java/lang/String", "coder", "B", (.int (0 : Int32)))]] 15 #[.val (.ref a13), .val (.int (0 : Int32))] [(.int z0)]
  exact go_ireturn d12_15 rfl (Or.inr (Or.inr (Or.inr (Or.inl rfl)))) rfl (congrArg Value.int (nar_z z0 h_0)) (by decide) (by decide) ⟨rfl, rfl⟩
def B16_122 : Bdy := (⟨"jdk/internal/util/Preconditions", "checkIndex", "(IILjava/util/function/BiFunction;)I"⟩, jdk_41_method_11_code, 3, (some .int), ({ frames := 0, cells := 0, slots := 0, locals := 0 } : Room))
set_option maxRecDepth 65536 in
set_option maxHeartbeats 4000000 in
theorem mt122 (Z : State) (a0 : Array Value) (hw : ∀ d ∈ tables_1, d.before a0 Z = true) (h0 : Heap) (zc : Int32) (r99 : Value) (SS : Sts Z h0 zc r99) (z0 z1 z2 : Int32) (h_0 : 0 ≤ z0.toInt ∧ z0.toInt ≤ 65535) (h_1 : 0 ≤ z1.toInt ∧ z1.toInt ≤ 65535) (h_2 : 0 ≤ z2.toInt ∧ z2.toInt ≤ 65535) (g0 : z0.toInt ≤ 255) (g1 : z1.toInt ≤ 255) (g2 : z2.toInt ≤ 255) :
    Met B16_122 Z a0 h0 #[(.int (1 : Int32)), (.int (3 : Int32)), r99] [] (Ret (some (.int (1 : Int32))) []) := by
  refine Met.of pn16 (ls := #[.val (.int (1 : Int32)), .val (.int (3 : Int32)), .val r99]) (fun m => by rcases ref_cases SS.2.2.2.1 with rfl | ⟨_, rfl⟩ <;> first | (simp [entryFrame, mkF, argsToLocals, Value.category, B16_122]; done) | rfl) ?_
  show Go B16_122 Z a0 h0 _ 0 0 [] 0 #[.val (.int (1 : Int32)), .val (.int (3 : Int32)), .val r99] []
  refine go_iloadN 1 rfl d16_0 rfl ?_
  refine go_if 9 4 rfl (by decide) rfl d16_1 rfl (fun (hc1 : (1 : Int) < 0) => absurd hc1 (by decide)) (fun (hc1 : ¬ ((1 : Int) < 0)) => ?_)
  refine go_iloadN 5 rfl d16_4 rfl ?_
  refine go_iloadN 6 rfl d16_5 rfl ?_
  refine go_icmp 16 9 rfl (by decide) rfl d16_6 rfl (fun (hc6 : (1 : Int) < (3 : Int)) => ?_) (fun (hc6 : ¬ ((1 : Int) < (3 : Int))) => absurd hc6 (by decide))
  refine go_iloadN 17 rfl d16_16 rfl ?_
  exact go_ireturn d16_17 rfl (Or.inl rfl) rfl rfl (by decide) (by decide) ⟨rfl, rfl⟩
def B15_121 : Bdy := (⟨"java/lang/String", "checkIndex", "(II)V"⟩, jdk_42_method_155_code, 2, none, ({ frames := 1, cells := 0, slots := 0, locals := 14 } : Room))
set_option maxRecDepth 65536 in
set_option maxHeartbeats 4000000 in
theorem mt121 (Z : State) (a0 : Array Value) (hw : ∀ d ∈ tables_1, d.before a0 Z = true) (h0 : Heap) (zc : Int32) (r99 : Value) (SS : Sts Z h0 zc r99) (z0 z1 z2 : Int32) (h_0 : 0 ≤ z0.toInt ∧ z0.toInt ≤ 65535) (h_1 : 0 ≤ z1.toInt ∧ z1.toInt ≤ 65535) (h_2 : 0 ≤ z2.toInt ∧ z2.toInt ≤ 65535) (g0 : z0.toInt ≤ 255) (g1 : z1.toInt ≤ 255) (g2 : z2.toInt ≤ 255) :
    Met B15_121 Z a0 h0 #[(.int (1 : Int32)), (.int (3 : Int32))] [] (Ret none []) := by
  refine Met.of pn15 (ls := #[.val (.int (1 : Int32)), .val (.int (3 : Int32))]) (fun m => by first | (simp [entryFrame, mkF, argsToLocals, Value.category, B15_121]; done) | rfl) ?_
  show Go B15_121 Z a0 h0 _ 0 0 [] 0 #[.val (.int (1 : Int32)), .val (.int (3 : Int32))] []
  refine go_iloadN 1 rfl d15_0 rfl ?_
  refine go_iloadN 2 rfl d15_1 rfl ?_
  refine go_getS 5 rfl d15_2 (wd hw 71 rfl) SS.2.2.1 ?_
  refine go_callS 8 rfl d15_5 (wd hw 73 rfl) (wd hw 74 rfl) (wd hw 72 rfl) (wd hw 75 rfl) (by decide) (mt122 Z a0 hw h0 zc r99 SS z0 z1 z2 h_0 h_1 h_2 g0 g1 g2) (argsL := [(.int (1 : Int32)), (.int (3 : Int32)), r99]) (rest := []) rfl (ps := [.int, .int, (.object "java/util/function/BiFunction")]) (by decide +kernel) rfl rfl 0 rfl (by decide) (by decide) (by decide) (by decide) ?_
  rintro _ _ ⟨rfl, rfl⟩
  show Go B15_121 Z a0 h0 _ 0 0 [] 8 #[.val (.int (1 : Int32)), .val (.int (3 : Int32))] [(.int (1 : Int32))]
  refine go_pop 9 rfl d15_8 rfl rfl ?_
  exact go_return d15_9 rfl rfl (by decide) (by decide) ⟨rfl, rfl⟩
def B14_120 : Bdy := (⟨"java/lang/StringLatin1", "charAt", "([BI)C"⟩, jdk_43_method_2_code, 2, (some .char), ({ frames := 2, cells := 0, slots := 0, locals := 27 } : Room))
set_option maxRecDepth 65536 in
set_option maxHeartbeats 4000000 in
theorem mt120 (Z : State) (a0 : Array Value) (hw : ∀ d ∈ tables_1, d.before a0 Z = true) (h0 : Heap) (zc : Int32) (r99 : Value) (SS : Sts Z h0 zc r99) (z0 z1 z2 : Int32) (h_0 : 0 ≤ z0.toInt ∧ z0.toInt ≤ 65535) (h_1 : 0 ≤ z1.toInt ∧ z1.toInt ≤ 65535) (h_2 : 0 ≤ z2.toInt ∧ z2.toInt ≤ 65535) (g0 : z0.toInt ≤ 255) (g1 : z1.toInt ≤ 255) (g2 : z2.toInt ≤ 255) (a15 : Addr) :
    Met B14_120 Z a0 h0 #[(.ref a15), (.int (1 : Int32))] [ar a15 .byte [(.int (nar .byte (z0.toInt8.toInt32))), (.int (nar .byte (z1.toInt8.toInt32))), (.int (nar .byte (z2.toInt8.toInt32)))]] (Ret (some (.int z1)) [ar a15 .byte [(.int (nar .byte (z0.toInt8.toInt32))), (.int (nar .byte (z1.toInt8.toInt32))), (.int (nar .byte (z2.toInt8.toInt32)))]]) := by
  refine Met.of pn14 (ls := #[.val (.ref a15), .val (.int (1 : Int32))]) (fun m => by first | (simp [entryFrame, mkF, argsToLocals, Value.category, B14_120]; done) | rfl) ?_
  show Go B14_120 Z a0 h0 _ 0 0 [ar a15 .byte [(.int (nar .byte (z0.toInt8.toInt32))), (.int (nar .byte (z1.toInt8.toInt32))), (.int (nar .byte (z2.toInt8.toInt32)))]] 0 #[.val (.ref a15), .val (.int (1 : Int32))] []
  refine go_iloadN 1 rfl d14_0 rfl ?_
  refine go_aloadN 2 rfl d14_1 rfl rfl ?_
  refine go_alen 0 3 rfl d14_2 rfl rfl ?_
  show Go B14_120 Z a0 h0 _ 0 0 [ar a15 .byte [(.int (nar .byte (z0.toInt8.toInt32))), (.int (nar .byte (z1.toInt8.toInt32))), (.int (nar .byte (z2.toInt8.toInt32)))]] 3 #[.val (.ref a15), .val (.int (1 : Int32))] [(.int (3 : Int32)), (.int (1 : Int32))]
  refine go_callS 6 rfl d14_3 (wd hw 68 rfl) (wd hw 69 rfl) (wd hw 6 rfl) (wd hw 70 rfl) (by decide) (Met.frame [ar a15 .byte [(.int (nar .byte (z0.toInt8.toInt32))), (.int (nar .byte (z1.toInt8.toInt32))), (.int (nar .byte (z2.toInt8.toInt32)))]] (mt121 Z a0 hw h0 zc r99 SS z0 z1 z2 h_0 h_1 h_2 g0 g1 g2)) (argsL := [(.int (1 : Int32)), (.int (3 : Int32))]) (rest := []) rfl (ps := [.int, .int]) (by decide +kernel) rfl rfl 0 rfl (by decide) (by decide) (by decide) (by decide) ?_
  rintro _ _ ⟨_, ⟨rfl, rfl⟩, rfl⟩
  show Go B14_120 Z a0 h0 _ 0 0 [ar a15 .byte [(.int (nar .byte (z0.toInt8.toInt32))), (.int (nar .byte (z1.toInt8.toInt32))), (.int (nar .byte (z2.toInt8.toInt32)))]] 6 #[.val (.ref a15), .val (.int (1 : Int32))] []
  refine go_aloadN 7 rfl d14_6 rfl rfl ?_
  refine go_iloadN 8 rfl d14_7 rfl ?_
  refine go_baload 9 rfl d14_8 rfl (Mo.el (i := 0) rfl (by decide) rfl) ?_
  refine go_sipush (255 : Int32) 12 rfl d14_9 rfl ?_
  refine go_iand 13 rfl d14_12 rfl ?_
  refine go_i2c 14 rfl d14_13 rfl ?_
  exact go_ireturn d14_14 rfl (Or.inr (Or.inr (Or.inr (Or.inl rfl)))) rfl (congrArg Value.int (nar_c _)) (by decide) (by decide) (by rw [lat z1 (by omega)]; exact ⟨rfl, rfl⟩)
def B12_119 : Bdy := (⟨"java/lang/String", "charAt", "(I)C"⟩, jdk_42_method_56_code, 2, (some .char), ({ frames := 3, cells := 0, slots := 0, locals := 40 } : Room))
set_option maxRecDepth 65536 in
set_option maxHeartbeats 4000000 in
theorem mt119 (Z : State) (a0 : Array Value) (hw : ∀ d ∈ tables_1, d.before a0 Z = true) (h0 : Heap) (zc : Int32) (r99 : Value) (SS : Sts Z h0 zc r99) (z0 z1 z2 : Int32) (h_0 : 0 ≤ z0.toInt ∧ z0.toInt ≤ 65535) (h_1 : 0 ≤ z1.toInt ∧ z1.toInt ≤ 65535) (h_2 : 0 ≤ z2.toInt ∧ z2.toInt ≤ 65535) (g0 : z0.toInt ≤ 255) (g1 : z1.toInt ≤ 255) (g2 : z2.toInt ≤ 255) (a15 : Addr) (a13 : Addr) :
    Met B12_119 Z a0 h0 #[(.ref a13), (.int (1 : Int32))] [ar a15 .byte [(.int (nar .byte (z0.toInt8.toInt32))), (.int (nar .byte (z1.toInt8.toInt32))), (.int (nar .byte (z2.toInt8.toInt32)))], ob a13 "java/lang/String" [("java/lang/String", "value", "[B", (.ref a15)), ("java/lang/String", "coder", "B", (.int (0 : Int32)))]] (Ret (some (.int z1)) [ar a15 .byte [(.int (nar .byte (z0.toInt8.toInt32))), (.int (nar .byte (z1.toInt8.toInt32))), (.int (nar .byte (z2.toInt8.toInt32)))], ob a13 "java/lang/String" [("java/lang/String", "value", "[B", (.ref a15)), ("java/lang/String", "coder", "B", (.int (0 : Int32)))]]) := by
  refine Met.of pn12 (ls := #[.val (.ref a13), .val (.int (1 : Int32))]) (fun m => by first | (simp [entryFrame, mkF, argsToLocals, Value.category, B12_119]; done) | rfl) ?_
  show Go B12_119 Z a0 h0 _ 0 0 [ar a15 .byte [(.int (nar .byte (z0.toInt8.toInt32))), (.int (nar .byte (z1.toInt8.toInt32))), (.int (nar .byte (z2.toInt8.toInt32)))], ob a13 "java/lang/String" [("java/lang/String", "value", "[B", (.ref a15)), ("java/lang/String", "coder", "B", (.int (0 : Int32)))]] 0 #[.val (.ref a13), .val (.int (1 : Int32))] []
  refine go_aloadN 1 rfl d12_0 rfl rfl ?_
  refine go_callV 4 rfl d12_1 (wd hw 59 rfl) (wd hw 60 rfl) (wd hw 62 rfl) (wd hw 61 rfl) (wd hw 6 rfl) (wd hw 63 rfl) (by decide) (Mo.exa (i := 1) rfl) (mt114 Z a0 hw h0 zc r99 SS z0 z1 z2 h_0 h_1 h_2 g0 g1 g2 a15 a13) (argsL := []) (rest := []) rfl (ps := []) (by decide +kernel) rfl rfl 0 rfl (by decide) (by decide) (by decide) (by decide) ?_
  rintro _ _ ⟨rfl, rfl⟩
  show Go B12_119 Z a0 h0 _ 0 0 [ar a15 .byte [(.int (nar .byte (z0.toInt8.toInt32))), (.int (nar .byte (z1.toInt8.toInt32))), (.int (nar .byte (z2.toInt8.toInt32)))], ob a13 "java/lang/String" [("java/lang/String", "value", "[B", (.ref a15)), ("java/lang/String", "coder", "B", (.int (0 : Int32)))]] 4 #[.val (.ref a13), .val (.int (1 : Int32))] [(.int (1 : Int32))]
  refine go_if 16 7 rfl (by decide) rfl d12_4 rfl (fun (hc4 : (1 : Int) = 0) => absurd hc4 (by decide)) (fun (hc4 : ¬ ((1 : Int) = 0)) => ?_)
  refine go_aloadN 8 rfl d12_7 rfl rfl ?_
  refine go_get 1 0 11 rfl d12_8 rfl rfl rfl (wd hw 24 rfl) ?_
  refine go_iloadN 12 rfl d12_11 rfl ?_
  refine go_callS 15 rfl d12_12 (wd hw 64 rfl) (wd hw 65 rfl) (wd hw 66 rfl) (wd hw 67 rfl) (by decide) (Met.frame [ob a13 "java/lang/String" [("java/lang/String", "value", "[B", (.ref a15)), ("java/lang/String", "coder", "B", (.int (0 : Int32)))]] (mt120 Z a0 hw h0 zc r99 SS z0 z1 z2 h_0 h_1 h_2 g0 g1 g2 a15)) (argsL := [(.ref a15), (.int (1 : Int32))]) (rest := []) rfl (ps := [(.array .byte), .int]) (by decide +kernel) rfl rfl 0 rfl (by decide) (by decide) (by decide) (by decide) ?_
  rintro _ _ ⟨_, ⟨rfl, rfl⟩, rfl⟩
  show Go B12_119 Z a0 h0 _ 0 0 [ar a15 .byte [(.int (nar .byte (z0.toInt8.toInt32))), (.int (nar .byte (z1.toInt8.toInt32))), (.int (nar .byte (z2.toInt8.toInt32)))], ob a13 "java/lang/String" [("java/lang/String", "value", "[B", (.ref a15)), ("java/lang/String", "coder", "B", (.int (0 : Int32)))]] 15 #[.val (.ref a13), .val (.int (1 : Int32))] [(.int z1)]
  exact go_ireturn d12_15 rfl (Or.inr (Or.inr (Or.inr (Or.inl rfl)))) rfl (congrArg Value.int (nar_z z1 h_1)) (by decide) (by decide) ⟨rfl, rfl⟩
def B16_127 : Bdy := (⟨"jdk/internal/util/Preconditions", "checkIndex", "(IILjava/util/function/BiFunction;)I"⟩, jdk_41_method_11_code, 3, (some .int), ({ frames := 0, cells := 0, slots := 0, locals := 0 } : Room))
set_option maxRecDepth 65536 in
set_option maxHeartbeats 4000000 in
theorem mt127 (Z : State) (a0 : Array Value) (hw : ∀ d ∈ tables_1, d.before a0 Z = true) (h0 : Heap) (zc : Int32) (r99 : Value) (SS : Sts Z h0 zc r99) (z0 z1 z2 : Int32) (h_0 : 0 ≤ z0.toInt ∧ z0.toInt ≤ 65535) (h_1 : 0 ≤ z1.toInt ∧ z1.toInt ≤ 65535) (h_2 : 0 ≤ z2.toInt ∧ z2.toInt ≤ 65535) (g0 : z0.toInt ≤ 255) (g1 : z1.toInt ≤ 255) (g2 : z2.toInt ≤ 255) :
    Met B16_127 Z a0 h0 #[(.int (2 : Int32)), (.int (3 : Int32)), r99] [] (Ret (some (.int (2 : Int32))) []) := by
  refine Met.of pn16 (ls := #[.val (.int (2 : Int32)), .val (.int (3 : Int32)), .val r99]) (fun m => by rcases ref_cases SS.2.2.2.1 with rfl | ⟨_, rfl⟩ <;> first | (simp [entryFrame, mkF, argsToLocals, Value.category, B16_127]; done) | rfl) ?_
  show Go B16_127 Z a0 h0 _ 0 0 [] 0 #[.val (.int (2 : Int32)), .val (.int (3 : Int32)), .val r99] []
  refine go_iloadN 1 rfl d16_0 rfl ?_
  refine go_if 9 4 rfl (by decide) rfl d16_1 rfl (fun (hc1 : (2 : Int) < 0) => absurd hc1 (by decide)) (fun (hc1 : ¬ ((2 : Int) < 0)) => ?_)
  refine go_iloadN 5 rfl d16_4 rfl ?_
  refine go_iloadN 6 rfl d16_5 rfl ?_
  refine go_icmp 16 9 rfl (by decide) rfl d16_6 rfl (fun (hc6 : (2 : Int) < (3 : Int)) => ?_) (fun (hc6 : ¬ ((2 : Int) < (3 : Int))) => absurd hc6 (by decide))
  refine go_iloadN 17 rfl d16_16 rfl ?_
  exact go_ireturn d16_17 rfl (Or.inl rfl) rfl rfl (by decide) (by decide) ⟨rfl, rfl⟩
def B15_126 : Bdy := (⟨"java/lang/String", "checkIndex", "(II)V"⟩, jdk_42_method_155_code, 2, none, ({ frames := 1, cells := 0, slots := 0, locals := 14 } : Room))
set_option maxRecDepth 65536 in
set_option maxHeartbeats 4000000 in
theorem mt126 (Z : State) (a0 : Array Value) (hw : ∀ d ∈ tables_1, d.before a0 Z = true) (h0 : Heap) (zc : Int32) (r99 : Value) (SS : Sts Z h0 zc r99) (z0 z1 z2 : Int32) (h_0 : 0 ≤ z0.toInt ∧ z0.toInt ≤ 65535) (h_1 : 0 ≤ z1.toInt ∧ z1.toInt ≤ 65535) (h_2 : 0 ≤ z2.toInt ∧ z2.toInt ≤ 65535) (g0 : z0.toInt ≤ 255) (g1 : z1.toInt ≤ 255) (g2 : z2.toInt ≤ 255) :
    Met B15_126 Z a0 h0 #[(.int (2 : Int32)), (.int (3 : Int32))] [] (Ret none []) := by
  refine Met.of pn15 (ls := #[.val (.int (2 : Int32)), .val (.int (3 : Int32))]) (fun m => by first | (simp [entryFrame, mkF, argsToLocals, Value.category, B15_126]; done) | rfl) ?_
  show Go B15_126 Z a0 h0 _ 0 0 [] 0 #[.val (.int (2 : Int32)), .val (.int (3 : Int32))] []
  refine go_iloadN 1 rfl d15_0 rfl ?_
  refine go_iloadN 2 rfl d15_1 rfl ?_
  refine go_getS 5 rfl d15_2 (wd hw 71 rfl) SS.2.2.1 ?_
  refine go_callS 8 rfl d15_5 (wd hw 73 rfl) (wd hw 74 rfl) (wd hw 72 rfl) (wd hw 75 rfl) (by decide) (mt127 Z a0 hw h0 zc r99 SS z0 z1 z2 h_0 h_1 h_2 g0 g1 g2) (argsL := [(.int (2 : Int32)), (.int (3 : Int32)), r99]) (rest := []) rfl (ps := [.int, .int, (.object "java/util/function/BiFunction")]) (by decide +kernel) rfl rfl 0 rfl (by decide) (by decide) (by decide) (by decide) ?_
  rintro _ _ ⟨rfl, rfl⟩
  show Go B15_126 Z a0 h0 _ 0 0 [] 8 #[.val (.int (2 : Int32)), .val (.int (3 : Int32))] [(.int (2 : Int32))]
  refine go_pop 9 rfl d15_8 rfl rfl ?_
  exact go_return d15_9 rfl rfl (by decide) (by decide) ⟨rfl, rfl⟩
def B14_125 : Bdy := (⟨"java/lang/StringLatin1", "charAt", "([BI)C"⟩, jdk_43_method_2_code, 2, (some .char), ({ frames := 2, cells := 0, slots := 0, locals := 27 } : Room))
set_option maxRecDepth 65536 in
set_option maxHeartbeats 4000000 in
theorem mt125 (Z : State) (a0 : Array Value) (hw : ∀ d ∈ tables_1, d.before a0 Z = true) (h0 : Heap) (zc : Int32) (r99 : Value) (SS : Sts Z h0 zc r99) (z0 z1 z2 : Int32) (h_0 : 0 ≤ z0.toInt ∧ z0.toInt ≤ 65535) (h_1 : 0 ≤ z1.toInt ∧ z1.toInt ≤ 65535) (h_2 : 0 ≤ z2.toInt ∧ z2.toInt ≤ 65535) (g0 : z0.toInt ≤ 255) (g1 : z1.toInt ≤ 255) (g2 : z2.toInt ≤ 255) (a15 : Addr) :
    Met B14_125 Z a0 h0 #[(.ref a15), (.int (2 : Int32))] [ar a15 .byte [(.int (nar .byte (z0.toInt8.toInt32))), (.int (nar .byte (z1.toInt8.toInt32))), (.int (nar .byte (z2.toInt8.toInt32)))]] (Ret (some (.int z2)) [ar a15 .byte [(.int (nar .byte (z0.toInt8.toInt32))), (.int (nar .byte (z1.toInt8.toInt32))), (.int (nar .byte (z2.toInt8.toInt32)))]]) := by
  refine Met.of pn14 (ls := #[.val (.ref a15), .val (.int (2 : Int32))]) (fun m => by first | (simp [entryFrame, mkF, argsToLocals, Value.category, B14_125]; done) | rfl) ?_
  show Go B14_125 Z a0 h0 _ 0 0 [ar a15 .byte [(.int (nar .byte (z0.toInt8.toInt32))), (.int (nar .byte (z1.toInt8.toInt32))), (.int (nar .byte (z2.toInt8.toInt32)))]] 0 #[.val (.ref a15), .val (.int (2 : Int32))] []
  refine go_iloadN 1 rfl d14_0 rfl ?_
  refine go_aloadN 2 rfl d14_1 rfl rfl ?_
  refine go_alen 0 3 rfl d14_2 rfl rfl ?_
  show Go B14_125 Z a0 h0 _ 0 0 [ar a15 .byte [(.int (nar .byte (z0.toInt8.toInt32))), (.int (nar .byte (z1.toInt8.toInt32))), (.int (nar .byte (z2.toInt8.toInt32)))]] 3 #[.val (.ref a15), .val (.int (2 : Int32))] [(.int (3 : Int32)), (.int (2 : Int32))]
  refine go_callS 6 rfl d14_3 (wd hw 68 rfl) (wd hw 69 rfl) (wd hw 6 rfl) (wd hw 70 rfl) (by decide) (Met.frame [ar a15 .byte [(.int (nar .byte (z0.toInt8.toInt32))), (.int (nar .byte (z1.toInt8.toInt32))), (.int (nar .byte (z2.toInt8.toInt32)))]] (mt126 Z a0 hw h0 zc r99 SS z0 z1 z2 h_0 h_1 h_2 g0 g1 g2)) (argsL := [(.int (2 : Int32)), (.int (3 : Int32))]) (rest := []) rfl (ps := [.int, .int]) (by decide +kernel) rfl rfl 0 rfl (by decide) (by decide) (by decide) (by decide) ?_
  rintro _ _ ⟨_, ⟨rfl, rfl⟩, rfl⟩
  show Go B14_125 Z a0 h0 _ 0 0 [ar a15 .byte [(.int (nar .byte (z0.toInt8.toInt32))), (.int (nar .byte (z1.toInt8.toInt32))), (.int (nar .byte (z2.toInt8.toInt32)))]] 6 #[.val (.ref a15), .val (.int (2 : Int32))] []
  refine go_aloadN 7 rfl d14_6 rfl rfl ?_
  refine go_iloadN 8 rfl d14_7 rfl ?_
  refine go_baload 9 rfl d14_8 rfl (Mo.el (i := 0) rfl (by decide) rfl) ?_
  refine go_sipush (255 : Int32) 12 rfl d14_9 rfl ?_
  refine go_iand 13 rfl d14_12 rfl ?_
  refine go_i2c 14 rfl d14_13 rfl ?_
  exact go_ireturn d14_14 rfl (Or.inr (Or.inr (Or.inr (Or.inl rfl)))) rfl (congrArg Value.int (nar_c _)) (by decide) (by decide) (by rw [lat z2 (by omega)]; exact ⟨rfl, rfl⟩)
def B12_124 : Bdy := (⟨"java/lang/String", "charAt", "(I)C"⟩, jdk_42_method_56_code, 2, (some .char), ({ frames := 3, cells := 0, slots := 0, locals := 40 } : Room))
set_option maxRecDepth 65536 in
set_option maxHeartbeats 4000000 in
theorem mt124 (Z : State) (a0 : Array Value) (hw : ∀ d ∈ tables_1, d.before a0 Z = true) (h0 : Heap) (zc : Int32) (r99 : Value) (SS : Sts Z h0 zc r99) (z0 z1 z2 : Int32) (h_0 : 0 ≤ z0.toInt ∧ z0.toInt ≤ 65535) (h_1 : 0 ≤ z1.toInt ∧ z1.toInt ≤ 65535) (h_2 : 0 ≤ z2.toInt ∧ z2.toInt ≤ 65535) (g0 : z0.toInt ≤ 255) (g1 : z1.toInt ≤ 255) (g2 : z2.toInt ≤ 255) (a15 : Addr) (a13 : Addr) :
    Met B12_124 Z a0 h0 #[(.ref a13), (.int (2 : Int32))] [ar a15 .byte [(.int (nar .byte (z0.toInt8.toInt32))), (.int (nar .byte (z1.toInt8.toInt32))), (.int (nar .byte (z2.toInt8.toInt32)))], ob a13 "java/lang/String" [("java/lang/String", "value", "[B", (.ref a15)), ("java/lang/String", "coder", "B", (.int (0 : Int32)))]] (Ret (some (.int z2)) [ar a15 .byte [(.int (nar .byte (z0.toInt8.toInt32))), (.int (nar .byte (z1.toInt8.toInt32))), (.int (nar .byte (z2.toInt8.toInt32)))], ob a13 "java/lang/String" [("java/lang/String", "value", "[B", (.ref a15)), ("java/lang/String", "coder", "B", (.int (0 : Int32)))]]) := by
  refine Met.of pn12 (ls := #[.val (.ref a13), .val (.int (2 : Int32))]) (fun m => by first | (simp [entryFrame, mkF, argsToLocals, Value.category, B12_124]; done) | rfl) ?_
  show Go B12_124 Z a0 h0 _ 0 0 [ar a15 .byte [(.int (nar .byte (z0.toInt8.toInt32))), (.int (nar .byte (z1.toInt8.toInt32))), (.int (nar .byte (z2.toInt8.toInt32)))], ob a13 "java/lang/String" [("java/lang/String", "value", "[B", (.ref a15)), ("java/lang/String", "coder", "B", (.int (0 : Int32)))]] 0 #[.val (.ref a13), .val (.int (2 : Int32))] []
  refine go_aloadN 1 rfl d12_0 rfl rfl ?_
  refine go_callV 4 rfl d12_1 (wd hw 59 rfl) (wd hw 60 rfl) (wd hw 62 rfl) (wd hw 61 rfl) (wd hw 6 rfl) (wd hw 63 rfl) (by decide) (Mo.exa (i := 1) rfl) (mt114 Z a0 hw h0 zc r99 SS z0 z1 z2 h_0 h_1 h_2 g0 g1 g2 a15 a13) (argsL := []) (rest := []) rfl (ps := []) (by decide +kernel) rfl rfl 0 rfl (by decide) (by decide) (by decide) (by decide) ?_
  rintro _ _ ⟨rfl, rfl⟩
  show Go B12_124 Z a0 h0 _ 0 0 [ar a15 .byte [(.int (nar .byte (z0.toInt8.toInt32))), (.int (nar .byte (z1.toInt8.toInt32))), (.int (nar .byte (z2.toInt8.toInt32)))], ob a13 "java/lang/String" [("java/lang/String", "value", "[B", (.ref a15)), ("java/lang/String", "coder", "B", (.int (0 : Int32)))]] 4 #[.val (.ref a13), .val (.int (2 : Int32))] [(.int (1 : Int32))]
  refine go_if 16 7 rfl (by decide) rfl d12_4 rfl (fun (hc4 : (1 : Int) = 0) => absurd hc4 (by decide)) (fun (hc4 : ¬ ((1 : Int) = 0)) => ?_)
  refine go_aloadN 8 rfl d12_7 rfl rfl ?_
  refine go_get 1 0 11 rfl d12_8 rfl rfl rfl (wd hw 24 rfl) ?_
  refine go_iloadN 12 rfl d12_11 rfl ?_
  refine go_callS 15 rfl d12_12 (wd hw 64 rfl) (wd hw 65 rfl) (wd hw 66 rfl) (wd hw 67 rfl) (by decide) (Met.frame [ob a13 "java/lang/String" [("java/lang/String", "value", "[B", (.ref a15)), ("java/lang/String", "coder", "B", (.int (0 : Int32)))]] (mt125 Z a0 hw h0 zc r99 SS z0 z1 z2 h_0 h_1 h_2 g0 g1 g2 a15)) (argsL := [(.ref a15), (.int (2 : Int32))]) (rest := []) rfl (ps := [(.array .byte), .int]) (by decide +kernel) rfl rfl 0 rfl (by decide) (by decide) (by decide) (by decide) ?_
  rintro _ _ ⟨_, ⟨rfl, rfl⟩, rfl⟩
  show Go B12_124 Z a0 h0 _ 0 0 [ar a15 .byte [(.int (nar .byte (z0.toInt8.toInt32))), (.int (nar .byte (z1.toInt8.toInt32))), (.int (nar .byte (z2.toInt8.toInt32)))], ob a13 "java/lang/String" [("java/lang/String", "value", "[B", (.ref a15)), ("java/lang/String", "coder", "B", (.int (0 : Int32)))]] 15 #[.val (.ref a13), .val (.int (2 : Int32))] [(.int z2)]
  exact go_ireturn d12_15 rfl (Or.inr (Or.inr (Or.inr (Or.inl rfl)))) rfl (congrArg Value.int (nar_z z2 h_2)) (by decide) (by decide) ⟨rfl, rfl⟩
def B5_110 : Bdy := (⟨"com/example/tool_port/toolport/http/HttpSyntax", "isFieldValue", "(Ljava/lang/String;)Z"⟩, prog_33_method_3_code, 2, (some .boolean), ({ frames := 4, cells := 0, slots := 0, locals := 53 } : Room))
set_option maxRecDepth 65536 in
set_option maxHeartbeats 4000000 in
theorem mt110 (Z : State) (a0 : Array Value) (hw : ∀ d ∈ tables_1, d.before a0 Z = true) (h0 : Heap) (zc : Int32) (r99 : Value) (SS : Sts Z h0 zc r99) (z0 z1 z2 : Int32) (h_0 : 0 ≤ z0.toInt ∧ z0.toInt ≤ 65535) (h_1 : 0 ≤ z1.toInt ∧ z1.toInt ≤ 65535) (h_2 : 0 ≤ z2.toInt ∧ z2.toInt ≤ 65535) (g0 : z0.toInt ≤ 255) (g1 : z1.toInt ≤ 255) (g2 : z2.toInt ≤ 255) (a15 : Addr) (a13 : Addr) :
    Met B5_110 Z a0 h0 #[(.ref a13)] [ar a15 .byte [(.int (nar .byte (z0.toInt8.toInt32))), (.int (nar .byte (z1.toInt8.toInt32))), (.int (nar .byte (z2.toInt8.toInt32)))], ob a13 "java/lang/String" [("java/lang/String", "value", "[B", (.ref a15)), ("java/lang/String", "coder", "B", (.int (0 : Int32)))]] (Qz ((z0.toInt = 9 ∨ (32 ≤ z0.toInt ∧ z0.toInt ≠ 127 ∧ z0.toInt ≤ 255)) ∧ (z1.toInt = 9 ∨ (32 ≤ z1.toInt ∧ z1.toInt ≠ 127 ∧ z1.toInt ≤ 255)) ∧ (z2.toInt = 9 ∨ (32 ≤ z2.toInt ∧ z2.toInt ≠ 127 ∧ z2.toInt ≤ 255))) [ar a15 .byte [(.int (nar .byte (z0.toInt8.toInt32))), (.int (nar .byte (z1.toInt8.toInt32))), (.int (nar .byte (z2.toInt8.toInt32)))], ob a13 "java/lang/String" [("java/lang/String", "value", "[B", (.ref a15)), ("java/lang/String", "coder", "B", (.int (0 : Int32)))]]) := by
  refine Met.of pn5 (ls := #[.val (.ref a13), .unset]) (fun m => by first | (simp [entryFrame, mkF, argsToLocals, Value.category, B5_110]; done) | rfl) ?_
  show Go B5_110 Z a0 h0 _ 0 0 [ar a15 .byte [(.int (nar .byte (z0.toInt8.toInt32))), (.int (nar .byte (z1.toInt8.toInt32))), (.int (nar .byte (z2.toInt8.toInt32)))], ob a13 "java/lang/String" [("java/lang/String", "value", "[B", (.ref a15)), ("java/lang/String", "coder", "B", (.int (0 : Int32)))]] 0 #[.val (.ref a13), .unset] []
  refine go_iconst (0 : Int32) 1 rfl d5_0 rfl ?_
  refine go_istoreN #[.val (.ref a13), .val (.int (0 : Int32))] 2 rfl d5_1 rfl rfl ?_
  refine go_iloadN 3 rfl d5_2 rfl ?_
  refine go_aloadN 4 rfl d5_3 rfl rfl ?_
  refine go_callV 7 rfl d5_4 (wd hw 30 rfl) (wd hw 31 rfl) (wd hw 33 rfl) (wd hw 32 rfl) (wd hw 6 rfl) (wd hw 34 rfl) (by decide) (Mo.exa (i := 1) rfl) (mt111 Z a0 hw h0 zc r99 SS z0 z1 z2 h_0 h_1 h_2 g0 g1 g2 a15 a13) (argsL := []) (rest := [(.int (0 : Int32))]) rfl (ps := []) (by decide +kernel) rfl rfl 1 rfl (by decide) (by decide) (by decide) (by decide) ?_
  rintro _ _ ⟨rfl, rfl⟩
  show Go B5_110 Z a0 h0 _ 0 0 [ar a15 .byte [(.int (nar .byte (z0.toInt8.toInt32))), (.int (nar .byte (z1.toInt8.toInt32))), (.int (nar .byte (z2.toInt8.toInt32)))], ob a13 "java/lang/String" [("java/lang/String", "value", "[B", (.ref a15)), ("java/lang/String", "coder", "B", (.int (0 : Int32)))]] 7 #[.val (.ref a13), .val (.int (0 : Int32))] [(.int (3 : Int32)), (.int (0 : Int32))]
  refine go_icmp 29 10 rfl (by decide) rfl d5_7 rfl (fun (hc7 : (3 : Int) ≤ (0 : Int)) => absurd hc7 (by decide)) (fun (hc7 : ¬ ((3 : Int) ≤ (0 : Int))) => ?_)
  refine go_aloadN 11 rfl d5_10 rfl rfl ?_
  refine go_iloadN 12 rfl d5_11 rfl ?_
  refine go_callV 15 rfl d5_12 (wd hw 54 rfl) (wd hw 55 rfl) (wd hw 57 rfl) (wd hw 56 rfl) (wd hw 6 rfl) (wd hw 58 rfl) (by decide) (Mo.exa (i := 1) rfl) (mt113 Z a0 hw h0 zc r99 SS z0 z1 z2 h_0 h_1 h_2 g0 g1 g2 a15 a13) (argsL := [(.int (0 : Int32))]) (rest := []) rfl (ps := [.int]) (by decide +kernel) rfl rfl 0 rfl (by decide) (by decide) (by decide) (by decide) ?_
  rintro _ _ ⟨rfl, rfl⟩
  show Go B5_110 Z a0 h0 _ 0 0 [ar a15 .byte [(.int (nar .byte (z0.toInt8.toInt32))), (.int (nar .byte (z1.toInt8.toInt32))), (.int (nar .byte (z2.toInt8.toInt32)))], ob a13 "java/lang/String" [("java/lang/String", "value", "[B", (.ref a15)), ("java/lang/String", "coder", "B", (.int (0 : Int32)))]] 15 #[.val (.ref a13), .val (.int (0 : Int32))] [(.int z0)]
  refine go_callS 18 rfl d5_15 (wd hw 76 rfl) (wd hw 77 rfl) (wd hw 28 rfl) (wd hw 78 rfl) (by decide) (m_isFieldValueChar Z a0 hw h0 [ar a15 .byte [(.int (nar .byte (z0.toInt8.toInt32))), (.int (nar .byte (z1.toInt8.toInt32))), (.int (nar .byte (z2.toInt8.toInt32)))], ob a13 "java/lang/String" [("java/lang/String", "value", "[B", (.ref a15)), ("java/lang/String", "coder", "B", (.int (0 : Int32)))]] z0) (argsL := [(.int z0)]) (rest := []) rfl (ps := [.int]) (by decide +kernel) rfl rfl 0 rfl (by decide) (by decide) (by decide) (by decide) ?_
  rintro _ _ ⟨z128, rfl, rfl, hz128⟩
  show Go B5_110 Z a0 h0 _ 0 0 [ar a15 .byte [(.int (nar .byte (z0.toInt8.toInt32))), (.int (nar .byte (z1.toInt8.toInt32))), (.int (nar .byte (z2.toInt8.toInt32)))], ob a13 "java/lang/String" [("java/lang/String", "value", "[B", (.ref a15)), ("java/lang/String", "coder", "B", (.int (0 : Int32)))]] 18 #[.val (.ref a13), .val (.int (0 : Int32))] [(.int z128)]
  refine go_if 23 21 rfl (by decide) rfl d5_18 rfl (fun (hc18_117 : z128.toInt ≠ 0) => ?_) (fun (hc18_117 : ¬ (z128.toInt ≠ 0)) => ?_)
  · refine go_iinc #[.val (.ref a13), .val (.int (1 : Int32))] 26 rfl d5_23 rfl rfl ?_
    refine go_goto 2 (by decide) rfl d5_26 ?_
    refine go_iloadN 3 rfl d5_2 rfl ?_
    refine go_aloadN 4 rfl d5_3 rfl rfl ?_
    refine go_callV 7 rfl d5_4 (wd hw 30 rfl) (wd hw 31 rfl) (wd hw 33 rfl) (wd hw 32 rfl) (wd hw 6 rfl) (wd hw 34 rfl) (by decide) (Mo.exa (i := 1) rfl) (mt111 Z a0 hw h0 zc r99 SS z0 z1 z2 h_0 h_1 h_2 g0 g1 g2 a15 a13) (argsL := []) (rest := [(.int (1 : Int32))]) rfl (ps := []) (by decide +kernel) rfl rfl 1 rfl (by decide) (by decide) (by decide) (by decide) ?_
    rintro _ _ ⟨rfl, rfl⟩
    show Go B5_110 Z a0 h0 _ 0 0 [ar a15 .byte [(.int (nar .byte (z0.toInt8.toInt32))), (.int (nar .byte (z1.toInt8.toInt32))), (.int (nar .byte (z2.toInt8.toInt32)))], ob a13 "java/lang/String" [("java/lang/String", "value", "[B", (.ref a15)), ("java/lang/String", "coder", "B", (.int (0 : Int32)))]] 7 #[.val (.ref a13), .val (.int (1 : Int32))] [(.int (3 : Int32)), (.int (1 : Int32))]
    refine go_icmp 29 10 rfl (by decide) rfl d5_7 rfl (fun (hc7 : (3 : Int) ≤ (1 : Int)) => absurd hc7 (by decide)) (fun (hc7 : ¬ ((3 : Int) ≤ (1 : Int))) => ?_)
    refine go_aloadN 11 rfl d5_10 rfl rfl ?_
    refine go_iloadN 12 rfl d5_11 rfl ?_
    refine go_callV 15 rfl d5_12 (wd hw 54 rfl) (wd hw 55 rfl) (wd hw 57 rfl) (wd hw 56 rfl) (wd hw 6 rfl) (wd hw 58 rfl) (by decide) (Mo.exa (i := 1) rfl) (mt119 Z a0 hw h0 zc r99 SS z0 z1 z2 h_0 h_1 h_2 g0 g1 g2 a15 a13) (argsL := [(.int (1 : Int32))]) (rest := []) rfl (ps := [.int]) (by decide +kernel) rfl rfl 0 rfl (by decide) (by decide) (by decide) (by decide) ?_
    rintro _ _ ⟨rfl, rfl⟩
    show Go B5_110 Z a0 h0 _ 0 0 [ar a15 .byte [(.int (nar .byte (z0.toInt8.toInt32))), (.int (nar .byte (z1.toInt8.toInt32))), (.int (nar .byte (z2.toInt8.toInt32)))], ob a13 "java/lang/String" [("java/lang/String", "value", "[B", (.ref a15)), ("java/lang/String", "coder", "B", (.int (0 : Int32)))]] 15 #[.val (.ref a13), .val (.int (1 : Int32))] [(.int z1)]
    refine go_callS 18 rfl d5_15 (wd hw 76 rfl) (wd hw 77 rfl) (wd hw 28 rfl) (wd hw 78 rfl) (by decide) (m_isFieldValueChar Z a0 hw h0 [ar a15 .byte [(.int (nar .byte (z0.toInt8.toInt32))), (.int (nar .byte (z1.toInt8.toInt32))), (.int (nar .byte (z2.toInt8.toInt32)))], ob a13 "java/lang/String" [("java/lang/String", "value", "[B", (.ref a15)), ("java/lang/String", "coder", "B", (.int (0 : Int32)))]] z1) (argsL := [(.int z1)]) (rest := []) rfl (ps := [.int]) (by decide +kernel) rfl rfl 0 rfl (by decide) (by decide) (by decide) (by decide) ?_
    rintro _ _ ⟨z129, rfl, rfl, hz129⟩
    show Go B5_110 Z a0 h0 _ 0 0 [ar a15 .byte [(.int (nar .byte (z0.toInt8.toInt32))), (.int (nar .byte (z1.toInt8.toInt32))), (.int (nar .byte (z2.toInt8.toInt32)))], ob a13 "java/lang/String" [("java/lang/String", "value", "[B", (.ref a15)), ("java/lang/String", "coder", "B", (.int (0 : Int32)))]] 18 #[.val (.ref a13), .val (.int (1 : Int32))] [(.int z129)]
    refine go_if 23 21 rfl (by decide) rfl d5_18 rfl (fun (hc18_122 : z129.toInt ≠ 0) => ?_) (fun (hc18_122 : ¬ (z129.toInt ≠ 0)) => ?_)
    · refine go_iinc #[.val (.ref a13), .val (.int (2 : Int32))] 26 rfl d5_23 rfl rfl ?_
      refine go_goto 2 (by decide) rfl d5_26 ?_
      refine go_iloadN 3 rfl d5_2 rfl ?_
      refine go_aloadN 4 rfl d5_3 rfl rfl ?_
      refine go_callV 7 rfl d5_4 (wd hw 30 rfl) (wd hw 31 rfl) (wd hw 33 rfl) (wd hw 32 rfl) (wd hw 6 rfl) (wd hw 34 rfl) (by decide) (Mo.exa (i := 1) rfl) (mt111 Z a0 hw h0 zc r99 SS z0 z1 z2 h_0 h_1 h_2 g0 g1 g2 a15 a13) (argsL := []) (rest := [(.int (2 : Int32))]) rfl (ps := []) (by decide +kernel) rfl rfl 1 rfl (by decide) (by decide) (by decide) (by decide) ?_
      rintro _ _ ⟨rfl, rfl⟩
      show Go B5_110 Z a0 h0 _ 0 0 [ar a15 .byte [(.int (nar .byte (z0.toInt8.toInt32))), (.int (nar .byte (z1.toInt8.toInt32))), (.int (nar .byte (z2.toInt8.toInt32)))], ob a13 "java/lang/String" [("java/lang/String", "value", "[B", (.ref a15)), ("java/lang/String", "coder", "B", (.int (0 : Int32)))]] 7 #[.val (.ref a13), .val (.int (2 : Int32))] [(.int (3 : Int32)), (.int (2 : Int32))]
      refine go_icmp 29 10 rfl (by decide) rfl d5_7 rfl (fun (hc7 : (3 : Int) ≤ (2 : Int)) => absurd hc7 (by decide)) (fun (hc7 : ¬ ((3 : Int) ≤ (2 : Int))) => ?_)
      refine go_aloadN 11 rfl d5_10 rfl rfl ?_
      refine go_iloadN 12 rfl d5_11 rfl ?_
      refine go_callV 15 rfl d5_12 (wd hw 54 rfl) (wd hw 55 rfl) (wd hw 57 rfl) (wd hw 56 rfl) (wd hw 6 rfl) (wd hw 58 rfl) (by decide) (Mo.exa (i := 1) rfl) (mt124 Z a0 hw h0 zc r99 SS z0 z1 z2 h_0 h_1 h_2 g0 g1 g2 a15 a13) (argsL := [(.int (2 : Int32))]) (rest := []) rfl (ps := [.int]) (by decide +kernel) rfl rfl 0 rfl (by decide) (by decide) (by decide) (by decide) ?_
      rintro _ _ ⟨rfl, rfl⟩
      show Go B5_110 Z a0 h0 _ 0 0 [ar a15 .byte [(.int (nar .byte (z0.toInt8.toInt32))), (.int (nar .byte (z1.toInt8.toInt32))), (.int (nar .byte (z2.toInt8.toInt32)))], ob a13 "java/lang/String" [("java/lang/String", "value", "[B", (.ref a15)), ("java/lang/String", "coder", "B", (.int (0 : Int32)))]] 15 #[.val (.ref a13), .val (.int (2 : Int32))] [(.int z2)]
      refine go_callS 18 rfl d5_15 (wd hw 76 rfl) (wd hw 77 rfl) (wd hw 28 rfl) (wd hw 78 rfl) (by decide) (m_isFieldValueChar Z a0 hw h0 [ar a15 .byte [(.int (nar .byte (z0.toInt8.toInt32))), (.int (nar .byte (z1.toInt8.toInt32))), (.int (nar .byte (z2.toInt8.toInt32)))], ob a13 "java/lang/String" [("java/lang/String", "value", "[B", (.ref a15)), ("java/lang/String", "coder", "B", (.int (0 : Int32)))]] z2) (argsL := [(.int z2)]) (rest := []) rfl (ps := [.int]) (by decide +kernel) rfl rfl 0 rfl (by decide) (by decide) (by decide) (by decide) ?_
      rintro _ _ ⟨z130, rfl, rfl, hz130⟩
      show Go B5_110 Z a0 h0 _ 0 0 [ar a15 .byte [(.int (nar .byte (z0.toInt8.toInt32))), (.int (nar .byte (z1.toInt8.toInt32))), (.int (nar .byte (z2.toInt8.toInt32)))], ob a13 "java/lang/String" [("java/lang/String", "value", "[B", (.ref a15)), ("java/lang/String", "coder", "B", (.int (0 : Int32)))]] 18 #[.val (.ref a13), .val (.int (2 : Int32))] [(.int z130)]
      refine go_if 23 21 rfl (by decide) rfl d5_18 rfl (fun (hc18_127 : z130.toInt ≠ 0) => ?_) (fun (hc18_127 : ¬ (z130.toInt ≠ 0)) => ?_)
      · refine go_iinc #[.val (.ref a13), .val (.int (3 : Int32))] 26 rfl d5_23 rfl rfl ?_
        refine go_goto 2 (by decide) rfl d5_26 ?_
        refine go_iloadN 3 rfl d5_2 rfl ?_
        refine go_aloadN 4 rfl d5_3 rfl rfl ?_
        refine go_callV 7 rfl d5_4 (wd hw 30 rfl) (wd hw 31 rfl) (wd hw 33 rfl) (wd hw 32 rfl) (wd hw 6 rfl) (wd hw 34 rfl) (by decide) (Mo.exa (i := 1) rfl) (mt111 Z a0 hw h0 zc r99 SS z0 z1 z2 h_0 h_1 h_2 g0 g1 g2 a15 a13) (argsL := []) (rest := [(.int (3 : Int32))]) rfl (ps := []) (by decide +kernel) rfl rfl 1 rfl (by decide) (by decide) (by decide) (by decide) ?_
        rintro _ _ ⟨rfl, rfl⟩
        show Go B5_110 Z a0 h0 _ 0 0 [ar a15 .byte [(.int (nar .byte (z0.toInt8.toInt32))), (.int (nar .byte (z1.toInt8.toInt32))), (.int (nar .byte (z2.toInt8.toInt32)))], ob a13 "java/lang/String" [("java/lang/String", "value", "[B", (.ref a15)), ("java/lang/String", "coder", "B", (.int (0 : Int32)))]] 7 #[.val (.ref a13), .val (.int (3 : Int32))] [(.int (3 : Int32)), (.int (3 : Int32))]
        refine go_icmp 29 10 rfl (by decide) rfl d5_7 rfl (fun (hc7 : (3 : Int) ≤ (3 : Int)) => ?_) (fun (hc7 : ¬ ((3 : Int) ≤ (3 : Int))) => absurd hc7 (by decide))
        refine go_iconst (1 : Int32) 30 rfl d5_29 rfl ?_
        exact go_ireturn d5_30 rfl (Or.inr (Or.inl rfl)) rfl rfl (by decide) (by decide) ⟨_, rfl, rfl, Or.inl ⟨rfl, by omega⟩⟩
      · refine go_iconst (0 : Int32) 22 rfl d5_21 rfl ?_
        exact go_ireturn d5_22 rfl (Or.inr (Or.inl rfl)) rfl rfl (by decide) (by decide) ⟨_, rfl, rfl, Or.inr ⟨rfl, by omega⟩⟩
    · refine go_iconst (0 : Int32) 22 rfl d5_21 rfl ?_
      exact go_ireturn d5_22 rfl (Or.inr (Or.inl rfl)) rfl rfl (by decide) (by decide) ⟨_, rfl, rfl, Or.inr ⟨rfl, by omega⟩⟩
  · refine go_iconst (0 : Int32) 22 rfl d5_21 rfl ?_
    exact go_ireturn d5_22 rfl (Or.inr (Or.inl rfl)) rfl rfl (by decide) (by decide) ⟨_, rfl, rfl, Or.inr ⟨rfl, by omega⟩⟩
def B9_134 : Bdy := (⟨"java/lang/StringUTF16", "compress", "([CI[BII)I"⟩, jdk_52_method_21_code, 7, (some .int), ({ frames := 0, cells := 0, slots := 0, locals := 0 } : Room))
set_option maxRecDepth 65536 in
set_option maxHeartbeats 4000000 in
theorem mt134 (Z : State) (a0 : Array Value) (hw : ∀ d ∈ tables_1, d.before a0 Z = true) (h0 : Heap) (zc : Int32) (r99 : Value) (SS : Sts Z h0 zc r99) (z0 z1 z2 : Int32) (h_0 : 0 ≤ z0.toInt ∧ z0.toInt ≤ 65535) (h_1 : 0 ≤ z1.toInt ∧ z1.toInt ≤ 65535) (h_2 : 0 ≤ z2.toInt ∧ z2.toInt ≤ 65535) (g0 : z0.toInt ≤ 255) (g1 : z1.toInt ≤ 255) (g2 : ¬ z2.toInt ≤ 255) (a14 : Addr) (a316 : Addr) :
    Met B9_134 Z a0 h0 #[(.ref a14), (.int (0 : Int32)), (.ref a316), (.int (0 : Int32)), (.int (3 : Int32))] [ar a14 .char [(.int z0), (.int z1), (.int z2)], ar a316 .byte [(.int (0 : Int32)), (.int (0 : Int32)), (.int (0 : Int32))]] (Ret (some (.int (2 : Int32))) [ar a14 .char [(.int z0), (.int z1), (.int z2)], ar a316 .byte [(.int (nar .byte (z0.toInt8.toInt32))), (.int (nar .byte (z1.toInt8.toInt32))), (.int (0 : Int32))]]) := by
  refine Met.of pn9 (ls := #[.val (.ref a14), .val (.int (0 : Int32)), .val (.ref a316), .val (.int (0 : Int32)), .val (.int (3 : Int32)), .unset, .unset]) (fun m => by first | (simp [entryFrame, mkF, argsToLocals, Value.category, B9_134]; done) | rfl) ?_
  show Go B9_134 Z a0 h0 _ 0 0 [ar a14 .char [(.int z0), (.int z1), (.int z2)], ar a316 .byte [(.int (0 : Int32)), (.int (0 : Int32)), (.int (0 : Int32))]] 0 #[.val (.ref a14), .val (.int (0 : Int32)), .val (.ref a316), .val (.int (0 : Int32)), .val (.int (3 : Int32)), .unset, .unset] []
  refine go_iconst (0 : Int32) 1 rfl d9_0 rfl ?_
  refine go_istore #[.val (.ref a14), .val (.int (0 : Int32)), .val (.ref a316), .val (.int (0 : Int32)), .val (.int (3 : Int32)), .val (.int (0 : Int32)), .unset] 3 rfl d9_1 rfl rfl ?_
  refine go_iload 5 rfl d9_3 rfl ?_
  refine go_iload 7 rfl d9_5 rfl ?_
  refine go_icmp 44 10 rfl (by decide) rfl d9_7 rfl (fun (hc7 : (3 : Int) ≤ (0 : Int)) => absurd hc7 (by decide)) (fun (hc7 : ¬ ((3 : Int) ≤ (0 : Int))) => ?_)
  refine go_aloadN 11 rfl d9_10 rfl rfl ?_
  refine go_iloadN 12 rfl d9_11 rfl ?_
  refine go_caload 13 rfl d9_12 rfl (Mo.el (i := 0) rfl (by decide) rfl) ?_
  refine go_istore #[.val (.ref a14), .val (.int (0 : Int32)), .val (.ref a316), .val (.int (0 : Int32)), .val (.int (3 : Int32)), .val (.int (0 : Int32)), .val (.int z0)] 15 rfl d9_13 rfl rfl ?_
  refine go_iload 17 rfl d9_15 rfl ?_
  refine go_sipush (255 : Int32) 20 rfl d9_17 rfl ?_
  refine go_icmp 26 23 rfl (by decide) rfl d9_20 rfl (fun (hc20 : z0.toInt ≤ (255 : Int)) => ?_) (fun (hc20 : ¬ (z0.toInt ≤ (255 : Int))) => absurd hc20 (by omega))
  refine go_aloadN 27 rfl d9_26 rfl rfl ?_
  refine go_iloadN 28 rfl d9_27 rfl ?_
  refine go_iload 30 rfl d9_28 rfl ?_
  refine go_i2b 31 rfl d9_30 rfl ?_
  refine go_bastore 1 32 rfl d9_31 rfl rfl (by decide) (Nat.le_of_ble_eq_true rfl) ?_
  show Go B9_134 Z a0 h0 _ 0 0 [ar a14 .char [(.int z0), (.int z1), (.int z2)], ar a316 .byte [(.int (nar .byte (z0.toInt8.toInt32))), (.int (0 : Int32)), (.int (0 : Int32))]] 32 #[.val (.ref a14), .val (.int (0 : Int32)), .val (.ref a316), .val (.int (0 : Int32)), .val (.int (3 : Int32)), .val (.int (0 : Int32)), .val (.int z0)] []
  refine go_iinc #[.val (.ref a14), .val (.int (1 : Int32)), .val (.ref a316), .val (.int (0 : Int32)), .val (.int (3 : Int32)), .val (.int (0 : Int32)), .val (.int z0)] 35 rfl d9_32 rfl rfl ?_
  refine go_iinc #[.val (.ref a14), .val (.int (1 : Int32)), .val (.ref a316), .val (.int (1 : Int32)), .val (.int (3 : Int32)), .val (.int (0 : Int32)), .val (.int z0)] 38 rfl d9_35 rfl rfl ?_
  refine go_iinc #[.val (.ref a14), .val (.int (1 : Int32)), .val (.ref a316), .val (.int (1 : Int32)), .val (.int (3 : Int32)), .val (.int (1 : Int32)), .val (.int z0)] 41 rfl d9_38 rfl rfl ?_
  refine go_goto 3 (by decide) rfl d9_41 ?_
  refine go_iload 5 rfl d9_3 rfl ?_
  refine go_iload 7 rfl d9_5 rfl ?_
  refine go_icmp 44 10 rfl (by decide) rfl d9_7 rfl (fun (hc7 : (3 : Int) ≤ (1 : Int)) => absurd hc7 (by decide)) (fun (hc7 : ¬ ((3 : Int) ≤ (1 : Int))) => ?_)
  refine go_aloadN 11 rfl d9_10 rfl rfl ?_
  refine go_iloadN 12 rfl d9_11 rfl ?_
  refine go_caload 13 rfl d9_12 rfl (Mo.el (i := 0) rfl (by decide) rfl) ?_
  refine go_istore #[.val (.ref a14), .val (.int (1 : Int32)), .val (.ref a316), .val (.int (1 : Int32)), .val (.int (3 : Int32)), .val (.int (1 : Int32)), .val (.int z1)] 15 rfl d9_13 rfl rfl ?_
  refine go_iload 17 rfl d9_15 rfl ?_
  refine go_sipush (255 : Int32) 20 rfl d9_17 rfl ?_
  refine go_icmp 26 23 rfl (by decide) rfl d9_20 rfl (fun (hc20 : z1.toInt ≤ (255 : Int)) => ?_) (fun (hc20 : ¬ (z1.toInt ≤ (255 : Int))) => absurd hc20 (by omega))
  refine go_aloadN 27 rfl d9_26 rfl rfl ?_
  refine go_iloadN 28 rfl d9_27 rfl ?_
  refine go_iload 30 rfl d9_28 rfl ?_
  refine go_i2b 31 rfl d9_30 rfl ?_
  refine go_bastore 1 32 rfl d9_31 rfl rfl (by decide) (Nat.le_of_ble_eq_true rfl) ?_
  show Go B9_134 Z a0 h0 _ 0 0 [ar a14 .char [(.int z0), (.int z1), (.int z2)], ar a316 .byte [(.int (nar .byte (z0.toInt8.toInt32))), (.int (nar .byte (z1.toInt8.toInt32))), (.int (0 : Int32))]] 32 #[.val (.ref a14), .val (.int (1 : Int32)), .val (.ref a316), .val (.int (1 : Int32)), .val (.int (3 : Int32)), .val (.int (1 : Int32)), .val (.int z1)] []
  refine go_iinc #[.val (.ref a14), .val (.int (2 : Int32)), .val (.ref a316), .val (.int (1 : Int32)), .val (.int (3 : Int32)), .val (.int (1 : Int32)), .val (.int z1)] 35 rfl d9_32 rfl rfl ?_
  refine go_iinc #[.val (.ref a14), .val (.int (2 : Int32)), .val (.ref a316), .val (.int (2 : Int32)), .val (.int (3 : Int32)), .val (.int (1 : Int32)), .val (.int z1)] 38 rfl d9_35 rfl rfl ?_
  refine go_iinc #[.val (.ref a14), .val (.int (2 : Int32)), .val (.ref a316), .val (.int (2 : Int32)), .val (.int (3 : Int32)), .val (.int (2 : Int32)), .val (.int z1)] 41 rfl d9_38 rfl rfl ?_
  refine go_goto 3 (by decide) rfl d9_41 ?_
  refine go_iload 5 rfl d9_3 rfl ?_
  refine go_iload 7 rfl d9_5 rfl ?_
  refine go_icmp 44 10 rfl (by decide) rfl d9_7 rfl (fun (hc7 : (3 : Int) ≤ (2 : Int)) => absurd hc7 (by decide)) (fun (hc7 : ¬ ((3 : Int) ≤ (2 : Int))) => ?_)
  refine go_aloadN 11 rfl d9_10 rfl rfl ?_
  refine go_iloadN 12 rfl d9_11 rfl ?_
  refine go_caload 13 rfl d9_12 rfl (Mo.el (i := 0) rfl (by decide) rfl) ?_
  refine go_istore #[.val (.ref a14), .val (.int (2 : Int32)), .val (.ref a316), .val (.int (2 : Int32)), .val (.int (3 : Int32)), .val (.int (2 : Int32)), .val (.int z2)] 15 rfl d9_13 rfl rfl ?_
  refine go_iload 17 rfl d9_15 rfl ?_
  refine go_sipush (255 : Int32) 20 rfl d9_17 rfl ?_
  refine go_icmp 26 23 rfl (by decide) rfl d9_20 rfl (fun (hc20 : z2.toInt ≤ (255 : Int)) => absurd hc20 (by omega)) (fun (hc20 : ¬ (z2.toInt ≤ (255 : Int))) => ?_)
  refine go_iload 25 rfl d9_23 rfl ?_
  exact go_ireturn d9_25 rfl (Or.inl rfl) rfl rfl (by decide) (by decide) ⟨rfl, rfl⟩
def B20_137 : Bdy := (⟨"java/lang/StringUTF16", "newBytesLength", "(I)I"⟩, jdk_52_method_3_code, 1, (some .int), ({ frames := 0, cells := 0, slots := 0, locals := 0 } : Room))
set_option maxRecDepth 65536 in
set_option maxHeartbeats 4000000 in
theorem mt137 (Z : State) (a0 : Array Value) (hw : ∀ d ∈ tables_1, d.before a0 Z = true) (h0 : Heap) (zc : Int32) (r99 : Value) (SS : Sts Z h0 zc r99) (z0 z1 z2 : Int32) (h_0 : 0 ≤ z0.toInt ∧ z0.toInt ≤ 65535) (h_1 : 0 ≤ z1.toInt ∧ z1.toInt ≤ 65535) (h_2 : 0 ≤ z2.toInt ∧ z2.toInt ≤ 65535) :
    Met B20_137 Z a0 h0 #[(.int (3 : Int32))] [] (Ret (some (.int (6 : Int32))) []) := by
  refine Met.of pn20 (ls := #[.val (.int (3 : Int32))]) (fun m => by first | (simp [entryFrame, mkF, argsToLocals, Value.category, B20_137]; done) | rfl) ?_
  show Go B20_137 Z a0 h0 _ 0 0 [] 0 #[.val (.int (3 : Int32))] []
  refine go_iloadN 1 rfl d20_0 rfl ?_
  refine go_if 12 4 rfl (by decide) rfl d20_1 rfl (fun (hc1 : 0 ≤ (3 : Int)) => ?_) (fun (hc1 : ¬ (0 ≤ (3 : Int))) => absurd hc1 (by decide))
  refine go_iloadN 13 rfl d20_12 rfl ?_
  refine go_ldc (v := (1073741823 : Int32)) 15 rfl d20_13 (wd hw 89 rfl) ?_
  refine go_icmp 55 18 rfl (by decide) rfl d20_15 rfl (fun (hc15 : (3 : Int) < (1073741823 : Int)) => ?_) (fun (hc15 : ¬ ((3 : Int) < (1073741823 : Int))) => absurd hc15 (by decide))
  refine go_iloadN 56 rfl d20_55 rfl ?_
  refine go_iconst (1 : Int32) 57 rfl d20_56 rfl ?_
  refine go_ishl 58 rfl d20_57 rfl ?_
  show Go B20_137 Z a0 h0 _ 0 0 [] 58 #[.val (.int (3 : Int32))] [(.int (6 : Int32))]
  exact go_ireturn d20_58 rfl (Or.inl rfl) rfl rfl (by decide) (by decide) ⟨rfl, rfl⟩
def B19_136 : Bdy := (⟨"java/lang/StringUTF16", "newBytesFor", "(I)[B"⟩, jdk_52_method_2_code, 1, (some (.array .byte)), ({ frames := 1, cells := 1, slots := 6, locals := 12 } : Room))
set_option maxRecDepth 65536 in
set_option maxHeartbeats 4000000 in
theorem mt136 (Z : State) (a0 : Array Value) (hw : ∀ d ∈ tables_1, d.before a0 Z = true) (h0 : Heap) (zc : Int32) (r99 : Value) (SS : Sts Z h0 zc r99) (z0 z1 z2 : Int32) (h_0 : 0 ≤ z0.toInt ∧ z0.toInt ≤ 65535) (h_1 : 0 ≤ z1.toInt ∧ z1.toInt ≤ 65535) (h_2 : 0 ≤ z2.toInt ∧ z2.toInt ≤ 65535) :
    Met B19_136 Z a0 h0 #[(.int (3 : Int32))] [] (fun v ds => ∃ a517 : Addr, Ret (some (.ref a517)) [ar a517 .byte [(.int (0 : Int32)), (.int (0 : Int32)), (.int (0 : Int32)), (.int (0 : Int32)), (.int (0 : Int32)), (.int (0 : Int32))]] v ds) := by
  refine Met.of pn19 (ls := #[.val (.int (3 : Int32))]) (fun m => by first | (simp [entryFrame, mkF, argsToLocals, Value.category, B19_136]; done) | rfl) ?_
  show Go B19_136 Z a0 h0 _ 0 0 [] 0 #[.val (.int (3 : Int32))] []
  refine go_iloadN 1 rfl d19_0 rfl ?_
  refine go_callS 4 rfl d19_1 (wd hw 86 rfl) (wd hw 87 rfl) (wd hw 43 rfl) (wd hw 88 rfl) (by decide) (mt137 Z a0 hw h0 zc r99 SS z0 z1 z2 h_0 h_1 h_2) (argsL := [(.int (3 : Int32))]) (rest := []) rfl (ps := [.int]) (by decide +kernel) rfl rfl 0 rfl (by decide) (by decide) (by decide) (by decide) ?_
  rintro _ _ ⟨rfl, rfl⟩
  show Go B19_136 Z a0 h0 _ 0 0 [] 4 #[.val (.int (3 : Int32))] [(.int (6 : Int32))]
  refine go_newarr 6 rfl d19_4 rfl (wd hw 19 rfl) (by decide) 6 (by decide) (by decide) (by decide) (by decide) (fun a517 => ?_)
  show Go B19_136 Z a0 h0 _ 1 6 [ar a517 .byte [(.int (0 : Int32)), (.int (0 : Int32)), (.int (0 : Int32)), (.int (0 : Int32)), (.int (0 : Int32)), (.int (0 : Int32))]] 6 #[.val (.int (3 : Int32))] [(.ref a517)]
  exact go_areturn d19_6 rfl rfl rfl rfl (by decide) (by decide) ⟨a517, rfl, rfl⟩
def B21_138 : Bdy := (⟨"java/lang/StringUTF16", "putChar", "([BII)V"⟩, jdk_52_method_4_code, 3, none, ({ frames := 0, cells := 0, slots := 0, locals := 0 } : Room))
set_option maxRecDepth 65536 in
set_option maxHeartbeats 4000000 in
theorem mt138 (Z : State) (a0 : Array Value) (hw : ∀ d ∈ tables_1, d.before a0 Z = true) (h0 : Heap) (zc : Int32) (r99 : Value) (SS : Sts Z h0 zc r99) (z0 z1 z2 : Int32) (h_0 : 0 ≤ z0.toInt ∧ z0.toInt ≤ 65535) (h_1 : 0 ≤ z1.toInt ∧ z1.toInt ≤ 65535) (h_2 : 0 ≤ z2.toInt ∧ z2.toInt ≤ 65535) (a417 : Addr) :
    Met B21_138 Z a0 h0 #[(.ref a417), (.int (0 : Int32)), (.int z0)] [ar a417 .byte [(.int (0 : Int32)), (.int (0 : Int32)), (.int (0 : Int32)), (.int (0 : Int32)), (.int (0 : Int32)), (.int (0 : Int32))]] (Ret none [ar a417 .byte [(.int (nar .byte ((z0 >>> ((0 : Int32) &&& 31)).toInt8.toInt32))), (.int (nar .byte ((z0 >>> ((8 : Int32) &&& 31)).toInt8.toInt32))), (.int (0 : Int32)), (.int (0 : Int32)), (.int (0 : Int32)), (.int (0 : Int32))]]) := by
  refine Met.of pn21 (ls := #[.val (.ref a417), .val (.int (0 : Int32)), .val (.int z0)]) (fun m => by first | (simp [entryFrame, mkF, argsToLocals, Value.category, B21_138]; done) | rfl) ?_
  show Go B21_138 Z a0 h0 _ 0 0 [ar a417 .byte [(.int (0 : Int32)), (.int (0 : Int32)), (.int (0 : Int32)), (.int (0 : Int32)), (.int (0 : Int32)), (.int (0 : Int32))]] 0 #[.val (.ref a417), .val (.int (0 : Int32)), .val (.int z0)] []
  refine go_getS 3 rfl d21_0 (wd hw 93 rfl) SS.2.2.2.2.1 ?_
  refine go_if 28 6 rfl (by decide) rfl d21_3 rfl (fun (hc3 : (1 : Int) ≠ 0) => ?_) (fun (hc3 : ¬ ((1 : Int) ≠ 0)) => absurd hc3 (by decide))
  refine go_iloadN 29 rfl d21_28 rfl ?_
  refine go_iconst (1 : Int32) 30 rfl d21_29 rfl ?_
  refine go_ishl 31 rfl d21_30 rfl ?_
  show Go B21_138 Z a0 h0 _ 0 0 [ar a417 .byte [(.int (0 : Int32)), (.int (0 : Int32)), (.int (0 : Int32)), (.int (0 : Int32)), (.int (0 : Int32)), (.int (0 : Int32))]] 31 #[.val (.ref a417), .val (.int (0 : Int32)), .val (.int z0)] [(.int (0 : Int32))]
  refine go_istoreN #[.val (.ref a417), .val (.int (0 : Int32)), .val (.int z0)] 32 rfl d21_31 rfl rfl ?_
  refine go_aloadN 33 rfl d21_32 rfl rfl ?_
  refine go_iloadN 34 rfl d21_33 rfl ?_
  refine go_iinc #[.val (.ref a417), .val (.int (1 : Int32)), .val (.int z0)] 37 rfl d21_34 rfl rfl ?_
  refine go_iloadN 38 rfl d21_37 rfl ?_
  refine go_getS 41 rfl d21_38 (wd hw 94 rfl) SS.2.2.2.2.2.1 ?_
  refine go_ishr 42 rfl d21_41 rfl ?_
  refine go_i2b 43 rfl d21_42 rfl ?_
  refine go_bastore 0 44 rfl d21_43 rfl rfl (by decide) (Nat.le_of_ble_eq_true rfl) ?_
  show Go B21_138 Z a0 h0 _ 0 0 [ar a417 .byte [(.int (nar .byte ((z0 >>> ((0 : Int32) &&& 31)).toInt8.toInt32))), (.int (0 : Int32)), (.int (0 : Int32)), (.int (0 : Int32)), (.int (0 : Int32)), (.int (0 : Int32))]] 44 #[.val (.ref a417), .val (.int (1 : Int32)), .val (.int z0)] []
  refine go_aloadN 45 rfl d21_44 rfl rfl ?_
  refine go_iloadN 46 rfl d21_45 rfl ?_
  refine go_iloadN 47 rfl d21_46 rfl ?_
  refine go_getS 50 rfl d21_47 (wd hw 95 rfl) SS.2.2.2.2.2.2 ?_
  refine go_ishr 51 rfl d21_50 rfl ?_
  refine go_i2b 52 rfl d21_51 rfl ?_
  refine go_bastore 0 53 rfl d21_52 rfl rfl (by decide) (Nat.le_of_ble_eq_true rfl) ?_
  show Go B21_138 Z a0 h0 _ 0 0 [ar a417 .byte [(.int (nar .byte ((z0 >>> ((0 : Int32) &&& 31)).toInt8.toInt32))), (.int (nar .byte ((z0 >>> ((8 : Int32) &&& 31)).toInt8.toInt32))), (.int (0 : Int32)), (.int (0 : Int32)), (.int (0 : Int32)), (.int (0 : Int32))]] 53 #[.val (.ref a417), .val (.int (1 : Int32)), .val (.int z0)] []
  exact go_return d21_53 rfl rfl (by decide) (by decide) ⟨rfl, rfl⟩
def B21_139 : Bdy := (⟨"java/lang/StringUTF16", "putChar", "([BII)V"⟩, jdk_52_method_4_code, 3, none, ({ frames := 0, cells := 0, slots := 0, locals := 0 } : Room))
set_option maxRecDepth 65536 in
set_option maxHeartbeats 4000000 in
theorem mt139 (Z : State) (a0 : Array Value) (hw : ∀ d ∈ tables_1, d.before a0 Z = true) (h0 : Heap) (zc : Int32) (r99 : Value) (SS : Sts Z h0 zc r99) (z0 z1 z2 : Int32) (h_0 : 0 ≤ z0.toInt ∧ z0.toInt ≤ 65535) (h_1 : 0 ≤ z1.toInt ∧ z1.toInt ≤ 65535) (h_2 : 0 ≤ z2.toInt ∧ z2.toInt ≤ 65535) (a417 : Addr) :
    Met B21_139 Z a0 h0 #[(.ref a417), (.int (1 : Int32)), (.int z1)] [ar a417 .byte [(.int (nar .byte ((z0 >>> ((0 : Int32) &&& 31)).toInt8.toInt32))), (.int (nar .byte ((z0 >>> ((8 : Int32) &&& 31)).toInt8.toInt32))), (.int (0 : Int32)), (.int (0 : Int32)), (.int (0 : Int32)), (.int (0 : Int32))]] (Ret none [ar a417 .byte [(.int (nar .byte ((z0 >>> ((0 : Int32) &&& 31)).toInt8.toInt32))), (.int (nar .byte ((z0 >>> ((8 : Int32) &&& 31)).toInt8.toInt32))), (.int (nar .byte ((z1 >>> ((0 : Int32) &&& 31)).toInt8.toInt32))), (.int (nar .byte ((z1 >>> ((8 : Int32) &&& 31)).toInt8.toInt32))), (.int (0 : Int32)), (.int (0 : Int32))]]) := by
  refine Met.of pn21 (ls := #[.val (.ref a417), .val (.int (1 : Int32)), .val (.int z1)]) (fun m => by first | (simp [entryFrame, mkF, argsToLocals, Value.category, B21_139]; done) | rfl) ?_
  show Go B21_139 Z a0 h0 _ 0 0 [ar a417 .byte [(.int (nar .byte ((z0 >>> ((0 : Int32) &&& 31)).toInt8.toInt32))), (.int (nar .byte ((z0 >>> ((8 : Int32) &&& 31)).toInt8.toInt32))), (.int (0 : Int32)), (.int (0 : Int32)), (.int (0 : Int32)), (.int (0 : Int32))]] 0 #[.val (.ref a417), .val (.int (1 : Int32)), .val (.int z1)] []
  refine go_getS 3 rfl d21_0 (wd hw 93 rfl) SS.2.2.2.2.1 ?_
  refine go_if 28 6 rfl (by decide) rfl d21_3 rfl (fun (hc3 : (1 : Int) ≠ 0) => ?_) (fun (hc3 : ¬ ((1 : Int) ≠ 0)) => absurd hc3 (by decide))
  refine go_iloadN 29 rfl d21_28 rfl ?_
  refine go_iconst (1 : Int32) 30 rfl d21_29 rfl ?_
  refine go_ishl 31 rfl d21_30 rfl ?_
  show Go B21_139 Z a0 h0 _ 0 0 [ar a417 .byte [(.int (nar .byte ((z0 >>> ((0 : Int32) &&& 31)).toInt8.toInt32))), (.int (nar .byte ((z0 >>> ((8 : Int32) &&& 31)).toInt8.toInt32))), (.int (0 : Int32)), (.int (0 : Int32)), (.int (0 : Int32)), (.int (0 : Int32))]] 31 #[.val (.ref a417), .val (.int (1 : Int32)), .val (.int z1)] [(.int (2 : Int32))]
  refine go_istoreN #[.val (.ref a417), .val (.int (2 : Int32)), .val (.int z1)] 32 rfl d21_31 rfl rfl ?_
  refine go_aloadN 33 rfl d21_32 rfl rfl ?_
  refine go_iloadN 34 rfl d21_33 rfl ?_
  refine go_iinc #[.val (.ref a417), .val (.int (3 : Int32)), .val (.int z1)] 37 rfl d21_34 rfl rfl ?_
  refine go_iloadN 38 rfl d21_37 rfl ?_
  refine go_getS 41 rfl d21_38 (wd hw 94 rfl) SS.2.2.2.2.2.1 ?_
  refine go_ishr 42 rfl d21_41 rfl ?_
  refine go_i2b 43 rfl d21_42 rfl ?_
  refine go_bastore 0 44 rfl d21_43 rfl rfl (by decide) (Nat.le_of_ble_eq_true rfl) ?_
  show Go B21_139 Z a0 h0 _ 0 0 [ar a417 .byte [(.int (nar .byte ((z0 >>> ((0 : Int32) &&& 31)).toInt8.toInt32))), (.int (nar .byte ((z0 >>> ((8 : Int32) &&& 31)).toInt8.toInt32))), (.int (nar .byte ((z1 >>> ((0 : Int32) &&& 31)).toInt8.toInt32))), (.int (0 : Int32)), (.int (0 : Int32)), (.int (0 : Int32))]] 44 #[.val (.ref a417), .val (.int (3 : Int32)), .val (.int z1)] []
  refine go_aloadN 45 rfl d21_44 rfl rfl ?_
  refine go_iloadN 46 rfl d21_45 rfl ?_
  refine go_iloadN 47 rfl d21_46 rfl ?_
  refine go_getS 50 rfl d21_47 (wd hw 95 rfl) SS.2.2.2.2.2.2 ?_
  refine go_ishr 51 rfl d21_50 rfl ?_
  refine go_i2b 52 rfl d21_51 rfl ?_
  refine go_bastore 0 53 rfl d21_52 rfl rfl (by decide) (Nat.le_of_ble_eq_true rfl) ?_
  show Go B21_139 Z a0 h0 _ 0 0 [ar a417 .byte [(.int (nar .byte ((z0 >>> ((0 : Int32) &&& 31)).toInt8.toInt32))), (.int (nar .byte ((z0 >>> ((8 : Int32) &&& 31)).toInt8.toInt32))), (.int (nar .byte ((z1 >>> ((0 : Int32) &&& 31)).toInt8.toInt32))), (.int (nar .byte ((z1 >>> ((8 : Int32) &&& 31)).toInt8.toInt32))), (.int (0 : Int32)), (.int (0 : Int32))]] 53 #[.val (.ref a417), .val (.int (3 : Int32)), .val (.int z1)] []
  exact go_return d21_53 rfl rfl (by decide) (by decide) ⟨rfl, rfl⟩
def B21_140 : Bdy := (⟨"java/lang/StringUTF16", "putChar", "([BII)V"⟩, jdk_52_method_4_code, 3, none, ({ frames := 0, cells := 0, slots := 0, locals := 0 } : Room))
set_option maxRecDepth 65536 in
set_option maxHeartbeats 4000000 in
theorem mt140 (Z : State) (a0 : Array Value) (hw : ∀ d ∈ tables_1, d.before a0 Z = true) (h0 : Heap) (zc : Int32) (r99 : Value) (SS : Sts Z h0 zc r99) (z0 z1 z2 : Int32) (h_0 : 0 ≤ z0.toInt ∧ z0.toInt ≤ 65535) (h_1 : 0 ≤ z1.toInt ∧ z1.toInt ≤ 65535) (h_2 : 0 ≤ z2.toInt ∧ z2.toInt ≤ 65535) (a417 : Addr) :
    Met B21_140 Z a0 h0 #[(.ref a417), (.int (2 : Int32)), (.int z2)] [ar a417 .byte [(.int (nar .byte ((z0 >>> ((0 : Int32) &&& 31)).toInt8.toInt32))), (.int (nar .byte ((z0 >>> ((8 : Int32) &&& 31)).toInt8.toInt32))), (.int (nar .byte ((z1 >>> ((0 : Int32) &&& 31)).toInt8.toInt32))), (.int (nar .byte ((z1 >>> ((8 : Int32) &&& 31)).toInt8.toInt32))), (.int (0 : Int32)), (.int (0 : Int32))]] (Ret none (mem10 a417 z0 z1 z2)) := by
  refine Met.of pn21 (ls := #[.val (.ref a417), .val (.int (2 : Int32)), .val (.int z2)]) (fun m => by first | (simp [entryFrame, mkF, argsToLocals, Value.category, B21_140]; done) | rfl) ?_
  show Go B21_140 Z a0 h0 _ 0 0 [ar a417 .byte [(.int (nar .byte ((z0 >>> ((0 : Int32) &&& 31)).toInt8.toInt32))), (.int (nar .byte ((z0 >>> ((8 : Int32) &&& 31)).toInt8.toInt32))), (.int (nar .byte ((z1 >>> ((0 : Int32) &&& 31)).toInt8.toInt32))), (.int (nar .byte ((z1 >>> ((8 : Int32) &&& 31)).toInt8.toInt32))), (.int (0 : Int32)), (.int (0 : Int32))]] 0 #[.val (.ref a417), .val (.int (2 : Int32)), .val (.int z2)] []
  refine go_getS 3 rfl d21_0 (wd hw 93 rfl) SS.2.2.2.2.1 ?_
  refine go_if 28 6 rfl (by decide) rfl d21_3 rfl (fun (hc3 : (1 : Int) ≠ 0) => ?_) (fun (hc3 : ¬ ((1 : Int) ≠ 0)) => absurd hc3 (by decide))
  refine go_iloadN 29 rfl d21_28 rfl ?_
  refine go_iconst (1 : Int32) 30 rfl d21_29 rfl ?_
  refine go_ishl 31 rfl d21_30 rfl ?_
  show Go B21_140 Z a0 h0 _ 0 0 [ar a417 .byte [(.int (nar .byte ((z0 >>> ((0 : Int32) &&& 31)).toInt8.toInt32))), (.int (nar .byte ((z0 >>> ((8 : Int32) &&& 31)).toInt8.toInt32))), (.int (nar .byte ((z1 >>> ((0 : Int32) &&& 31)).toInt8.toInt32))), (.int (nar .byte ((z1 >>> ((8 : Int32) &&& 31)).toInt8.toInt32))), (.int (0 : Int32)), (.int (0 : Int32))]] 31 #[.val (.ref a417), .val (.int (2 : Int32)), .val (.int z2)] [(.int (4 : Int32))]
  refine go_istoreN #[.val (.ref a417), .val (.int (4 : Int32)), .val (.int z2)] 32 rfl d21_31 rfl rfl ?_
  refine go_aloadN 33 rfl d21_32 rfl rfl ?_
  refine go_iloadN 34 rfl d21_33 rfl ?_
  refine go_iinc #[.val (.ref a417), .val (.int (5 : Int32)), .val (.int z2)] 37 rfl d21_34 rfl rfl ?_
  refine go_iloadN 38 rfl d21_37 rfl ?_
  refine go_getS 41 rfl d21_38 (wd hw 94 rfl) SS.2.2.2.2.2.1 ?_
  refine go_ishr 42 rfl d21_41 rfl ?_
  refine go_i2b 43 rfl d21_42 rfl ?_
  refine go_bastore 0 44 rfl d21_43 rfl rfl (by decide) (Nat.le_of_ble_eq_true rfl) ?_
  show Go B21_140 Z a0 h0 _ 0 0 [ar a417 .byte [(.int (nar .byte ((z0 >>> ((0 : Int32) &&& 31)).toInt8.toInt32))), (.int (nar .byte ((z0 >>> ((8 : Int32) &&& 31)).toInt8.toInt32))), (.int (nar .byte ((z1 >>> ((0 : Int32) &&& 31)).toInt8.toInt32))), (.int (nar .byte ((z1 >>> ((8 : Int32) &&& 31)).toInt8.toInt32))), (.int (nar .byte ((z2 >>> ((0 : Int32) &&& 31)).toInt8.toInt32))), (.int (0 : Int32))]] 44 #[.val (.ref a417), .val (.int (5 : Int32)), .val (.int z2)] []
  refine go_aloadN 45 rfl d21_44 rfl rfl ?_
  refine go_iloadN 46 rfl d21_45 rfl ?_
  refine go_iloadN 47 rfl d21_46 rfl ?_
  refine go_getS 50 rfl d21_47 (wd hw 95 rfl) SS.2.2.2.2.2.2 ?_
  refine go_ishr 51 rfl d21_50 rfl ?_
  refine go_i2b 52 rfl d21_51 rfl ?_
  refine go_bastore 0 53 rfl d21_52 rfl rfl (by decide) (Nat.le_of_ble_eq_true rfl) ?_
  show Go B21_140 Z a0 h0 _ 0 0 (mem10 a417 z0 z1 z2) 53 #[.val (.ref a417), .val (.int (5 : Int32)), .val (.int z2)] []
  exact go_return d21_53 rfl rfl (by decide) (by decide) ⟨rfl, rfl⟩
def B18_135 : Bdy := (⟨"java/lang/StringUTF16", "toBytes", "([CII)[B"⟩, jdk_52_method_14_code, 5, (some (.array .byte)), ({ frames := 2, cells := 1, slots := 6, locals := 24 } : Room))
set_option maxRecDepth 65536 in
set_option maxHeartbeats 4000000 in
theorem mt135 (Z : State) (a0 : Array Value) (hw : ∀ d ∈ tables_1, d.before a0 Z = true) (h0 : Heap) (zc : Int32) (r99 : Value) (SS : Sts Z h0 zc r99) (z0 z1 z2 : Int32) (h_0 : 0 ≤ z0.toInt ∧ z0.toInt ≤ 65535) (h_1 : 0 ≤ z1.toInt ∧ z1.toInt ≤ 65535) (h_2 : 0 ≤ z2.toInt ∧ z2.toInt ≤ 65535) (a14 : Addr) :
    Met B18_135 Z a0 h0 #[(.ref a14), (.int (0 : Int32)), (.int (3 : Int32))] [ar a14 .char [(.int z0), (.int z1), (.int z2)]] (fun v ds => ∃ a417 : Addr, Ret (some (.ref a417)) (mem11 a417 z0 z1 z2 a14) v ds) := by
  refine Met.of pn18 (ls := #[.val (.ref a14), .val (.int (0 : Int32)), .val (.int (3 : Int32)), .unset, .unset]) (fun m => by first | (simp [entryFrame, mkF, argsToLocals, Value.category, B18_135]; done) | rfl) ?_
  show Go B18_135 Z a0 h0 _ 0 0 [ar a14 .char [(.int z0), (.int z1), (.int z2)]] 0 #[.val (.ref a14), .val (.int (0 : Int32)), .val (.int (3 : Int32)), .unset, .unset] []
  refine go_iloadN 1 rfl d18_0 rfl ?_
  refine go_callS 4 rfl d18_1 (wd hw 83 rfl) (wd hw 84 rfl) (wd hw 43 rfl) (wd hw 85 rfl) (by decide) (Met.frame [ar a14 .char [(.int z0), (.int z1), (.int z2)]] (mt136 Z a0 hw h0 zc r99 SS z0 z1 z2 h_0 h_1 h_2)) (argsL := [(.int (3 : Int32))]) (rest := []) rfl (ps := [.int]) (by decide +kernel) rfl rfl 0 rfl (by decide) (by decide) (by decide) (by decide) ?_
  rintro _ _ ⟨_, ⟨a417, rfl, rfl⟩, rfl⟩
  show Go B18_135 Z a0 h0 _ 1 6 [ar a417 .byte [(.int (0 : Int32)), (.int (0 : Int32)), (.int (0 : Int32)), (.int (0 : Int32)), (.int (0 : Int32)), (.int (0 : Int32))], ar a14 .char [(.int z0), (.int z1), (.int z2)]] 4 #[.val (.ref a14), .val (.int (0 : Int32)), .val (.int (3 : Int32)), .unset, .unset] [(.ref a417)]
  refine go_astoreN #[.val (.ref a14), .val (.int (0 : Int32)), .val (.int (3 : Int32)), .val (.ref a417), .unset] 5 rfl d18_4 rfl rfl rfl ?_
  refine go_iconst (0 : Int32) 6 rfl d18_5 rfl ?_
  refine go_istore #[.val (.ref a14), .val (.int (0 : Int32)), .val (.int (3 : Int32)), .val (.ref a417), .val (.int (0 : Int32))] 8 rfl d18_6 rfl rfl ?_
  refine go_iload 10 rfl d18_8 rfl ?_
  refine go_iloadN 11 rfl d18_10 rfl ?_
  refine go_icmp 32 14 rfl (by decide) rfl d18_11 rfl (fun (hc11 : (3 : Int) ≤ (0 : Int)) => absurd hc11 (by decide)) (fun (hc11 : ¬ ((3 : Int) ≤ (0 : Int))) => ?_)
  refine go_aloadN 15 rfl d18_14 rfl rfl ?_
  refine go_iload 17 rfl d18_15 rfl ?_
  refine go_aloadN 18 rfl d18_17 rfl rfl ?_
  refine go_iloadN 19 rfl d18_18 rfl ?_
  refine go_caload 20 rfl d18_19 rfl (Mo.el (i := 1) rfl (by decide) rfl) ?_
  refine go_callS 23 rfl d18_20 (wd hw 90 rfl) (wd hw 91 rfl) (wd hw 43 rfl) (wd hw 92 rfl) (by decide) (Met.frame [ar a14 .char [(.int z0), (.int z1), (.int z2)]] (mt138 Z a0 hw h0 zc r99 SS z0 z1 z2 h_0 h_1 h_2 a417)) (argsL := [(.ref a417), (.int (0 : Int32)), (.int z0)]) (rest := []) rfl (ps := [(.array .byte), .int, .int]) (by decide +kernel) rfl rfl 0 rfl (by decide) (by decide) (by decide) (by decide) ?_
  rintro _ _ ⟨_, ⟨rfl, rfl⟩, rfl⟩
  show Go B18_135 Z a0 h0 _ 1 6 [ar a417 .byte [(.int (nar .byte ((z0 >>> ((0 : Int32) &&& 31)).toInt8.toInt32))), (.int (nar .byte ((z0 >>> ((8 : Int32) &&& 31)).toInt8.toInt32))), (.int (0 : Int32)), (.int (0 : Int32)), (.int (0 : Int32)), (.int (0 : Int32))], ar a14 .char [(.int z0), (.int z1), (.int z2)]] 23 #[.val (.ref a14), .val (.int (0 : Int32)), .val (.int (3 : Int32)), .val (.ref a417), .val (.int (0 : Int32))] []
  refine go_iinc #[.val (.ref a14), .val (.int (1 : Int32)), .val (.int (3 : Int32)), .val (.ref a417), .val (.int (0 : Int32))] 26 rfl d18_23 rfl rfl ?_
  refine go_iinc #[.val (.ref a14), .val (.int (1 : Int32)), .val (.int (3 : Int32)), .val (.ref a417), .val (.int (1 : Int32))] 29 rfl d18_26 rfl rfl ?_
  refine go_goto 8 (by decide) rfl d18_29 ?_
  refine go_iload 10 rfl d18_8 rfl ?_
  refine go_iloadN 11 rfl d18_10 rfl ?_
  refine go_icmp 32 14 rfl (by decide) rfl d18_11 rfl (fun (hc11 : (3 : Int) ≤ (1 : Int)) => absurd hc11 (by decide)) (fun (hc11 : ¬ ((3 : Int) ≤ (1 : Int))) => ?_)
  refine go_aloadN 15 rfl d18_14 rfl rfl ?_
  refine go_iload 17 rfl d18_15 rfl ?_
  refine go_aloadN 18 rfl d18_17 rfl rfl ?_
  refine go_iloadN 19 rfl d18_18 rfl ?_
  refine go_caload 20 rfl d18_19 rfl (Mo.el (i := 1) rfl (by decide) rfl) ?_
  refine go_callS 23 rfl d18_20 (wd hw 90 rfl) (wd hw 91 rfl) (wd hw 43 rfl) (wd hw 92 rfl) (by decide) (Met.frame [ar a14 .char [(.int z0), (.int z1), (.int z2)]] (mt139 Z a0 hw h0 zc r99 SS z0 z1 z2 h_0 h_1 h_2 a417)) (argsL := [(.ref a417), (.int (1 : Int32)), (.int z1)]) (rest := []) rfl (ps := [(.array .byte), .int, .int]) (by decide +kernel) rfl rfl 0 rfl (by decide) (by decide) (by decide) (by decide) ?_
  rintro _ _ ⟨_, ⟨rfl, rfl⟩, rfl⟩
  show Go B18_135 Z a0 h0 _ 1 6 [ar a417 .byte [(.int (nar .byte ((z0 >>> ((0 : Int32) &&& 31)).toInt8.toInt32))), (.int (nar .byte ((z0 >>> ((8 : Int32) &&& 31)).toInt8.toInt32))), (.int (nar .byte ((z1 >>> ((0 : Int32) &&& 31)).toInt8.toInt32))), (.int (nar .byte ((z1 >>> ((8 : Int32) &&& 31)).toInt8.toInt32))), (.int (0 : Int32)), (.int (0 : Int32))], ar a14 .char [(.int z0), (.int z1), (.int z2)]] 23 #[.val (.ref a14), .val (.int (1 : Int32)), .val (.int (3 : Int32)), .val (.ref a417), .val (.int (1 : Int32))] []
  refine go_iinc #[.val (.ref a14), .val (.int (2 : Int32)), .val (.int (3 : Int32)), .val (.ref a417), .val (.int (1 : Int32))] 26 rfl d18_23 rfl rfl ?_
  refine go_iinc #[.val (.ref a14), .val (.int (2 : Int32)), .val (.int (3 : Int32)), .val (.ref a417), .val (.int (2 : Int32))] 29 rfl d18_26 rfl rfl ?_
  refine go_goto 8 (by decide) rfl d18_29 ?_
  refine go_iload 10 rfl d18_8 rfl ?_
  refine go_iloadN 11 rfl d18_10 rfl ?_
  refine go_icmp 32 14 rfl (by decide) rfl d18_11 rfl (fun (hc11 : (3 : Int) ≤ (2 : Int)) => absurd hc11 (by decide)) (fun (hc11 : ¬ ((3 : Int) ≤ (2 : Int))) => ?_)
  refine go_aloadN 15 rfl d18_14 rfl rfl ?_
  refine go_iload 17 rfl d18_15 rfl ?_
  refine go_aloadN 18 rfl d18_17 rfl rfl ?_
  refine go_iloadN 19 rfl d18_18 rfl ?_
  refine go_caload 20 rfl d18_19 rfl (Mo.el (i := 1) rfl (by decide) rfl) ?_
  refine go_callS 23 rfl d18_20 (wd hw 90 rfl) (wd hw 91 rfl) (wd hw 43 rfl) (wd hw 92 rfl) (by decide) (Met.frame [ar a14 .char [(.int z0), (.int z1), (.int z2)]] (mt140 Z a0 hw h0 zc r99 SS z0 z1 z2 h_0 h_1 h_2 a417)) (argsL := [(.ref a417), (.int (2 : Int32)), (.int z2)]) (rest := []) rfl (ps := [(.array .byte), .int, .int]) (by decide +kernel) rfl rfl 0 rfl (by decide) (by decide) (by decide) (by decide) ?_
  rintro _ _ ⟨_, ⟨rfl, rfl⟩, rfl⟩
  show Go B18_135 Z a0 h0 _ 1 6 (mem11 a417 z0 z1 z2 a14) 23 #[.val (.ref a14), .val (.int (2 : Int32)), .val (.int (3 : Int32)), .val (.ref a417), .val (.int (2 : Int32))] []
  refine go_iinc #[.val (.ref a14), .val (.int (3 : Int32)), .val (.int (3 : Int32)), .val (.ref a417), .val (.int (2 : Int32))] 26 rfl d18_23 rfl rfl ?_
  refine go_iinc #[.val (.ref a14), .val (.int (3 : Int32)), .val (.int (3 : Int32)), .val (.ref a417), .val (.int (3 : Int32))] 29 rfl d18_26 rfl rfl ?_
  refine go_goto 8 (by decide) rfl d18_29 ?_
  refine go_iload 10 rfl d18_8 rfl ?_
  refine go_iloadN 11 rfl d18_10 rfl ?_
  refine go_icmp 32 14 rfl (by decide) rfl d18_11 rfl (fun (hc11 : (3 : Int) ≤ (3 : Int)) => ?_) (fun (hc11 : ¬ ((3 : Int) ≤ (3 : Int))) => absurd hc11 (by decide))
  refine go_aloadN 33 rfl d18_32 rfl rfl ?_
  exact go_areturn d18_33 rfl rfl rfl rfl (by decide) (by decide) ⟨a417, rfl, rfl⟩
def B22_141 : Bdy := (⟨"java/lang/StringUTF16", "getChar", "([BI)C"⟩, jdk_52_method_5_code, 2, (some .char), ({ frames := 0, cells := 0, slots := 0, locals := 0 } : Room))
set_option maxRecDepth 65536 in
set_option maxHeartbeats 4000000 in
theorem mt141 (Z : State) (a0 : Array Value) (hw : ∀ d ∈ tables_1, d.before a0 Z = true) (h0 : Heap) (zc : Int32) (r99 : Value) (SS : Sts Z h0 zc r99) (z0 z1 z2 : Int32) (h_0 : 0 ≤ z0.toInt ∧ z0.toInt ≤ 65535) (h_1 : 0 ≤ z1.toInt ∧ z1.toInt ≤ 65535) (h_2 : 0 ≤ z2.toInt ∧ z2.toInt ≤ 65535) (a317 : Addr) :
    Met B22_141 Z a0 h0 #[(.ref a317), (.int (2 : Int32))] (mem10 a317 z0 z1 z2) (Ret (some (.int z2)) (mem10 a317 z0 z1 z2)) := by
  refine Met.of pn22 (ls := #[.val (.ref a317), .val (.int (2 : Int32))]) (fun m => by first | (simp [entryFrame, mkF, argsToLocals, Value.category, B22_141]; done) | rfl) ?_
  show Go B22_141 Z a0 h0 _ 0 0 (mem10 a317 z0 z1 z2) 0 #[.val (.ref a317), .val (.int (2 : Int32))] []
  refine go_getS 3 rfl d22_0 (wd hw 93 rfl) SS.2.2.2.2.1 ?_
  refine go_if 28 6 rfl (by decide) rfl d22_3 rfl (fun (hc3 : (1 : Int) ≠ 0) => ?_) (fun (hc3 : ¬ ((1 : Int) ≠ 0)) => absurd hc3 (by decide))
  refine go_iloadN 29 rfl d22_28 rfl ?_
  refine go_iconst (1 : Int32) 30 rfl d22_29 rfl ?_
  refine go_ishl 31 rfl d22_30 rfl ?_
  show Go B22_141 Z a0 h0 _ 0 0 (mem10 a317 z0 z1 z2) 31 #[.val (.ref a317), .val (.int (2 : Int32))] [(.int (4 : Int32))]
  refine go_istoreN #[.val (.ref a317), .val (.int (4 : Int32))] 32 rfl d22_31 rfl rfl ?_
  refine go_aloadN 33 rfl d22_32 rfl rfl ?_
  refine go_iloadN 34 rfl d22_33 rfl ?_
  refine go_iinc #[.val (.ref a317), .val (.int (5 : Int32))] 37 rfl d22_34 rfl rfl ?_
  refine go_baload 38 rfl d22_37 rfl (Mo.el (i := 0) rfl (by decide) rfl) ?_
  refine go_sipush (255 : Int32) 41 rfl d22_38 rfl ?_
  refine go_iand 42 rfl d22_41 rfl ?_
  refine go_getS 45 rfl d22_42 (wd hw 94 rfl) SS.2.2.2.2.2.1 ?_
  refine go_ishl 46 rfl d22_45 rfl ?_
  refine go_aloadN 47 rfl d22_46 rfl rfl ?_
  refine go_iloadN 48 rfl d22_47 rfl ?_
  refine go_baload 49 rfl d22_48 rfl (Mo.el (i := 0) rfl (by decide) rfl) ?_
  refine go_sipush (255 : Int32) 52 rfl d22_49 rfl ?_
  refine go_iand 53 rfl d22_52 rfl ?_
  refine go_getS 56 rfl d22_53 (wd hw 95 rfl) SS.2.2.2.2.2.2 ?_
  refine go_ishl 57 rfl d22_56 rfl ?_
  refine go_ior 58 rfl d22_57 rfl ?_
  refine go_i2c 59 rfl d22_58 rfl ?_
  exact go_ireturn d22_59 rfl (Or.inr (Or.inr (Or.inr (Or.inl rfl)))) rfl (congrArg Value.int (nar_c _)) (by decide) (by decide) (by rw [utf z2 h_2]; exact ⟨rfl, rfl⟩)
def B8_133 : Bdy := (⟨"java/lang/StringUTF16", "compress", "([CII)[B"⟩, jdk_52_method_16_code, 6, (some (.array .byte)), ({ frames := 3, cells := 2, slots := 9, locals := 40 } : Room))
set_option maxRecDepth 65536 in
set_option maxHeartbeats 4000000 in
theorem mt133 (Z : State) (a0 : Array Value) (hw : ∀ d ∈ tables_1, d.before a0 Z = true) (h0 : Heap) (zc : Int32) (r99 : Value) (SS : Sts Z h0 zc r99) (z0 z1 z2 : Int32) (h_0 : 0 ≤ z0.toInt ∧ z0.toInt ≤ 65535) (h_1 : 0 ≤ z1.toInt ∧ z1.toInt ≤ 65535) (h_2 : 0 ≤ z2.toInt ∧ z2.toInt ≤ 65535) (g0 : z0.toInt ≤ 255) (g1 : z1.toInt ≤ 255) (g2 : ¬ z2.toInt ≤ 255) (a14 : Addr) :
    Met B8_133 Z a0 h0 #[(.ref a14), (.int (0 : Int32)), (.int (3 : Int32))] [ar a14 .char [(.int z0), (.int z1), (.int z2)]] (fun v ds => ∃ a317 a316 : Addr, Ret (some (.ref a317)) (mem12 a317 z0 z1 z2 a14 a316) v ds) := by
  refine Met.of pn8 (ls := #[.val (.ref a14), .val (.int (0 : Int32)), .val (.int (3 : Int32)), .unset, .unset, .unset]) (fun m => by first | (simp [entryFrame, mkF, argsToLocals, Value.category, B8_133]; done) | rfl) ?_
  show Go B8_133 Z a0 h0 _ 0 0 [ar a14 .char [(.int z0), (.int z1), (.int z2)]] 0 #[.val (.ref a14), .val (.int (0 : Int32)), .val (.int (3 : Int32)), .unset, .unset, .unset] []
  refine go_iloadN 1 rfl d8_0 rfl ?_
  refine go_newarr 3 rfl d8_1 rfl (wd hw 19 rfl) (by decide) 3 (by decide) (by decide) (by decide) (by decide) (fun a316 => ?_)
  show Go B8_133 Z a0 h0 _ 1 3 [ar a14 .char [(.int z0), (.int z1), (.int z2)], ar a316 .byte [(.int (0 : Int32)), (.int (0 : Int32)), (.int (0 : Int32))]] 3 #[.val (.ref a14), .val (.int (0 : Int32)), .val (.int (3 : Int32)), .unset, .unset, .unset] [(.ref a316)]
  refine go_astoreN #[.val (.ref a14), .val (.int (0 : Int32)), .val (.int (3 : Int32)), .val (.ref a316), .unset, .unset] 4 rfl d8_3 rfl rfl rfl ?_
  refine go_aloadN 5 rfl d8_4 rfl rfl ?_
  refine go_iloadN 6 rfl d8_5 rfl ?_
  refine go_aloadN 7 rfl d8_6 rfl rfl ?_
  refine go_iconst (0 : Int32) 8 rfl d8_7 rfl ?_
  refine go_iloadN 9 rfl d8_8 rfl ?_
  refine go_callS 12 rfl d8_9 (wd hw 45 rfl) (wd hw 46 rfl) (wd hw 43 rfl) (wd hw 47 rfl) (by decide) (mt134 Z a0 hw h0 zc r99 SS z0 z1 z2 h_0 h_1 h_2 g0 g1 g2 a14 a316) (argsL := [(.ref a14), (.int (0 : Int32)), (.ref a316), (.int (0 : Int32)), (.int (3 : Int32))]) (rest := []) rfl (ps := [(.array .char), .int, (.array .byte), .int, .int]) (by decide +kernel) rfl rfl 0 rfl (by decide) (by decide) (by decide) (by decide) ?_
  rintro _ _ ⟨rfl, rfl⟩
  show Go B8_133 Z a0 h0 _ 1 3 [ar a14 .char [(.int z0), (.int z1), (.int z2)], ar a316 .byte [(.int (nar .byte (z0.toInt8.toInt32))), (.int (nar .byte (z1.toInt8.toInt32))), (.int (0 : Int32))]] 12 #[.val (.ref a14), .val (.int (0 : Int32)), .val (.int (3 : Int32)), .val (.ref a316), .unset, .unset] [(.int (2 : Int32))]
  refine go_istore #[.val (.ref a14), .val (.int (0 : Int32)), .val (.int (3 : Int32)), .val (.ref a316), .val (.int (2 : Int32)), .unset] 14 rfl d8_12 rfl rfl ?_
  refine go_iload 16 rfl d8_14 rfl ?_
  refine go_iloadN 17 rfl d8_16 rfl ?_
  refine go_icmp 57 20 rfl (by decide) rfl d8_17 rfl (fun (hc17 : (2 : Int) = (3 : Int)) => absurd hc17 (by decide)) (fun (hc17 : ¬ ((2 : Int) = (3 : Int))) => ?_)
  refine go_aloadN 21 rfl d8_20 rfl rfl ?_
  refine go_iloadN 22 rfl d8_21 rfl ?_
  refine go_iloadN 23 rfl d8_22 rfl ?_
  refine go_callS 26 rfl d8_23 (wd hw 80 rfl) (wd hw 81 rfl) (wd hw 43 rfl) (wd hw 82 rfl) (by decide) (Met.frame [ar a316 .byte [(.int (nar .byte (z0.toInt8.toInt32))), (.int (nar .byte (z1.toInt8.toInt32))), (.int (0 : Int32))]] (mt135 Z a0 hw h0 zc r99 SS z0 z1 z2 h_0 h_1 h_2 a14)) (argsL := [(.ref a14), (.int (0 : Int32)), (.int (3 : Int32))]) (rest := []) rfl (ps := [(.array .char), .int, .int]) (by decide +kernel) rfl rfl 0 rfl (by decide) (by decide) (by decide) (by decide) ?_
  rintro _ _ ⟨_, ⟨a317, rfl, rfl⟩, rfl⟩
  show Go B8_133 Z a0 h0 _ 2 9 (mem12 a317 z0 z1 z2 a14 a316) 26 #[.val (.ref a14), .val (.int (0 : Int32)), .val (.int (3 : Int32)), .val (.ref a316), .val (.int (2 : Int32)), .unset] [(.ref a317)]
  refine go_astore #[.val (.ref a14), .val (.int (0 : Int32)), .val (.int (3 : Int32)), .val (.ref a316), .val (.int (2 : Int32)), .val (.ref a317)] 28 rfl d8_26 rfl rfl rfl ?_
  refine go_aload 30 rfl d8_28 rfl rfl ?_
  refine go_iload 32 rfl d8_30 rfl ?_
  refine go_callS 35 rfl d8_32 (wd hw 96 rfl) (wd hw 97 rfl) (wd hw 43 rfl) (wd hw 98 rfl) (by decide) (Met.frame [ar a14 .char [(.int z0), (.int z1), (.int z2)], ar a316 .byte [(.int (nar .byte (z0.toInt8.toInt32))), (.int (nar .byte (z1.toInt8.toInt32))), (.int (0 : Int32))]] (mt141 Z a0 hw h0 zc r99 SS z0 z1 z2 h_0 h_1 h_2 a317)) (argsL := [(.ref a317), (.int (2 : Int32))]) (rest := []) rfl (ps := [(.array .byte), .int]) (by decide +kernel) rfl rfl 0 rfl (by decide) (by decide) (by decide) (by decide) ?_
  rintro _ _ ⟨_, ⟨rfl, rfl⟩, rfl⟩
  show Go B8_133 Z a0 h0 _ 2 9 (mem12 a317 z0 z1 z2 a14 a316) 35 #[.val (.ref a14), .val (.int (0 : Int32)), .val (.int (3 : Int32)), .val (.ref a316), .val (.int (2 : Int32)), .val (.ref a317)] [(.int z2)]
  refine go_sipush (255 : Int32) 38 rfl d8_35 rfl ?_
  refine go_icmp 54 41 rfl (by decide) rfl d8_38 rfl (fun (hc38 : (255 : Int) < z2.toInt) => ?_) (fun (hc38 : ¬ ((255 : Int) < z2.toInt)) => absurd hc38 (by omega))
  refine go_aload 56 rfl d8_54 rfl rfl ?_
  exact go_areturn d8_56 rfl rfl rfl rfl (by decide) (by decide) ⟨a317, a316, rfl, rfl⟩
def B10_142 : Bdy := (⟨"java/lang/StringUTF16", "coderFromArrayLen", "([BI)B"⟩, jdk_52_method_15_code, 2, (some .byte), ({ frames := 0, cells := 0, slots := 0, locals := 0 } : Room))
set_option maxRecDepth 65536 in
set_option maxHeartbeats 4000000 in
theorem mt142 (Z : State) (a0 : Array Value) (hw : ∀ d ∈ tables_1, d.before a0 Z = true) (h0 : Heap) (zc : Int32) (r99 : Value) (SS : Sts Z h0 zc r99) (z0 z1 z2 : Int32) (h_0 : 0 ≤ z0.toInt ∧ z0.toInt ≤ 65535) (h_1 : 0 ≤ z1.toInt ∧ z1.toInt ≤ 65535) (h_2 : 0 ≤ z2.toInt ∧ z2.toInt ≤ 65535) (a216 : Addr) :
    Met B10_142 Z a0 h0 #[(.ref a216), (.int (3 : Int32))] (mem10 a216 z0 z1 z2) (Ret (some (.int (1 : Int32))) (mem10 a216 z0 z1 z2)) := by
  refine Met.of pn10 (ls := #[.val (.ref a216), .val (.int (3 : Int32))]) (fun m => by first | (simp [entryFrame, mkF, argsToLocals, Value.category, B10_142]; done) | rfl) ?_
  show Go B10_142 Z a0 h0 _ 0 0 (mem10 a216 z0 z1 z2) 0 #[.val (.ref a216), .val (.int (3 : Int32))] []
  refine go_iloadN 1 rfl d10_0 rfl ?_
  refine go_aloadN 2 rfl d10_1 rfl rfl ?_
  refine go_alen 0 3 rfl d10_2 rfl rfl ?_
  show Go B10_142 Z a0 h0 _ 0 0 (mem10 a216 z0 z1 z2) 3 #[.val (.ref a216), .val (.int (3 : Int32))] [(.int (6 : Int32)), (.int (3 : Int32))]
  refine go_isub 4 rfl d10_3 rfl ?_
  show Go B10_142 Z a0 h0 _ 0 0 (mem10 a216 z0 z1 z2) 4 #[.val (.ref a216), .val (.int (3 : Int32))] [(.int (-3 : Int32))]
  refine go_bipush (31 : Int32) 6 rfl d10_4 rfl ?_
  refine go_iushr 7 rfl d10_6 rfl ?_
  show Go B10_142 Z a0 h0 _ 0 0 (mem10 a216 z0 z1 z2) 7 #[.val (.ref a216), .val (.int (3 : Int32))] [(.int (1 : Int32))]
  refine go_i2b 8 rfl d10_7 rfl ?_
  show Go B10_142 Z a0 h0 _ 0 0 (mem10 a216 z0 z1 z2) 8 #[.val (.ref a216), .val (.int (3 : Int32))] [(.int (1 : Int32))]
  exact go_ireturn d10_8 rfl (Or.inr (Or.inr (Or.inl rfl))) rfl rfl (by decide) (by decide) ⟨rfl, rfl⟩
def B3_132 : Bdy := (⟨"java/lang/String", "<init>", "([CIILjava/lang/Void;)V"⟩, jdk_42_method_149_code, 6, none, ({ frames := 4, cells := 2, slots := 9, locals := 57 } : Room))
set_option maxRecDepth 65536 in
set_option maxHeartbeats 4000000 in
theorem mt132 (Z : State) (a0 : Array Value) (hw : ∀ d ∈ tables_1, d.before a0 Z = true) (h0 : Heap) (zc : Int32) (r99 : Value) (SS : Sts Z h0 zc r99) (z0 z1 z2 : Int32) (h_0 : 0 ≤ z0.toInt ∧ z0.toInt ≤ 65535) (h_1 : 0 ≤ z1.toInt ∧ z1.toInt ≤ 65535) (h_2 : 0 ≤ z2.toInt ∧ z2.toInt ≤ 65535) (g0 : z0.toInt ≤ 255) (g1 : z1.toInt ≤ 255) (g2 : ¬ z2.toInt ≤ 255) (a13 : Addr) (a14 : Addr) :
    Met B3_132 Z a0 h0 #[(.ref a13), (.ref a14), (.int (0 : Int32)), (.int (3 : Int32)), .null] [ob a13 "java/lang/String" [("java/lang/String", "value", "[B", .null), ("java/lang/String", "coder", "B", (.int (0 : Int32)))], ar a14 .char [(.int z0), (.int z1), (.int z2)]] (fun v ds => ∃ a216 a217 : Addr, Ret none (mem15 a216 z0 z1 z2 a14 a217 a13) v ds) := by
  refine Met.of pn3 (ls := #[.val (.ref a13), .val (.ref a14), .val (.int (0 : Int32)), .val (.int (3 : Int32)), .val .null, .unset]) (fun m => by first | (simp [entryFrame, mkF, argsToLocals, Value.category, B3_132]; done) | rfl) ?_
  show Go B3_132 Z a0 h0 _ 0 0 [ob a13 "java/lang/String" [("java/lang/String", "value", "[B", .null), ("java/lang/String", "coder", "B", (.int (0 : Int32)))], ar a14 .char [(.int z0), (.int z1), (.int z2)]] 0 #[.val (.ref a13), .val (.ref a14), .val (.int (0 : Int32)), .val (.int (3 : Int32)), .val .null, .unset] []
  refine go_aloadN 1 rfl d3_0 rfl rfl ?_
  refine go_initObj 4 rfl d3_1 rfl (wd hw 15 rfl) (wd hw 16 rfl) (wd hw 17 rfl) rfl (by decide) (by decide) ?_
  refine go_iloadN 5 rfl d3_4 rfl ?_
  refine go_if 27 8 rfl (by decide) rfl d3_5 rfl (fun (hc5 : (3 : Int) ≠ 0) => ?_) (fun (hc5 : ¬ ((3 : Int) ≠ 0)) => absurd hc5 (by decide))
  refine go_getS 30 rfl d3_27 (wd hw 40 rfl) SS.1 ?_
  refine go_if 58 33 rfl (by decide) rfl d3_30 rfl (fun (hc30 : zc.toInt = 0) => absurd hc30 (by exact fun q => SS.2.1 (Int32.toInt_inj.mp q))) (fun (hc30 : ¬ (zc.toInt = 0)) => ?_)
  refine go_aloadN 34 rfl d3_33 rfl rfl ?_
  refine go_iloadN 35 rfl d3_34 rfl ?_
  refine go_iloadN 36 rfl d3_35 rfl ?_
  refine Go.front 1 (Nat.le_of_ble_eq_true rfl) ?_
  show Go B3_132 Z a0 h0 _ 0 0 [ar a14 .char [(.int z0), (.int z1), (.int z2)], ob a13 "java/lang/String" [("java/lang/String", "value", "[B", .null), ("java/lang/String", "coder", "B", (.int (0 : Int32)))]] 36 #[.val (.ref a13), .val (.ref a14), .val (.int (0 : Int32)), .val (.int (3 : Int32)), .val .null, .unset] [(.int (3 : Int32)), (.int (0 : Int32)), (.ref a14)]
  refine go_callS 39 rfl d3_36 (wd hw 41 rfl) (wd hw 42 rfl) (wd hw 43 rfl) (wd hw 44 rfl) (by decide) (Met.frame [ob a13 "java/lang/String" [("java/lang/String", "value", "[B", .null), ("java/lang/String", "coder", "B", (.int (0 : Int32)))]] (mt133 Z a0 hw h0 zc r99 SS z0 z1 z2 h_0 h_1 h_2 g0 g1 g2 a14)) (argsL := [(.ref a14), (.int (0 : Int32)), (.int (3 : Int32))]) (rest := []) rfl (ps := [(.array .char), .int, .int]) (by decide +kernel) rfl rfl 0 rfl (by decide) (by decide) (by decide) (by decide) ?_
  rintro _ _ ⟨_, ⟨a216, a217, rfl, rfl⟩, rfl⟩
  show Go B3_132 Z a0 h0 _ 2 9 (mem13 a216 z0 z1 z2 a14 a217 a13) 39 #[.val (.ref a13), .val (.ref a14), .val (.int (0 : Int32)), .val (.int (3 : Int32)), .val .null, .unset] [(.ref a216)]
  refine go_astore #[.val (.ref a13), .val (.ref a14), .val (.int (0 : Int32)), .val (.int (3 : Int32)), .val .null, .val (.ref a216)] 41 rfl d3_39 rfl rfl rfl ?_
  refine go_aloadN 42 rfl d3_41 rfl rfl ?_
  refine go_aload 44 rfl d3_42 rfl rfl ?_
  refine go_iloadN 45 rfl d3_44 rfl ?_
  refine go_callS 48 rfl d3_45 (wd hw 48 rfl) (wd hw 49 rfl) (wd hw 43 rfl) (wd hw 50 rfl) (by decide) (Met.frame [ar a14 .char [(.int z0), (.int z1), (.int z2)], ar a217 .byte [(.int (nar .byte (z0.toInt8.toInt32))), (.int (nar .byte (z1.toInt8.toInt32))), (.int (0 : Int32))], ob a13 "java/lang/String" [("java/lang/String", "value", "[B", .null), ("java/lang/String", "coder", "B", (.int (0 : Int32)))]] (mt142 Z a0 hw h0 zc r99 SS z0 z1 z2 h_0 h_1 h_2 a216)) (argsL := [(.ref a216), (.int (3 : Int32))]) (rest := [(.ref a13)]) rfl (ps := [(.array .byte), .int]) (by decide +kernel) rfl rfl 1 rfl (by decide) (by decide) (by decide) (by decide) ?_
  rintro _ _ ⟨_, ⟨rfl, rfl⟩, rfl⟩
  show Go B3_132 Z a0 h0 _ 2 9 (mem13 a216 z0 z1 z2 a14 a217 a13) 48 #[.val (.ref a13), .val (.ref a14), .val (.int (0 : Int32)), .val (.int (3 : Int32)), .val .null, .val (.ref a216)] [(.int (1 : Int32)), (.ref a13)]
  refine go_put 3 1 51 rfl d3_48 rfl rfl rfl (wd hw 25 rfl) (Or.inr ⟨(wd hw 21 rfl), rfl, rfl⟩) (wd hw 5 rfl) (ty := .byte) (by decide) rfl rfl ?_
  show Go B3_132 Z a0 h0 _ 2 9 (mem14 a216 z0 z1 z2 a14 a217 a13) 51 #[.val (.ref a13), .val (.ref a14), .val (.int (0 : Int32)), .val (.int (3 : Int32)), .val .null, .val (.ref a216)] []
  refine go_aloadN 52 rfl d3_51 rfl rfl ?_
  refine go_aload 54 rfl d3_52 rfl rfl ?_
  refine go_put 3 0 57 rfl d3_54 rfl rfl rfl (wd hw 24 rfl) (Or.inr ⟨(wd hw 20 rfl), rfl, rfl⟩) (wd hw 5 rfl) (ty := (.array .byte)) (by decide) rfl rfl ?_
  show Go B3_132 Z a0 h0 _ 2 9 (mem15 a216 z0 z1 z2 a14 a217 a13) 57 #[.val (.ref a13), .val (.ref a14), .val (.int (0 : Int32)), .val (.int (3 : Int32)), .val .null, .val (.ref a216)] []
  exact go_return d3_57 rfl rfl (by decide) (by decide) ⟨a216, a217, rfl, rfl⟩
def B2_131 : Bdy := (⟨"java/lang/String", "<init>", "([C)V"⟩, jdk_42_method_3_code, 2, none, ({ frames := 5, cells := 2, slots := 9, locals := 74 } : Room))
set_option maxRecDepth 65536 in
set_option maxHeartbeats 4000000 in
theorem mt131 (Z : State) (a0 : Array Value) (hw : ∀ d ∈ tables_1, d.before a0 Z = true) (h0 : Heap) (zc : Int32) (r99 : Value) (SS : Sts Z h0 zc r99) (z0 z1 z2 : Int32) (h_0 : 0 ≤ z0.toInt ∧ z0.toInt ≤ 65535) (h_1 : 0 ≤ z1.toInt ∧ z1.toInt ≤ 65535) (h_2 : 0 ≤ z2.toInt ∧ z2.toInt ≤ 65535) (g0 : z0.toInt ≤ 255) (g1 : z1.toInt ≤ 255) (g2 : ¬ z2.toInt ≤ 255) (a13 : Addr) (a14 : Addr) :
    Met B2_131 Z a0 h0 #[(.ref a13), (.ref a14)] [ob a13 "java/lang/String" [("java/lang/String", "value", "[B", .null), ("java/lang/String", "coder", "B", (.int (0 : Int32)))], ar a14 .char [(.int z0), (.int z1), (.int z2)]] (fun v ds => ∃ a116 a117 : Addr, Ret none (mem15 a116 z0 z1 z2 a14 a117 a13) v ds) := by
  refine Met.of pn2 (ls := #[.val (.ref a13), .val (.ref a14)]) (fun m => by first | (simp [entryFrame, mkF, argsToLocals, Value.category, B2_131]; done) | rfl) ?_
  show Go B2_131 Z a0 h0 _ 0 0 [ob a13 "java/lang/String" [("java/lang/String", "value", "[B", .null), ("java/lang/String", "coder", "B", (.int (0 : Int32)))], ar a14 .char [(.int z0), (.int z1), (.int z2)]] 0 #[.val (.ref a13), .val (.ref a14)] []
  refine go_aloadN 1 rfl d2_0 rfl rfl ?_
  refine go_aloadN 2 rfl d2_1 rfl rfl ?_
  refine go_iconst (0 : Int32) 3 rfl d2_2 rfl ?_
  refine go_aloadN 4 rfl d2_3 rfl rfl ?_
  refine go_alen 1 5 rfl d2_4 rfl rfl ?_
  show Go B2_131 Z a0 h0 _ 0 0 [ob a13 "java/lang/String" [("java/lang/String", "value", "[B", .null), ("java/lang/String", "coder", "B", (.int (0 : Int32)))], ar a14 .char [(.int z0), (.int z1), (.int z2)]] 5 #[.val (.ref a13), .val (.ref a14)] [(.int (3 : Int32)), (.int (0 : Int32)), (.ref a14), (.ref a13)]
  refine go_aconstNull 6 rfl d2_5 ?_
  refine go_callI 9 rfl d2_6 rfl (wd hw 11 rfl) (wd hw 12 rfl) (wd hw 6 rfl) (wd hw 14 rfl) (by decide) (mt132 Z a0 hw h0 zc r99 SS z0 z1 z2 h_0 h_1 h_2 g0 g1 g2 a13 a14) (argsL := [(.ref a14), (.int (0 : Int32)), (.int (3 : Int32)), .null]) (rest := []) rfl (ret := none) (ps := [(.array .char), .int, .int, (.object "java/lang/Void")]) (by decide +kernel) rfl rfl 0 rfl (by decide) (by decide) (by decide) (by decide) ?_
  rintro _ _ ⟨a116, a117, rfl, rfl⟩
  show Go B2_131 Z a0 h0 _ 2 9 (mem15 a116 z0 z1 z2 a14 a117 a13) 9 #[.val (.ref a13), .val (.ref a14)] []
  exact go_return d2_9 rfl rfl (by decide) (by decide) ⟨a116, a117, rfl, rfl⟩
def B7_146 : Bdy := (⟨"java/lang/String", "coder", "()B"⟩, jdk_42_method_152_code, 1, (some .byte), ({ frames := 0, cells := 0, slots := 0, locals := 0 } : Room))
set_option maxRecDepth 65536 in
set_option maxHeartbeats 4000000 in
theorem mt146 (Z : State) (a0 : Array Value) (hw : ∀ d ∈ tables_1, d.before a0 Z = true) (h0 : Heap) (zc : Int32) (r99 : Value) (SS : Sts Z h0 zc r99) (z0 z1 z2 : Int32) (h_0 : 0 ≤ z0.toInt ∧ z0.toInt ≤ 65535) (h_1 : 0 ≤ z1.toInt ∧ z1.toInt ≤ 65535) (h_2 : 0 ≤ z2.toInt ∧ z2.toInt ≤ 65535) (a16 : Addr) (a13 : Addr) :
    Met B7_146 Z a0 h0 #[(.ref a13)] (mem17 a16 z0 z1 z2 a13) (Ret (some (.int (1 : Int32))) (mem17 a16 z0 z1 z2 a13)) := by
  refine Met.of pn7 (ls := #[.val (.ref a13)]) (fun m => by first | (simp [entryFrame, mkF, argsToLocals, Value.category, B7_146]; done) | rfl) ?_
  show Go B7_146 Z a0 h0 _ 0 0 (mem17 a16 z0 z1 z2 a13) 0 #[.val (.ref a13)] []
  refine go_getS 3 rfl d7_0 (wd hw 40 rfl) SS.1 ?_
  refine go_if 13 6 rfl (by decide) rfl d7_3 rfl (fun (hc3 : zc.toInt = 0) => absurd hc3 (by exact fun q => SS.2.1 (Int32.toInt_inj.mp q))) (fun (hc3 : ¬ (zc.toInt = 0)) => ?_)
  refine go_aloadN 7 rfl d7_6 rfl rfl ?_
  refine go_get 1 1 10 rfl d7_7 rfl rfl rfl (wd hw 25 rfl) ?_
  refine go_goto 14 (by decide) rfl d7_10 ?_
  exact go_ireturn d7_14 rfl (Or.inr (Or.inr (Or.inl rfl))) rfl rfl (by decide) (by decide) ⟨rfl, rfl⟩
def B6_145 : Bdy := (⟨"java/lang/String", "length", "()I"⟩, jdk_42_method_54_code, 1, (some .int), ({ frames := 1, cells := 0, slots := 0, locals := 13 } : Room))
set_option maxRecDepth 65536 in
set_option maxHeartbeats 4000000 in
theorem mt145 (Z : State) (a0 : Array Value) (hw : ∀ d ∈ tables_1, d.before a0 Z = true) (h0 : Heap) (zc : Int32) (r99 : Value) (SS : Sts Z h0 zc r99) (z0 z1 z2 : Int32) (h_0 : 0 ≤ z0.toInt ∧ z0.toInt ≤ 65535) (h_1 : 0 ≤ z1.toInt ∧ z1.toInt ≤ 65535) (h_2 : 0 ≤ z2.toInt ∧ z2.toInt ≤ 65535) (a16 : Addr) (a13 : Addr) :
    Met B6_145 Z a0 h0 #[(.ref a13)] (mem17 a16 z0 z1 z2 a13) (Ret (some (.int (3 : Int32))) (mem17 a16 z0 z1 z2 a13)) := by
  refine Met.of pn6 (ls := #[.val (.ref a13)]) (fun m => by first | (simp [entryFrame, mkF, argsToLocals, Value.category, B6_145]; done) | rfl) ?_
  show Go B6_145 Z a0 h0 _ 0 0 (mem17 a16 z0 z1 z2 a13) 0 #[.val (.ref a13)] []
  refine go_aloadN 1 rfl d6_0 rfl rfl ?_
  refine go_get 1 0 4 rfl d6_1 rfl rfl rfl (wd hw 24 rfl) ?_
  refine go_alen 0 5 rfl d6_4 rfl rfl ?_
  show Go B6_145 Z a0 h0 _ 0 0 (mem17 a16 z0 z1 z2 a13) 5 #[.val (.ref a13)] [(.int (6 : Int32))]
  refine go_aloadN 6 rfl d6_5 rfl rfl ?_
  refine go_callV 9 rfl d6_6 (wd hw 35 rfl) (wd hw 36 rfl) (wd hw 38 rfl) (wd hw 37 rfl) (wd hw 6 rfl) (wd hw 39 rfl) (by decide) (Mo.exa (i := 1) rfl) (mt146 Z a0 hw h0 zc r99 SS z0 z1 z2 h_0 h_1 h_2 a16 a13) (argsL := []) (rest := [(.int (6 : Int32))]) rfl (ps := []) (by decide +kernel) rfl rfl 1 rfl (by decide) (by decide) (by decide) (by decide) ?_
  rintro _ _ ⟨rfl, rfl⟩
  show Go B6_145 Z a0 h0 _ 0 0 (mem17 a16 z0 z1 z2 a13) 9 #[.val (.ref a13)] [(.int (1 : Int32)), (.int (6 : Int32))]
  refine go_ishr 10 rfl d6_9 rfl ?_
  show Go B6_145 Z a0 h0 _ 0 0 (mem17 a16 z0 z1 z2 a13) 10 #[.val (.ref a13)] [(.int (3 : Int32))]
  exact go_ireturn d6_10 rfl (Or.inl rfl) rfl rfl (by decide) (by decide) ⟨rfl, rfl⟩
def B13_148 : Bdy := (⟨"java/lang/String", "isLatin1", "()Z"⟩, jdk_42_method_154_code, 1, (some .boolean), ({ frames := 0, cells := 0, slots := 0, locals := 0 } : Room))
set_option maxRecDepth 65536 in
set_option maxHeartbeats 4000000 in
theorem mt148 (Z : State) (a0 : Array Value) (hw : ∀ d ∈ tables_1, d.before a0 Z = true) (h0 : Heap) (zc : Int32) (r99 : Value) (SS : Sts Z h0 zc r99) (z0 z1 z2 : Int32) (h_0 : 0 ≤ z0.toInt ∧ z0.toInt ≤ 65535) (h_1 : 0 ≤ z1.toInt ∧ z1.toInt ≤ 65535) (h_2 : 0 ≤ z2.toInt ∧ z2.toInt ≤ 65535) (a16 : Addr) (a13 : Addr) :
    Met B13_148 Z a0 h0 #[(.ref a13)] (mem17 a16 z0 z1 z2 a13) (Ret (some (.int (0 : Int32))) (mem17 a16 z0 z1 z2 a13)) := by
  refine Met.of pn13 (ls := #[.val (.ref a13)]) (fun m => by first | (simp [entryFrame, mkF, argsToLocals, Value.category, B13_148]; done) | rfl) ?_
  show Go B13_148 Z a0 h0 _ 0 0 (mem17 a16 z0 z1 z2 a13) 0 #[.val (.ref a13)] []
  refine go_getS 3 rfl d13_0 (wd hw 40 rfl) SS.1 ?_
  refine go_if 17 6 rfl (by decide) rfl d13_3 rfl (fun (hc3 : zc.toInt = 0) => absurd hc3 (by exact fun q => SS.2.1 (Int32.toInt_inj.mp q))) (fun (hc3 : ¬ (zc.toInt = 0)) => ?_)
  refine go_aloadN 7 rfl d13_6 rfl rfl ?_
  refine go_get 1 1 10 rfl d13_7 rfl rfl rfl (wd hw 25 rfl) ?_
  refine go_if 17 13 rfl (by decide) rfl d13_10 rfl (fun (hc10 : (1 : Int) ≠ 0) => ?_) (fun (hc10 : ¬ ((1 : Int) ≠ 0)) => absurd hc10 (by decide))
  refine go_iconst (0 : Int32) 18 rfl d13_17 rfl ?_
  exact go_ireturn d13_18 rfl (Or.inr (Or.inl rfl)) rfl rfl (by decide) (by decide) ⟨rfl, rfl⟩
def B25_151 : Bdy := (⟨"java/lang/StringUTF16", "length", "([B)I"⟩, jdk_52_method_6_code, 1, (some .int), ({ frames := 0, cells := 0, slots := 0, locals := 0 } : Room))
set_option maxRecDepth 65536 in
set_option maxHeartbeats 4000000 in
theorem mt151 (Z : State) (a0 : Array Value) (hw : ∀ d ∈ tables_1, d.before a0 Z = true) (h0 : Heap) (zc : Int32) (r99 : Value) (SS : Sts Z h0 zc r99) (z0 z1 z2 : Int32) (h_0 : 0 ≤ z0.toInt ∧ z0.toInt ≤ 65535) (h_1 : 0 ≤ z1.toInt ∧ z1.toInt ≤ 65535) (h_2 : 0 ≤ z2.toInt ∧ z2.toInt ≤ 65535) (a16 : Addr) :
    Met B25_151 Z a0 h0 #[(.ref a16)] (mem10 a16 z0 z1 z2) (Ret (some (.int (3 : Int32))) (mem10 a16 z0 z1 z2)) := by
  refine Met.of pn25 (ls := #[.val (.ref a16)]) (fun m => by first | (simp [entryFrame, mkF, argsToLocals, Value.category, B25_151]; done) | rfl) ?_
  show Go B25_151 Z a0 h0 _ 0 0 (mem10 a16 z0 z1 z2) 0 #[.val (.ref a16)] []
  refine go_aloadN 1 rfl d25_0 rfl rfl ?_
  refine go_alen 0 2 rfl d25_1 rfl rfl ?_
  show Go B25_151 Z a0 h0 _ 0 0 (mem10 a16 z0 z1 z2) 2 #[.val (.ref a16)] [(.int (6 : Int32))]
  refine go_iconst (1 : Int32) 3 rfl d25_2 rfl ?_
  refine go_ishr 4 rfl d25_3 rfl ?_
  show Go B25_151 Z a0 h0 _ 0 0 (mem10 a16 z0 z1 z2) 4 #[.val (.ref a16)] [(.int (3 : Int32))]
  exact go_ireturn d25_4 rfl (Or.inl rfl) rfl rfl (by decide) (by decide) ⟨rfl, rfl⟩
def B16_153 : Bdy := (⟨"jdk/internal/util/Preconditions", "checkIndex", "(IILjava/util/function/BiFunction;)I"⟩, jdk_41_method_11_code, 3, (some .int), ({ frames := 0, cells := 0, slots := 0, locals := 0 } : Room))
set_option maxRecDepth 65536 in
set_option maxHeartbeats 4000000 in
theorem mt153 (Z : State) (a0 : Array Value) (hw : ∀ d ∈ tables_1, d.before a0 Z = true) (h0 : Heap) (zc : Int32) (r99 : Value) (SS : Sts Z h0 zc r99) (z0 z1 z2 : Int32) (h_0 : 0 ≤ z0.toInt ∧ z0.toInt ≤ 65535) (h_1 : 0 ≤ z1.toInt ∧ z1.toInt ≤ 65535) (h_2 : 0 ≤ z2.toInt ∧ z2.toInt ≤ 65535) :
    Met B16_153 Z a0 h0 #[(.int (0 : Int32)), (.int (3 : Int32)), r99] [] (Ret (some (.int (0 : Int32))) []) := by
  refine Met.of pn16 (ls := #[.val (.int (0 : Int32)), .val (.int (3 : Int32)), .val r99]) (fun m => by rcases ref_cases SS.2.2.2.1 with rfl | ⟨_, rfl⟩ <;> first | (simp [entryFrame, mkF, argsToLocals, Value.category, B16_153]; done) | rfl) ?_
  show Go B16_153 Z a0 h0 _ 0 0 [] 0 #[.val (.int (0 : Int32)), .val (.int (3 : Int32)), .val r99] []
  refine go_iloadN 1 rfl d16_0 rfl ?_
  refine go_if 9 4 rfl (by decide) rfl d16_1 rfl (fun (hc1 : (0 : Int) < 0) => absurd hc1 (by decide)) (fun (hc1 : ¬ ((0 : Int) < 0)) => ?_)
  refine go_iloadN 5 rfl d16_4 rfl ?_
  refine go_iloadN 6 rfl d16_5 rfl ?_
  refine go_icmp 16 9 rfl (by decide) rfl d16_6 rfl (fun (hc6 : (0 : Int) < (3 : Int)) => ?_) (fun (hc6 : ¬ ((0 : Int) < (3 : Int))) => absurd hc6 (by decide))
  refine go_iloadN 17 rfl d16_16 rfl ?_
  exact go_ireturn d16_17 rfl (Or.inl rfl) rfl rfl (by decide) (by decide) ⟨rfl, rfl⟩
def B15_152 : Bdy := (⟨"java/lang/String", "checkIndex", "(II)V"⟩, jdk_42_method_155_code, 2, none, ({ frames := 1, cells := 0, slots := 0, locals := 14 } : Room))
set_option maxRecDepth 65536 in
set_option maxHeartbeats 4000000 in
theorem mt152 (Z : State) (a0 : Array Value) (hw : ∀ d ∈ tables_1, d.before a0 Z = true) (h0 : Heap) (zc : Int32) (r99 : Value) (SS : Sts Z h0 zc r99) (z0 z1 z2 : Int32) (h_0 : 0 ≤ z0.toInt ∧ z0.toInt ≤ 65535) (h_1 : 0 ≤ z1.toInt ∧ z1.toInt ≤ 65535) (h_2 : 0 ≤ z2.toInt ∧ z2.toInt ≤ 65535) :
    Met B15_152 Z a0 h0 #[(.int (0 : Int32)), (.int (3 : Int32))] [] (Ret none []) := by
  refine Met.of pn15 (ls := #[.val (.int (0 : Int32)), .val (.int (3 : Int32))]) (fun m => by first | (simp [entryFrame, mkF, argsToLocals, Value.category, B15_152]; done) | rfl) ?_
  show Go B15_152 Z a0 h0 _ 0 0 [] 0 #[.val (.int (0 : Int32)), .val (.int (3 : Int32))] []
  refine go_iloadN 1 rfl d15_0 rfl ?_
  refine go_iloadN 2 rfl d15_1 rfl ?_
  refine go_getS 5 rfl d15_2 (wd hw 71 rfl) SS.2.2.1 ?_
  refine go_callS 8 rfl d15_5 (wd hw 73 rfl) (wd hw 74 rfl) (wd hw 72 rfl) (wd hw 75 rfl) (by decide) (mt153 Z a0 hw h0 zc r99 SS z0 z1 z2 h_0 h_1 h_2) (argsL := [(.int (0 : Int32)), (.int (3 : Int32)), r99]) (rest := []) rfl (ps := [.int, .int, (.object "java/util/function/BiFunction")]) (by decide +kernel) rfl rfl 0 rfl (by decide) (by decide) (by decide) (by decide) ?_
  rintro _ _ ⟨rfl, rfl⟩
  show Go B15_152 Z a0 h0 _ 0 0 [] 8 #[.val (.int (0 : Int32)), .val (.int (3 : Int32))] [(.int (0 : Int32))]
  refine go_pop 9 rfl d15_8 rfl rfl ?_
  exact go_return d15_9 rfl rfl (by decide) (by decide) ⟨rfl, rfl⟩
def B24_150 : Bdy := (⟨"java/lang/StringUTF16", "checkIndex", "(I[B)V"⟩, jdk_52_method_91_code, 2, none, ({ frames := 2, cells := 0, slots := 0, locals := 27 } : Room))
set_option maxRecDepth 65536 in
set_option maxHeartbeats 4000000 in
theorem mt150 (Z : State) (a0 : Array Value) (hw : ∀ d ∈ tables_1, d.before a0 Z = true) (h0 : Heap) (zc : Int32) (r99 : Value) (SS : Sts Z h0 zc r99) (z0 z1 z2 : Int32) (h_0 : 0 ≤ z0.toInt ∧ z0.toInt ≤ 65535) (h_1 : 0 ≤ z1.toInt ∧ z1.toInt ≤ 65535) (h_2 : 0 ≤ z2.toInt ∧ z2.toInt ≤ 65535) (a16 : Addr) :
    Met B24_150 Z a0 h0 #[(.int (0 : Int32)), (.ref a16)] (mem10 a16 z0 z1 z2) (Ret none (mem10 a16 z0 z1 z2)) := by
  refine Met.of pn24 (ls := #[.val (.int (0 : Int32)), .val (.ref a16)]) (fun m => by first | (simp [entryFrame, mkF, argsToLocals, Value.category, B24_150]; done) | rfl) ?_
  show Go B24_150 Z a0 h0 _ 0 0 (mem10 a16 z0 z1 z2) 0 #[.val (.int (0 : Int32)), .val (.ref a16)] []
  refine go_iloadN 1 rfl d24_0 rfl ?_
  refine go_aloadN 2 rfl d24_1 rfl rfl ?_
  refine go_callS 5 rfl d24_2 (wd hw 105 rfl) (wd hw 106 rfl) (wd hw 43 rfl) (wd hw 107 rfl) (by decide) (mt151 Z a0 hw h0 zc r99 SS z0 z1 z2 h_0 h_1 h_2 a16) (argsL := [(.ref a16)]) (rest := [(.int (0 : Int32))]) rfl (ps := [(.array .byte)]) (by decide +kernel) rfl rfl 1 rfl (by decide) (by decide) (by decide) (by decide) ?_
  rintro _ _ ⟨rfl, rfl⟩
  show Go B24_150 Z a0 h0 _ 0 0 (mem10 a16 z0 z1 z2) 5 #[.val (.int (0 : Int32)), .val (.ref a16)] [(.int (3 : Int32)), (.int (0 : Int32))]
  refine go_callS 8 rfl d24_5 (wd hw 108 rfl) (wd hw 69 rfl) (wd hw 6 rfl) (wd hw 70 rfl) (by decide) (Met.frame (mem10 a16 z0 z1 z2) (mt152 Z a0 hw h0 zc r99 SS z0 z1 z2 h_0 h_1 h_2)) (argsL := [(.int (0 : Int32)), (.int (3 : Int32))]) (rest := []) rfl (ps := [.int, .int]) (by decide +kernel) rfl rfl 0 rfl (by decide) (by decide) (by decide) (by decide) ?_
  rintro _ _ ⟨_, ⟨rfl, rfl⟩, rfl⟩
  show Go B24_150 Z a0 h0 _ 0 0 (mem10 a16 z0 z1 z2) 8 #[.val (.int (0 : Int32)), .val (.ref a16)] []
  exact go_return d24_8 rfl rfl (by decide) (by decide) ⟨rfl, rfl⟩
def B22_154 : Bdy := (⟨"java/lang/StringUTF16", "getChar", "([BI)C"⟩, jdk_52_method_5_code, 2, (some .char), ({ frames := 0, cells := 0, slots := 0, locals := 0 } : Room))
set_option maxRecDepth 65536 in
set_option maxHeartbeats 4000000 in
theorem mt154 (Z : State) (a0 : Array Value) (hw : ∀ d ∈ tables_1, d.before a0 Z = true) (h0 : Heap) (zc : Int32) (r99 : Value) (SS : Sts Z h0 zc r99) (z0 z1 z2 : Int32) (h_0 : 0 ≤ z0.toInt ∧ z0.toInt ≤ 65535) (h_1 : 0 ≤ z1.toInt ∧ z1.toInt ≤ 65535) (h_2 : 0 ≤ z2.toInt ∧ z2.toInt ≤ 65535) (a16 : Addr) :
    Met B22_154 Z a0 h0 #[(.ref a16), (.int (0 : Int32))] (mem10 a16 z0 z1 z2) (Ret (some (.int z0)) (mem10 a16 z0 z1 z2)) := by
  refine Met.of pn22 (ls := #[.val (.ref a16), .val (.int (0 : Int32))]) (fun m => by first | (simp [entryFrame, mkF, argsToLocals, Value.category, B22_154]; done) | rfl) ?_
  show Go B22_154 Z a0 h0 _ 0 0 (mem10 a16 z0 z1 z2) 0 #[.val (.ref a16), .val (.int (0 : Int32))] []
  refine go_getS 3 rfl d22_0 (wd hw 93 rfl) SS.2.2.2.2.1 ?_
  refine go_if 28 6 rfl (by decide) rfl d22_3 rfl (fun (hc3 : (1 : Int) ≠ 0) => ?_) (fun (hc3 : ¬ ((1 : Int) ≠ 0)) => absurd hc3 (by decide))
  refine go_iloadN 29 rfl d22_28 rfl ?_
  refine go_iconst (1 : Int32) 30 rfl d22_29 rfl ?_
  refine go_ishl 31 rfl d22_30 rfl ?_
  show Go B22_154 Z a0 h0 _ 0 0 (mem10 a16 z0 z1 z2) 31 #[.val (.ref a16), .val (.int (0 : Int32))] [(.int (0 : Int32))]
  refine go_istoreN #[.val (.ref a16), .val (.int (0 : Int32))] 32 rfl d22_31 rfl rfl ?_
  refine go_aloadN 33 rfl d22_32 rfl rfl ?_
  refine go_iloadN 34 rfl d22_33 rfl ?_
  refine go_iinc #[.val (.ref a16), .val (.int (1 : Int32))] 37 rfl d22_34 rfl rfl ?_
  refine go_baload 38 rfl d22_37 rfl (Mo.el (i := 0) rfl (by decide) rfl) ?_
  refine go_sipush (255 : Int32) 41 rfl d22_38 rfl ?_
  refine go_iand 42 rfl d22_41 rfl ?_
  refine go_getS 45 rfl d22_42 (wd hw 94 rfl) SS.2.2.2.2.2.1 ?_
  refine go_ishl 46 rfl d22_45 rfl ?_
  refine go_aloadN 47 rfl d22_46 rfl rfl ?_
  refine go_iloadN 48 rfl d22_47 rfl ?_
  refine go_baload 49 rfl d22_48 rfl (Mo.el (i := 0) rfl (by decide) rfl) ?_
  refine go_sipush (255 : Int32) 52 rfl d22_49 rfl ?_
  refine go_iand 53 rfl d22_52 rfl ?_
  refine go_getS 56 rfl d22_53 (wd hw 95 rfl) SS.2.2.2.2.2.2 ?_
  refine go_ishl 57 rfl d22_56 rfl ?_
  refine go_ior 58 rfl d22_57 rfl ?_
  refine go_i2c 59 rfl d22_58 rfl ?_
  exact go_ireturn d22_59 rfl (Or.inr (Or.inr (Or.inr (Or.inl rfl)))) rfl (congrArg Value.int (nar_c _)) (by decide) (by decide) (by rw [utf z0 h_0]; exact ⟨rfl, rfl⟩)
def B23_149 : Bdy := (⟨"java/lang/StringUTF16", "charAt", "([BI)C"⟩, jdk_52_method_83_code, 2, (some .char), ({ frames := 3, cells := 0, slots := 0, locals := 40 } : Room))
set_option maxRecDepth 65536 in
set_option maxHeartbeats 4000000 in
theorem mt149 (Z : State) (a0 : Array Value) (hw : ∀ d ∈ tables_1, d.before a0 Z = true) (h0 : Heap) (zc : Int32) (r99 : Value) (SS : Sts Z h0 zc r99) (z0 z1 z2 : Int32) (h_0 : 0 ≤ z0.toInt ∧ z0.toInt ≤ 65535) (h_1 : 0 ≤ z1.toInt ∧ z1.toInt ≤ 65535) (h_2 : 0 ≤ z2.toInt ∧ z2.toInt ≤ 65535) (a16 : Addr) :
    Met B23_149 Z a0 h0 #[(.ref a16), (.int (0 : Int32))] (mem10 a16 z0 z1 z2) (Ret (some (.int z0)) (mem10 a16 z0 z1 z2)) := by
  refine Met.of pn23 (ls := #[.val (.ref a16), .val (.int (0 : Int32))]) (fun m => by first | (simp [entryFrame, mkF, argsToLocals, Value.category, B23_149]; done) | rfl) ?_
  show Go B23_149 Z a0 h0 _ 0 0 (mem10 a16 z0 z1 z2) 0 #[.val (.ref a16), .val (.int (0 : Int32))] []
  refine go_iloadN 1 rfl d23_0 rfl ?_
  refine go_aloadN 2 rfl d23_1 rfl rfl ?_
  refine go_callS 5 rfl d23_2 (wd hw 102 rfl) (wd hw 103 rfl) (wd hw 43 rfl) (wd hw 104 rfl) (by decide) (mt150 Z a0 hw h0 zc r99 SS z0 z1 z2 h_0 h_1 h_2 a16) (argsL := [(.int (0 : Int32)), (.ref a16)]) (rest := []) rfl (ps := [.int, (.array .byte)]) (by decide +kernel) rfl rfl 0 rfl (by decide) (by decide) (by decide) (by decide) ?_
  rintro _ _ ⟨rfl, rfl⟩
  show Go B23_149 Z a0 h0 _ 0 0 (mem10 a16 z0 z1 z2) 5 #[.val (.ref a16), .val (.int (0 : Int32))] []
  refine go_aloadN 6 rfl d23_5 rfl rfl ?_
  refine go_iloadN 7 rfl d23_6 rfl ?_
  refine go_callS 10 rfl d23_7 (wd hw 96 rfl) (wd hw 97 rfl) (wd hw 43 rfl) (wd hw 98 rfl) (by decide) (mt154 Z a0 hw h0 zc r99 SS z0 z1 z2 h_0 h_1 h_2 a16) (argsL := [(.ref a16), (.int (0 : Int32))]) (rest := []) rfl (ps := [(.array .byte), .int]) (by decide +kernel) rfl rfl 0 rfl (by decide) (by decide) (by decide) (by decide) ?_
  rintro _ _ ⟨rfl, rfl⟩
  show Go B23_149 Z a0 h0 _ 0 0 (mem10 a16 z0 z1 z2) 10 #[.val (.ref a16), .val (.int (0 : Int32))] [(.int z0)]
  exact go_ireturn d23_10 rfl (Or.inr (Or.inr (Or.inr (Or.inl rfl)))) rfl (congrArg Value.int (nar_z z0 h_0)) (by decide) (by decide) ⟨rfl, rfl⟩
def B12_147 : Bdy := (⟨"java/lang/String", "charAt", "(I)C"⟩, jdk_42_method_56_code, 2, (some .char), ({ frames := 4, cells := 0, slots := 0, locals := 53 } : Room))
set_option maxRecDepth 65536 in
set_option maxHeartbeats 4000000 in
theorem mt147 (Z : State) (a0 : Array Value) (hw : ∀ d ∈ tables_1, d.before a0 Z = true) (h0 : Heap) (zc : Int32) (r99 : Value) (SS : Sts Z h0 zc r99) (z0 z1 z2 : Int32) (h_0 : 0 ≤ z0.toInt ∧ z0.toInt ≤ 65535) (h_1 : 0 ≤ z1.toInt ∧ z1.toInt ≤ 65535) (h_2 : 0 ≤ z2.toInt ∧ z2.toInt ≤ 65535) (a16 : Addr) (a13 : Addr) :
    Met B12_147 Z a0 h0 #[(.ref a13), (.int (0 : Int32))] (mem17 a16 z0 z1 z2 a13) (Ret (some (.int z0)) (mem17 a16 z0 z1 z2 a13)) := by
  refine Met.of pn12 (ls := #[.val (.ref a13), .val (.int (0 : Int32))]) (fun m => by first | (simp [entryFrame, mkF, argsToLocals, Value.category, B12_147]; done) | rfl) ?_
  show Go B12_147 Z a0 h0 _ 0 0 (mem17 a16 z0 z1 z2 a13) 0 #[.val (.ref a13), .val (.int (0 : Int32))] []
  refine go_aloadN 1 rfl d12_0 rfl rfl ?_
  refine go_callV 4 rfl d12_1 (wd hw 59 rfl) (wd hw 60 rfl) (wd hw 62 rfl) (wd hw 61 rfl) (wd hw 6 rfl) (wd hw 63 rfl) (by decide) (Mo.exa (i := 1) rfl) (mt148 Z a0 hw h0 zc r99 SS z0 z1 z2 h_0 h_1 h_2 a16 a13) (argsL := []) (rest := []) rfl (ps := []) (by decide +kernel) rfl rfl 0 rfl (by decide) (by decide) (by decide) (by decide) ?_
  rintro _ _ ⟨rfl, rfl⟩
  show Go B12_147 Z a0 h0 _ 0 0 (mem17 a16 z0 z1 z2 a13) 4 #[.val (.ref a13), .val (.int (0 : Int32))] [(.int (0 : Int32))]
  refine go_if 16 7 rfl (by decide) rfl d12_4 rfl (fun (hc4 : (0 : Int) = 0) => ?_) (fun (hc4 : ¬ ((0 : Int) = 0)) => absurd hc4 (by decide))
  refine go_aloadN 17 rfl d12_16 rfl rfl ?_
  refine go_get 1 0 20 rfl d12_17 rfl rfl rfl (wd hw 24 rfl) ?_
  refine go_iloadN 21 rfl d12_20 rfl ?_
  refine go_callS 24 rfl d12_21 (wd hw 99 rfl) (wd hw 100 rfl) (wd hw 43 rfl) (wd hw 101 rfl) (by decide) (Met.frame [ob a13 "java/lang/String" [("java/lang/String", "value", "[B", (.ref a16)), ("java/lang/String", "coder", "B", (.int (1 : Int32)))]] (mt149 Z a0 hw h0 zc r99 SS z0 z1 z2 h_0 h_1 h_2 a16)) (argsL := [(.ref a16), (.int (0 : Int32))]) (rest := []) rfl (ps := [(.array .byte), .int]) (by decide +kernel) rfl rfl 0 rfl (by decide) (by decide) (by decide) (by decide) ?_
  rintro _ _ ⟨_, ⟨rfl, rfl⟩, rfl⟩
  show Go B12_147 Z a0 h0 _ 0 0 (mem17 a16 z0 z1 z2 a13) 24 #[.val (.ref a13), .val (.int (0 : Int32))] [(.int z0)]
  exact go_ireturn d12_24 rfl (Or.inr (Or.inr (Or.inr (Or.inl rfl)))) rfl (congrArg Value.int (nar_z z0 h_0)) (by decide) (by decide) ⟨rfl, rfl⟩
def B16_160 : Bdy := (⟨"jdk/internal/util/Preconditions", "checkIndex", "(IILjava/util/function/BiFunction;)I"⟩, jdk_41_method_11_code, 3, (some .int), ({ frames := 0, cells := 0, slots := 0, locals := 0 } : Room))
set_option maxRecDepth 65536 in
set_option maxHeartbeats 4000000 in
theorem mt160 (Z : State) (a0 : Array Value) (hw : ∀ d ∈ tables_1, d.before a0 Z = true) (h0 : Heap) (zc : Int32) (r99 : Value) (SS : Sts Z h0 zc r99) (z0 z1 z2 : Int32) (h_0 : 0 ≤ z0.toInt ∧ z0.toInt ≤ 65535) (h_1 : 0 ≤ z1.toInt ∧ z1.toInt ≤ 65535) (h_2 : 0 ≤ z2.toInt ∧ z2.toInt ≤ 65535) :
    Met B16_160 Z a0 h0 #[(.int (1 : Int32)), (.int (3 : Int32)), r99] [] (Ret (some (.int (1 : Int32))) []) := by
  refine Met.of pn16 (ls := #[.val (.int (1 : Int32)), .val (.int (3 : Int32)), .val r99]) (fun m => by rcases ref_cases SS.2.2.2.1 with rfl | ⟨_, rfl⟩ <;> first | (simp [entryFrame, mkF, argsToLocals, Value.category, B16_160]; done) | rfl) ?_
  show Go B16_160 Z a0 h0 _ 0 0 [] 0 #[.val (.int (1 : Int32)), .val (.int (3 : Int32)), .val r99] []
  refine go_iloadN 1 rfl d16_0 rfl ?_
  refine go_if 9 4 rfl (by decide) rfl d16_1 rfl (fun (hc1 : (1 : Int) < 0) => absurd hc1 (by decide)) (fun (hc1 : ¬ ((1 : Int) < 0)) => ?_)
  refine go_iloadN 5 rfl d16_4 rfl ?_
  refine go_iloadN 6 rfl d16_5 rfl ?_
  refine go_icmp 16 9 rfl (by decide) rfl d16_6 rfl (fun (hc6 : (1 : Int) < (3 : Int)) => ?_) (fun (hc6 : ¬ ((1 : Int) < (3 : Int))) => absurd hc6 (by decide))
  refine go_iloadN 17 rfl d16_16 rfl ?_
  exact go_ireturn d16_17 rfl (Or.inl rfl) rfl rfl (by decide) (by decide) ⟨rfl, rfl⟩
def B15_159 : Bdy := (⟨"java/lang/String", "checkIndex", "(II)V"⟩, jdk_42_method_155_code, 2, none, ({ frames := 1, cells := 0, slots := 0, locals := 14 } : Room))
set_option maxRecDepth 65536 in
set_option maxHeartbeats 4000000 in
theorem mt159 (Z : State) (a0 : Array Value) (hw : ∀ d ∈ tables_1, d.before a0 Z = true) (h0 : Heap) (zc : Int32) (r99 : Value) (SS : Sts Z h0 zc r99) (z0 z1 z2 : Int32) (h_0 : 0 ≤ z0.toInt ∧ z0.toInt ≤ 65535) (h_1 : 0 ≤ z1.toInt ∧ z1.toInt ≤ 65535) (h_2 : 0 ≤ z2.toInt ∧ z2.toInt ≤ 65535) :
    Met B15_159 Z a0 h0 #[(.int (1 : Int32)), (.int (3 : Int32))] [] (Ret none []) := by
  refine Met.of pn15 (ls := #[.val (.int (1 : Int32)), .val (.int (3 : Int32))]) (fun m => by first | (simp [entryFrame, mkF, argsToLocals, Value.category, B15_159]; done) | rfl) ?_
  show Go B15_159 Z a0 h0 _ 0 0 [] 0 #[.val (.int (1 : Int32)), .val (.int (3 : Int32))] []
  refine go_iloadN 1 rfl d15_0 rfl ?_
  refine go_iloadN 2 rfl d15_1 rfl ?_
  refine go_getS 5 rfl d15_2 (wd hw 71 rfl) SS.2.2.1 ?_
  refine go_callS 8 rfl d15_5 (wd hw 73 rfl) (wd hw 74 rfl) (wd hw 72 rfl) (wd hw 75 rfl) (by decide) (mt160 Z a0 hw h0 zc r99 SS z0 z1 z2 h_0 h_1 h_2) (argsL := [(.int (1 : Int32)), (.int (3 : Int32)), r99]) (rest := []) rfl (ps := [.int, .int, (.object "java/util/function/BiFunction")]) (by decide +kernel) rfl rfl 0 rfl (by decide) (by decide) (by decide) (by decide) ?_
  rintro _ _ ⟨rfl, rfl⟩
  show Go B15_159 Z a0 h0 _ 0 0 [] 8 #[.val (.int (1 : Int32)), .val (.int (3 : Int32))] [(.int (1 : Int32))]
  refine go_pop 9 rfl d15_8 rfl rfl ?_
  exact go_return d15_9 rfl rfl (by decide) (by decide) ⟨rfl, rfl⟩
def B24_158 : Bdy := (⟨"java/lang/StringUTF16", "checkIndex", "(I[B)V"⟩, jdk_52_method_91_code, 2, none, ({ frames := 2, cells := 0, slots := 0, locals := 27 } : Room))
set_option maxRecDepth 65536 in
set_option maxHeartbeats 4000000 in
theorem mt158 (Z : State) (a0 : Array Value) (hw : ∀ d ∈ tables_1, d.before a0 Z = true) (h0 : Heap) (zc : Int32) (r99 : Value) (SS : Sts Z h0 zc r99) (z0 z1 z2 : Int32) (h_0 : 0 ≤ z0.toInt ∧ z0.toInt ≤ 65535) (h_1 : 0 ≤ z1.toInt ∧ z1.toInt ≤ 65535) (h_2 : 0 ≤ z2.toInt ∧ z2.toInt ≤ 65535) (a16 : Addr) :
    Met B24_158 Z a0 h0 #[(.int (1 : Int32)), (.ref a16)] (mem10 a16 z0 z1 z2) (Ret none (mem10 a16 z0 z1 z2)) := by
  refine Met.of pn24 (ls := #[.val (.int (1 : Int32)), .val (.ref a16)]) (fun m => by first | (simp [entryFrame, mkF, argsToLocals, Value.category, B24_158]; done) | rfl) ?_
  show Go B24_158 Z a0 h0 _ 0 0 (mem10 a16 z0 z1 z2) 0 #[.val (.int (1 : Int32)), .val (.ref a16)] []
  refine go_iloadN 1 rfl d24_0 rfl ?_
  refine go_aloadN 2 rfl d24_1 rfl rfl ?_
  refine go_callS 5 rfl d24_2 (wd hw 105 rfl) (wd hw 106 rfl) (wd hw 43 rfl) (wd hw 107 rfl) (by decide) (mt151 Z a0 hw h0 zc r99 SS z0 z1 z2 h_0 h_1 h_2 a16) (argsL := [(.ref a16)]) (rest := [(.int (1 : Int32))]) rfl (ps := [(.array .byte)]) (by decide +kernel) rfl rfl 1 rfl (by decide) (by decide) (by decide) (by decide) ?_
  rintro _ _ ⟨rfl, rfl⟩
  show Go B24_158 Z a0 h0 _ 0 0 (mem10 a16 z0 z1 z2) 5 #[.val (.int (1 : Int32)), .val (.ref a16)] [(.int (3 : Int32)), (.int (1 : Int32))]
  refine go_callS 8 rfl d24_5 (wd hw 108 rfl) (wd hw 69 rfl) (wd hw 6 rfl) (wd hw 70 rfl) (by decide) (Met.frame (mem10 a16 z0 z1 z2) (mt159 Z a0 hw h0 zc r99 SS z0 z1 z2 h_0 h_1 h_2)) (argsL := [(.int (1 : Int32)), (.int (3 : Int32))]) (rest := []) rfl (ps := [.int, .int]) (by decide +kernel) rfl rfl 0 rfl (by decide) (by decide) (by decide) (by decide) ?_
  rintro _ _ ⟨_, ⟨rfl, rfl⟩, rfl⟩
  show Go B24_158 Z a0 h0 _ 0 0 (mem10 a16 z0 z1 z2) 8 #[.val (.int (1 : Int32)), .val (.ref a16)] []
  exact go_return d24_8 rfl rfl (by decide) (by decide) ⟨rfl, rfl⟩
def B22_161 : Bdy := (⟨"java/lang/StringUTF16", "getChar", "([BI)C"⟩, jdk_52_method_5_code, 2, (some .char), ({ frames := 0, cells := 0, slots := 0, locals := 0 } : Room))
set_option maxRecDepth 65536 in
set_option maxHeartbeats 4000000 in
theorem mt161 (Z : State) (a0 : Array Value) (hw : ∀ d ∈ tables_1, d.before a0 Z = true) (h0 : Heap) (zc : Int32) (r99 : Value) (SS : Sts Z h0 zc r99) (z0 z1 z2 : Int32) (h_0 : 0 ≤ z0.toInt ∧ z0.toInt ≤ 65535) (h_1 : 0 ≤ z1.toInt ∧ z1.toInt ≤ 65535) (h_2 : 0 ≤ z2.toInt ∧ z2.toInt ≤ 65535) (a16 : Addr) :
    Met B22_161 Z a0 h0 #[(.ref a16), (.int (1 : Int32))] (mem10 a16 z0 z1 z2) (Ret (some (.int z1)) (mem10 a16 z0 z1 z2)) := by
  refine Met.of pn22 (ls := #[.val (.ref a16), .val (.int (1 : Int32))]) (fun m => by first | (simp [entryFrame, mkF, argsToLocals, Value.category, B22_161]; done) | rfl) ?_
  show Go B22_161 Z a0 h0 _ 0 0 (mem10 a16 z0 z1 z2) 0 #[.val (.ref a16), .val (.int (1 : Int32))] []
  refine go_getS 3 rfl d22_0 (wd hw 93 rfl) SS.2.2.2.2.1 ?_
  refine go_if 28 6 rfl (by decide) rfl d22_3 rfl (fun (hc3 : (1 : Int) ≠ 0) => ?_) (fun (hc3 : ¬ ((1 : Int) ≠ 0)) => absurd hc3 (by decide))
  refine go_iloadN 29 rfl d22_28 rfl ?_
  refine go_iconst (1 : Int32) 30 rfl d22_29 rfl ?_
  refine go_ishl 31 rfl d22_30 rfl ?_
  show Go B22_161 Z a0 h0 _ 0 0 (mem10 a16 z0 z1 z2) 31 #[.val (.ref a16), .val (.int (1 : Int32))] [(.int (2 : Int32))]
  refine go_istoreN #[.val (.ref a16), .val (.int (2 : Int32))] 32 rfl d22_31 rfl rfl ?_
  refine go_aloadN 33 rfl d22_32 rfl rfl ?_
  refine go_iloadN 34 rfl d22_33 rfl ?_
  refine go_iinc #[.val (.ref a16), .val (.int (3 : Int32))] 37 rfl d22_34 rfl rfl ?_
  refine go_baload 38 rfl d22_37 rfl (Mo.el (i := 0) rfl (by decide) rfl) ?_
  refine go_sipush (255 : Int32) 41 rfl d22_38 rfl ?_
  refine go_iand 42 rfl d22_41 rfl ?_
  refine go_getS 45 rfl d22_42 (wd hw 94 rfl) SS.2.2.2.2.2.1 ?_
  refine go_ishl 46 rfl d22_45 rfl ?_
  refine go_aloadN 47 rfl d22_46 rfl rfl ?_
  refine go_iloadN 48 rfl d22_47 rfl ?_
  refine go_baload 49 rfl d22_48 rfl (Mo.el (i := 0) rfl (by decide) rfl) ?_
  refine go_sipush (255 : Int32) 52 rfl d22_49 rfl ?_
  refine go_iand 53 rfl d22_52 rfl ?_
  refine go_getS 56 rfl d22_53 (wd hw 95 rfl) SS.2.2.2.2.2.2 ?_
  refine go_ishl 57 rfl d22_56 rfl ?_
  refine go_ior 58 rfl d22_57 rfl ?_
  refine go_i2c 59 rfl d22_58 rfl ?_
  exact go_ireturn d22_59 rfl (Or.inr (Or.inr (Or.inr (Or.inl rfl)))) rfl (congrArg Value.int (nar_c _)) (by decide) (by decide) (by rw [utf z1 h_1]; exact ⟨rfl, rfl⟩)
def B23_157 : Bdy := (⟨"java/lang/StringUTF16", "charAt", "([BI)C"⟩, jdk_52_method_83_code, 2, (some .char), ({ frames := 3, cells := 0, slots := 0, locals := 40 } : Room))
set_option maxRecDepth 65536 in
set_option maxHeartbeats 4000000 in
theorem mt157 (Z : State) (a0 : Array Value) (hw : ∀ d ∈ tables_1, d.before a0 Z = true) (h0 : Heap) (zc : Int32) (r99 : Value) (SS : Sts Z h0 zc r99) (z0 z1 z2 : Int32) (h_0 : 0 ≤ z0.toInt ∧ z0.toInt ≤ 65535) (h_1 : 0 ≤ z1.toInt ∧ z1.toInt ≤ 65535) (h_2 : 0 ≤ z2.toInt ∧ z2.toInt ≤ 65535) (a16 : Addr) :
    Met B23_157 Z a0 h0 #[(.ref a16), (.int (1 : Int32))] (mem10 a16 z0 z1 z2) (Ret (some (.int z1)) (mem10 a16 z0 z1 z2)) := by
  refine Met.of pn23 (ls := #[.val (.ref a16), .val (.int (1 : Int32))]) (fun m => by first | (simp [entryFrame, mkF, argsToLocals, Value.category, B23_157]; done) | rfl) ?_
  show Go B23_157 Z a0 h0 _ 0 0 (mem10 a16 z0 z1 z2) 0 #[.val (.ref a16), .val (.int (1 : Int32))] []
  refine go_iloadN 1 rfl d23_0 rfl ?_
  refine go_aloadN 2 rfl d23_1 rfl rfl ?_
  refine go_callS 5 rfl d23_2 (wd hw 102 rfl) (wd hw 103 rfl) (wd hw 43 rfl) (wd hw 104 rfl) (by decide) (mt158 Z a0 hw h0 zc r99 SS z0 z1 z2 h_0 h_1 h_2 a16) (argsL := [(.int (1 : Int32)), (.ref a16)]) (rest := []) rfl (ps := [.int, (.array .byte)]) (by decide +kernel) rfl rfl 0 rfl (by decide) (by decide) (by decide) (by decide) ?_
  rintro _ _ ⟨rfl, rfl⟩
  show Go B23_157 Z a0 h0 _ 0 0 (mem10 a16 z0 z1 z2) 5 #[.val (.ref a16), .val (.int (1 : Int32))] []
  refine go_aloadN 6 rfl d23_5 rfl rfl ?_
  refine go_iloadN 7 rfl d23_6 rfl ?_
  refine go_callS 10 rfl d23_7 (wd hw 96 rfl) (wd hw 97 rfl) (wd hw 43 rfl) (wd hw 98 rfl) (by decide) (mt161 Z a0 hw h0 zc r99 SS z0 z1 z2 h_0 h_1 h_2 a16) (argsL := [(.ref a16), (.int (1 : Int32))]) (rest := []) rfl (ps := [(.array .byte), .int]) (by decide +kernel) rfl rfl 0 rfl (by decide) (by decide) (by decide) (by decide) ?_
  rintro _ _ ⟨rfl, rfl⟩
  show Go B23_157 Z a0 h0 _ 0 0 (mem10 a16 z0 z1 z2) 10 #[.val (.ref a16), .val (.int (1 : Int32))] [(.int z1)]
  exact go_ireturn d23_10 rfl (Or.inr (Or.inr (Or.inr (Or.inl rfl)))) rfl (congrArg Value.int (nar_z z1 h_1)) (by decide) (by decide) ⟨rfl, rfl⟩
def B12_156 : Bdy := (⟨"java/lang/String", "charAt", "(I)C"⟩, jdk_42_method_56_code, 2, (some .char), ({ frames := 4, cells := 0, slots := 0, locals := 53 } : Room))
set_option maxRecDepth 65536 in
set_option maxHeartbeats 4000000 in
theorem mt156 (Z : State) (a0 : Array Value) (hw : ∀ d ∈ tables_1, d.before a0 Z = true) (h0 : Heap) (zc : Int32) (r99 : Value) (SS : Sts Z h0 zc r99) (z0 z1 z2 : Int32) (h_0 : 0 ≤ z0.toInt ∧ z0.toInt ≤ 65535) (h_1 : 0 ≤ z1.toInt ∧ z1.toInt ≤ 65535) (h_2 : 0 ≤ z2.toInt ∧ z2.toInt ≤ 65535) (a16 : Addr) (a13 : Addr) :
    Met B12_156 Z a0 h0 #[(.ref a13), (.int (1 : Int32))] (mem17 a16 z0 z1 z2 a13) (Ret (some (.int z1)) (mem17 a16 z0 z1 z2 a13)) := by
  refine Met.of pn12 (ls := #[.val (.ref a13), .val (.int (1 : Int32))]) (fun m => by first | (simp [entryFrame, mkF, argsToLocals, Value.category, B12_156]; done) | rfl) ?_
  show Go B12_156 Z a0 h0 _ 0 0 (mem17 a16 z0 z1 z2 a13) 0 #[.val (.ref a13), .val (.int (1 : Int32))] []
  refine go_aloadN 1 rfl d12_0 rfl rfl ?_
  refine go_callV 4 rfl d12_1 (wd hw 59 rfl) (wd hw 60 rfl) (wd hw 62 rfl) (wd hw 61 rfl) (wd hw 6 rfl) (wd hw 63 rfl) (by decide) (Mo.exa (i := 1) rfl) (mt148 Z a0 hw h0 zc r99 SS z0 z1 z2 h_0 h_1 h_2 a16 a13) (argsL := []) (rest := []) rfl (ps := []) (by decide +kernel) rfl rfl 0 rfl (by decide) (by decide) (by decide) (by decide) ?_
  rintro _ _ ⟨rfl, rfl⟩
  show Go B12_156 Z a0 h0 _ 0 0 (mem17 a16 z0 z1 z2 a13) 4 #[.val (.ref a13), .val (.int (1 : Int32))] [(.int (0 : Int32))]
  refine go_if 16 7 rfl (by decide) rfl d12_4 rfl (fun (hc4 : (0 : Int) = 0) => ?_) (fun (hc4 : ¬ ((0 : Int) = 0)) => absurd hc4 (by decide))
  refine go_aloadN 17 rfl d12_16 rfl rfl ?_
  refine go_get 1 0 20 rfl d12_17 rfl rfl rfl (wd hw 24 rfl) ?_
  refine go_iloadN 21 rfl d12_20 rfl ?_
  refine go_callS 24 rfl d12_21 (wd hw 99 rfl) (wd hw 100 rfl) (wd hw 43 rfl) (wd hw 101 rfl) (by decide) (Met.frame [ob a13 "java/lang/String" [("java/lang/String", "value", "[B", (.ref a16)), ("java/lang/String", "coder", "B", (.int (1 : Int32)))]] (mt157 Z a0 hw h0 zc r99 SS z0 z1 z2 h_0 h_1 h_2 a16)) (argsL := [(.ref a16), (.int (1 : Int32))]) (rest := []) rfl (ps := [(.array .byte), .int]) (by decide +kernel) rfl rfl 0 rfl (by decide) (by decide) (by decide) (by decide) ?_
  rintro _ _ ⟨_, ⟨rfl, rfl⟩, rfl⟩
  show Go B12_156 Z a0 h0 _ 0 0 (mem17 a16 z0 z1 z2 a13) 24 #[.val (.ref a13), .val (.int (1 : Int32))] [(.int z1)]
  exact go_ireturn d12_24 rfl (Or.inr (Or.inr (Or.inr (Or.inl rfl)))) rfl (congrArg Value.int (nar_z z1 h_1)) (by decide) (by decide) ⟨rfl, rfl⟩
def B16_167 : Bdy := (⟨"jdk/internal/util/Preconditions", "checkIndex", "(IILjava/util/function/BiFunction;)I"⟩, jdk_41_method_11_code, 3, (some .int), ({ frames := 0, cells := 0, slots := 0, locals := 0 } : Room))
set_option maxRecDepth 65536 in
set_option maxHeartbeats 4000000 in
theorem mt167 (Z : State) (a0 : Array Value) (hw : ∀ d ∈ tables_1, d.before a0 Z = true) (h0 : Heap) (zc : Int32) (r99 : Value) (SS : Sts Z h0 zc r99) (z0 z1 z2 : Int32) (h_0 : 0 ≤ z0.toInt ∧ z0.toInt ≤ 65535) (h_1 : 0 ≤ z1.toInt ∧ z1.toInt ≤ 65535) (h_2 : 0 ≤ z2.toInt ∧ z2.toInt ≤ 65535) :
    Met B16_167 Z a0 h0 #[(.int (2 : Int32)), (.int (3 : Int32)), r99] [] (Ret (some (.int (2 : Int32))) []) := by
  refine Met.of pn16 (ls := #[.val (.int (2 : Int32)), .val (.int (3 : Int32)), .val r99]) (fun m => by rcases ref_cases SS.2.2.2.1 with rfl | ⟨_, rfl⟩ <;> first | (simp [entryFrame, mkF, argsToLocals, Value.category, B16_167]; done) | rfl) ?_
  show Go B16_167 Z a0 h0 _ 0 0 [] 0 #[.val (.int (2 : Int32)), .val (.int (3 : Int32)), .val r99] []
  refine go_iloadN 1 rfl d16_0 rfl ?_
  refine go_if 9 4 rfl (by decide) rfl d16_1 rfl (fun (hc1 : (2 : Int) < 0) => absurd hc1 (by decide)) (fun (hc1 : ¬ ((2 : Int) < 0)) => ?_)
  refine go_iloadN 5 rfl d16_4 rfl ?_
  refine go_iloadN 6 rfl d16_5 rfl ?_
  refine go_icmp 16 9 rfl (by decide) rfl d16_6 rfl (fun (hc6 : (2 : Int) < (3 : Int)) => ?_) (fun (hc6 : ¬ ((2 : Int) < (3 : Int))) => absurd hc6 (by decide))
  refine go_iloadN 17 rfl d16_16 rfl ?_
  exact go_ireturn d16_17 rfl (Or.inl rfl) rfl rfl (by decide) (by decide) ⟨rfl, rfl⟩
def B15_166 : Bdy := (⟨"java/lang/String", "checkIndex", "(II)V"⟩, jdk_42_method_155_code, 2, none, ({ frames := 1, cells := 0, slots := 0, locals := 14 } : Room))
set_option maxRecDepth 65536 in
set_option maxHeartbeats 4000000 in
theorem mt166 (Z : State) (a0 : Array Value) (hw : ∀ d ∈ tables_1, d.before a0 Z = true) (h0 : Heap) (zc : Int32) (r99 : Value) (SS : Sts Z h0 zc r99) (z0 z1 z2 : Int32) (h_0 : 0 ≤ z0.toInt ∧ z0.toInt ≤ 65535) (h_1 : 0 ≤ z1.toInt ∧ z1.toInt ≤ 65535) (h_2 : 0 ≤ z2.toInt ∧ z2.toInt ≤ 65535) :
    Met B15_166 Z a0 h0 #[(.int (2 : Int32)), (.int (3 : Int32))] [] (Ret none []) := by
  refine Met.of pn15 (ls := #[.val (.int (2 : Int32)), .val (.int (3 : Int32))]) (fun m => by first | (simp [entryFrame, mkF, argsToLocals, Value.category, B15_166]; done) | rfl) ?_
  show Go B15_166 Z a0 h0 _ 0 0 [] 0 #[.val (.int (2 : Int32)), .val (.int (3 : Int32))] []
  refine go_iloadN 1 rfl d15_0 rfl ?_
  refine go_iloadN 2 rfl d15_1 rfl ?_
  refine go_getS 5 rfl d15_2 (wd hw 71 rfl) SS.2.2.1 ?_
  refine go_callS 8 rfl d15_5 (wd hw 73 rfl) (wd hw 74 rfl) (wd hw 72 rfl) (wd hw 75 rfl) (by decide) (mt167 Z a0 hw h0 zc r99 SS z0 z1 z2 h_0 h_1 h_2) (argsL := [(.int (2 : Int32)), (.int (3 : Int32)), r99]) (rest := []) rfl (ps := [.int, .int, (.object "java/util/function/BiFunction")]) (by decide +kernel) rfl rfl 0 rfl (by decide) (by decide) (by decide) (by decide) ?_
  rintro _ _ ⟨rfl, rfl⟩
  show Go B15_166 Z a0 h0 _ 0 0 [] 8 #[.val (.int (2 : Int32)), .val (.int (3 : Int32))] [(.int (2 : Int32))]
  refine go_pop 9 rfl d15_8 rfl rfl ?_
  exact go_return d15_9 rfl rfl (by decide) (by decide) ⟨rfl, rfl⟩
def B24_165 : Bdy := (⟨"java/lang/StringUTF16", "checkIndex", "(I[B)V"⟩, jdk_52_method_91_code, 2, none, ({ frames := 2, cells := 0, slots := 0, locals := 27 } : Room))
set_option maxRecDepth 65536 in
set_option maxHeartbeats 4000000 in
theorem mt165 (Z : State) (a0 : Array Value) (hw : ∀ d ∈ tables_1, d.before a0 Z = true) (h0 : Heap) (zc : Int32) (r99 : Value) (SS : Sts Z h0 zc r99) (z0 z1 z2 : Int32) (h_0 : 0 ≤ z0.toInt ∧ z0.toInt ≤ 65535) (h_1 : 0 ≤ z1.toInt ∧ z1.toInt ≤ 65535) (h_2 : 0 ≤ z2.toInt ∧ z2.toInt ≤ 65535) (a16 : Addr) :
    Met B24_165 Z a0 h0 #[(.int (2 : Int32)), (.ref a16)] (mem10 a16 z0 z1 z2) (Ret none (mem10 a16 z0 z1 z2)) := by
  refine Met.of pn24 (ls := #[.val (.int (2 : Int32)), .val (.ref a16)]) (fun m => by first | (simp [entryFrame, mkF, argsToLocals, Value.category, B24_165]; done) | rfl) ?_
  show Go B24_165 Z a0 h0 _ 0 0 (mem10 a16 z0 z1 z2) 0 #[.val (.int (2 : Int32)), .val (.ref a16)] []
  refine go_iloadN 1 rfl d24_0 rfl ?_
  refine go_aloadN 2 rfl d24_1 rfl rfl ?_
  refine go_callS 5 rfl d24_2 (wd hw 105 rfl) (wd hw 106 rfl) (wd hw 43 rfl) (wd hw 107 rfl) (by decide) (mt151 Z a0 hw h0 zc r99 SS z0 z1 z2 h_0 h_1 h_2 a16) (argsL := [(.ref a16)]) (rest := [(.int (2 : Int32))]) rfl (ps := [(.array .byte)]) (by decide +kernel) rfl rfl 1 rfl (by decide) (by decide) (by decide) (by decide) ?_
  rintro _ _ ⟨rfl, rfl⟩
  show Go B24_165 Z a0 h0 _ 0 0 (mem10 a16 z0 z1 z2) 5 #[.val (.int (2 : Int32)), .val (.ref a16)] [(.int (3 : Int32)), (.int (2 : Int32))]
  refine go_callS 8 rfl d24_5 (wd hw 108 rfl) (wd hw 69 rfl) (wd hw 6 rfl) (wd hw 70 rfl) (by decide) (Met.frame (mem10 a16 z0 z1 z2) (mt166 Z a0 hw h0 zc r99 SS z0 z1 z2 h_0 h_1 h_2)) (argsL := [(.int (2 : Int32)), (.int (3 : Int32))]) (rest := []) rfl (ps := [.int, .int]) (by decide +kernel) rfl rfl 0 rfl (by decide) (by decide) (by decide) (by decide) ?_
  rintro _ _ ⟨_, ⟨rfl, rfl⟩, rfl⟩
  show Go B24_165 Z a0 h0 _ 0 0 (mem10 a16 z0 z1 z2) 8 #[.val (.int (2 : Int32)), .val (.ref a16)] []
  exact go_return d24_8 rfl rfl (by decide) (by decide) ⟨rfl, rfl⟩
def B23_164 : Bdy := (⟨"java/lang/StringUTF16", "charAt", "([BI)C"⟩, jdk_52_method_83_code, 2, (some .char), ({ frames := 3, cells := 0, slots := 0, locals := 40 } : Room))
set_option maxRecDepth 65536 in
set_option maxHeartbeats 4000000 in
theorem mt164 (Z : State) (a0 : Array Value) (hw : ∀ d ∈ tables_1, d.before a0 Z = true) (h0 : Heap) (zc : Int32) (r99 : Value) (SS : Sts Z h0 zc r99) (z0 z1 z2 : Int32) (h_0 : 0 ≤ z0.toInt ∧ z0.toInt ≤ 65535) (h_1 : 0 ≤ z1.toInt ∧ z1.toInt ≤ 65535) (h_2 : 0 ≤ z2.toInt ∧ z2.toInt ≤ 65535) (a16 : Addr) :
    Met B23_164 Z a0 h0 #[(.ref a16), (.int (2 : Int32))] (mem10 a16 z0 z1 z2) (Ret (some (.int z2)) (mem10 a16 z0 z1 z2)) := by
  refine Met.of pn23 (ls := #[.val (.ref a16), .val (.int (2 : Int32))]) (fun m => by first | (simp [entryFrame, mkF, argsToLocals, Value.category, B23_164]; done) | rfl) ?_
  show Go B23_164 Z a0 h0 _ 0 0 (mem10 a16 z0 z1 z2) 0 #[.val (.ref a16), .val (.int (2 : Int32))] []
  refine go_iloadN 1 rfl d23_0 rfl ?_
  refine go_aloadN 2 rfl d23_1 rfl rfl ?_
  refine go_callS 5 rfl d23_2 (wd hw 102 rfl) (wd hw 103 rfl) (wd hw 43 rfl) (wd hw 104 rfl) (by decide) (mt165 Z a0 hw h0 zc r99 SS z0 z1 z2 h_0 h_1 h_2 a16) (argsL := [(.int (2 : Int32)), (.ref a16)]) (rest := []) rfl (ps := [.int, (.array .byte)]) (by decide +kernel) rfl rfl 0 rfl (by decide) (by decide) (by decide) (by decide) ?_
  rintro _ _ ⟨rfl, rfl⟩
  show Go B23_164 Z a0 h0 _ 0 0 (mem10 a16 z0 z1 z2) 5 #[.val (.ref a16), .val (.int (2 : Int32))] []
  refine go_aloadN 6 rfl d23_5 rfl rfl ?_
  refine go_iloadN 7 rfl d23_6 rfl ?_
  refine go_callS 10 rfl d23_7 (wd hw 96 rfl) (wd hw 97 rfl) (wd hw 43 rfl) (wd hw 98 rfl) (by decide) (mt141 Z a0 hw h0 zc r99 SS z0 z1 z2 h_0 h_1 h_2 a16) (argsL := [(.ref a16), (.int (2 : Int32))]) (rest := []) rfl (ps := [(.array .byte), .int]) (by decide +kernel) rfl rfl 0 rfl (by decide) (by decide) (by decide) (by decide) ?_
  rintro _ _ ⟨rfl, rfl⟩
  show Go B23_164 Z a0 h0 _ 0 0 (mem10 a16 z0 z1 z2) 10 #[.val (.ref a16), .val (.int (2 : Int32))] [(.int z2)]
  exact go_ireturn d23_10 rfl (Or.inr (Or.inr (Or.inr (Or.inl rfl)))) rfl (congrArg Value.int (nar_z z2 h_2)) (by decide) (by decide) ⟨rfl, rfl⟩
def B12_163 : Bdy := (⟨"java/lang/String", "charAt", "(I)C"⟩, jdk_42_method_56_code, 2, (some .char), ({ frames := 4, cells := 0, slots := 0, locals := 53 } : Room))
set_option maxRecDepth 65536 in
set_option maxHeartbeats 4000000 in
theorem mt163 (Z : State) (a0 : Array Value) (hw : ∀ d ∈ tables_1, d.before a0 Z = true) (h0 : Heap) (zc : Int32) (r99 : Value) (SS : Sts Z h0 zc r99) (z0 z1 z2 : Int32) (h_0 : 0 ≤ z0.toInt ∧ z0.toInt ≤ 65535) (h_1 : 0 ≤ z1.toInt ∧ z1.toInt ≤ 65535) (h_2 : 0 ≤ z2.toInt ∧ z2.toInt ≤ 65535) (a16 : Addr) (a13 : Addr) :
    Met B12_163 Z a0 h0 #[(.ref a13), (.int (2 : Int32))] (mem17 a16 z0 z1 z2 a13) (Ret (some (.int z2)) (mem17 a16 z0 z1 z2 a13)) := by
  refine Met.of pn12 (ls := #[.val (.ref a13), .val (.int (2 : Int32))]) (fun m => by first | (simp [entryFrame, mkF, argsToLocals, Value.category, B12_163]; done) | rfl) ?_
  show Go B12_163 Z a0 h0 _ 0 0 (mem17 a16 z0 z1 z2 a13) 0 #[.val (.ref a13), .val (.int (2 : Int32))] []
  refine go_aloadN 1 rfl d12_0 rfl rfl ?_
  refine go_callV 4 rfl d12_1 (wd hw 59 rfl) (wd hw 60 rfl) (wd hw 62 rfl) (wd hw 61 rfl) (wd hw 6 rfl) (wd hw 63 rfl) (by decide) (Mo.exa (i := 1) rfl) (mt148 Z a0 hw h0 zc r99 SS z0 z1 z2 h_0 h_1 h_2 a16 a13) (argsL := []) (rest := []) rfl (ps := []) (by decide +kernel) rfl rfl 0 rfl (by decide) (by decide) (by decide) (by decide) ?_
  rintro _ _ ⟨rfl, rfl⟩
  show Go B12_163 Z a0 h0 _ 0 0 (mem17 a16 z0 z1 z2 a13) 4 #[.val (.ref a13), .val (.int (2 : Int32))] [(.int (0 : Int32))]
  refine go_if 16 7 rfl (by decide) rfl d12_4 rfl (fun (hc4 : (0 : Int) = 0) => ?_) (fun (hc4 : ¬ ((0 : Int) = 0)) => absurd hc4 (by decide))
  refine go_aloadN 17 rfl d12_16 rfl rfl ?_
  refine go_get 1 0 20 rfl d12_17 rfl rfl rfl (wd hw 24 rfl) ?_
  refine go_iloadN 21 rfl d12_20 rfl ?_
  refine go_callS 24 rfl d12_21 (wd hw 99 rfl) (wd hw 100 rfl) (wd hw 43 rfl) (wd hw 101 rfl) (by decide) (Met.frame [ob a13 "java/lang/String" [("java/lang/String", "value", "[B", (.ref a16)), ("java/lang/String", "coder", "B", (.int (1 : Int32)))]] (mt164 Z a0 hw h0 zc r99 SS z0 z1 z2 h_0 h_1 h_2 a16)) (argsL := [(.ref a16), (.int (2 : Int32))]) (rest := []) rfl (ps := [(.array .byte), .int]) (by decide +kernel) rfl rfl 0 rfl (by decide) (by decide) (by decide) (by decide) ?_
  rintro _ _ ⟨_, ⟨rfl, rfl⟩, rfl⟩
  show Go B12_163 Z a0 h0 _ 0 0 (mem17 a16 z0 z1 z2 a13) 24 #[.val (.ref a13), .val (.int (2 : Int32))] [(.int z2)]
  exact go_ireturn d12_24 rfl (Or.inr (Or.inr (Or.inr (Or.inl rfl)))) rfl (congrArg Value.int (nar_z z2 h_2)) (by decide) (by decide) ⟨rfl, rfl⟩
def B5_144 : Bdy := (⟨"com/example/tool_port/toolport/http/HttpSyntax", "isFieldValue", "(Ljava/lang/String;)Z"⟩, prog_33_method_3_code, 2, (some .boolean), ({ frames := 5, cells := 0, slots := 0, locals := 66 } : Room))
set_option maxRecDepth 65536 in
set_option maxHeartbeats 4000000 in
theorem mt144 (Z : State) (a0 : Array Value) (hw : ∀ d ∈ tables_1, d.before a0 Z = true) (h0 : Heap) (zc : Int32) (r99 : Value) (SS : Sts Z h0 zc r99) (z0 z1 z2 : Int32) (h_0 : 0 ≤ z0.toInt ∧ z0.toInt ≤ 65535) (h_1 : 0 ≤ z1.toInt ∧ z1.toInt ≤ 65535) (h_2 : 0 ≤ z2.toInt ∧ z2.toInt ≤ 65535) (a16 : Addr) (a13 : Addr) :
    Met B5_144 Z a0 h0 #[(.ref a13)] (mem17 a16 z0 z1 z2 a13) (Qz ((z0.toInt = 9 ∨ (32 ≤ z0.toInt ∧ z0.toInt ≠ 127 ∧ z0.toInt ≤ 255)) ∧ (z1.toInt = 9 ∨ (32 ≤ z1.toInt ∧ z1.toInt ≠ 127 ∧ z1.toInt ≤ 255)) ∧ (z2.toInt = 9 ∨ (32 ≤ z2.toInt ∧ z2.toInt ≠ 127 ∧ z2.toInt ≤ 255))) (mem17 a16 z0 z1 z2 a13)) := by
  refine Met.of pn5 (ls := #[.val (.ref a13), .unset]) (fun m => by first | (simp [entryFrame, mkF, argsToLocals, Value.category, B5_144]; done) | rfl) ?_
  show Go B5_144 Z a0 h0 _ 0 0 (mem17 a16 z0 z1 z2 a13) 0 #[.val (.ref a13), .unset] []
  refine go_iconst (0 : Int32) 1 rfl d5_0 rfl ?_
  refine go_istoreN #[.val (.ref a13), .val (.int (0 : Int32))] 2 rfl d5_1 rfl rfl ?_
  refine go_iloadN 3 rfl d5_2 rfl ?_
  refine go_aloadN 4 rfl d5_3 rfl rfl ?_
  refine go_callV 7 rfl d5_4 (wd hw 30 rfl) (wd hw 31 rfl) (wd hw 33 rfl) (wd hw 32 rfl) (wd hw 6 rfl) (wd hw 34 rfl) (by decide) (Mo.exa (i := 1) rfl) (mt145 Z a0 hw h0 zc r99 SS z0 z1 z2 h_0 h_1 h_2 a16 a13) (argsL := []) (rest := [(.int (0 : Int32))]) rfl (ps := []) (by decide +kernel) rfl rfl 1 rfl (by decide) (by decide) (by decide) (by decide) ?_
  rintro _ _ ⟨rfl, rfl⟩
  show Go B5_144 Z a0 h0 _ 0 0 (mem17 a16 z0 z1 z2 a13) 7 #[.val (.ref a13), .val (.int (0 : Int32))] [(.int (3 : Int32)), (.int (0 : Int32))]
  refine go_icmp 29 10 rfl (by decide) rfl d5_7 rfl (fun (hc7 : (3 : Int) ≤ (0 : Int)) => absurd hc7 (by decide)) (fun (hc7 : ¬ ((3 : Int) ≤ (0 : Int))) => ?_)
  refine go_aloadN 11 rfl d5_10 rfl rfl ?_
  refine go_iloadN 12 rfl d5_11 rfl ?_
  refine go_callV 15 rfl d5_12 (wd hw 54 rfl) (wd hw 55 rfl) (wd hw 57 rfl) (wd hw 56 rfl) (wd hw 6 rfl) (wd hw 58 rfl) (by decide) (Mo.exa (i := 1) rfl) (mt147 Z a0 hw h0 zc r99 SS z0 z1 z2 h_0 h_1 h_2 a16 a13) (argsL := [(.int (0 : Int32))]) (rest := []) rfl (ps := [.int]) (by decide +kernel) rfl rfl 0 rfl (by decide) (by decide) (by decide) (by decide) ?_
  rintro _ _ ⟨rfl, rfl⟩
  show Go B5_144 Z a0 h0 _ 0 0 (mem17 a16 z0 z1 z2 a13) 15 #[.val (.ref a13), .val (.int (0 : Int32))] [(.int z0)]
  refine go_callS 18 rfl d5_15 (wd hw 76 rfl) (wd hw 77 rfl) (wd hw 28 rfl) (wd hw 78 rfl) (by decide) (m_isFieldValueChar Z a0 hw h0 (mem17 a16 z0 z1 z2 a13) z0) (argsL := [(.int z0)]) (rest := []) rfl (ps := [.int]) (by decide +kernel) rfl rfl 0 rfl (by decide) (by decide) (by decide) (by decide) ?_
  rintro _ _ ⟨z138, rfl, rfl, hz138⟩
  show Go B5_144 Z a0 h0 _ 0 0 (mem17 a16 z0 z1 z2 a13) 18 #[.val (.ref a13), .val (.int (0 : Int32))] [(.int z138)]
  refine go_if 23 21 rfl (by decide) rfl d5_18 rfl (fun (hc18_154 : z138.toInt ≠ 0) => ?_) (fun (hc18_154 : ¬ (z138.toInt ≠ 0)) => ?_)
  · refine go_iinc #[.val (.ref a13), .val (.int (1 : Int32))] 26 rfl d5_23 rfl rfl ?_
    refine go_goto 2 (by decide) rfl d5_26 ?_
    refine go_iloadN 3 rfl d5_2 rfl ?_
    refine go_aloadN 4 rfl d5_3 rfl rfl ?_
    refine go_callV 7 rfl d5_4 (wd hw 30 rfl) (wd hw 31 rfl) (wd hw 33 rfl) (wd hw 32 rfl) (wd hw 6 rfl) (wd hw 34 rfl) (by decide) (Mo.exa (i := 1) rfl) (mt145 Z a0 hw h0 zc r99 SS z0 z1 z2 h_0 h_1 h_2 a16 a13) (argsL := []) (rest := [(.int (1 : Int32))]) rfl (ps := []) (by decide +kernel) rfl rfl 1 rfl (by decide) (by decide) (by decide) (by decide) ?_
    rintro _ _ ⟨rfl, rfl⟩
    show Go B5_144 Z a0 h0 _ 0 0 (mem17 a16 z0 z1 z2 a13) 7 #[.val (.ref a13), .val (.int (1 : Int32))] [(.int (3 : Int32)), (.int (1 : Int32))]
    refine go_icmp 29 10 rfl (by decide) rfl d5_7 rfl (fun (hc7 : (3 : Int) ≤ (1 : Int)) => absurd hc7 (by decide)) (fun (hc7 : ¬ ((3 : Int) ≤ (1 : Int))) => ?_)
    refine go_aloadN 11 rfl d5_10 rfl rfl ?_
    refine go_iloadN 12 rfl d5_11 rfl ?_
    refine go_callV 15 rfl d5_12 (wd hw 54 rfl) (wd hw 55 rfl) (wd hw 57 rfl) (wd hw 56 rfl) (wd hw 6 rfl) (wd hw 58 rfl) (by decide) (Mo.exa (i := 1) rfl) (mt156 Z a0 hw h0 zc r99 SS z0 z1 z2 h_0 h_1 h_2 a16 a13) (argsL := [(.int (1 : Int32))]) (rest := []) rfl (ps := [.int]) (by decide +kernel) rfl rfl 0 rfl (by decide) (by decide) (by decide) (by decide) ?_
    rintro _ _ ⟨rfl, rfl⟩
    show Go B5_144 Z a0 h0 _ 0 0 (mem17 a16 z0 z1 z2 a13) 15 #[.val (.ref a13), .val (.int (1 : Int32))] [(.int z1)]
    refine go_callS 18 rfl d5_15 (wd hw 76 rfl) (wd hw 77 rfl) (wd hw 28 rfl) (wd hw 78 rfl) (by decide) (m_isFieldValueChar Z a0 hw h0 (mem17 a16 z0 z1 z2 a13) z1) (argsL := [(.int z1)]) (rest := []) rfl (ps := [.int]) (by decide +kernel) rfl rfl 0 rfl (by decide) (by decide) (by decide) (by decide) ?_
    rintro _ _ ⟨z139, rfl, rfl, hz139⟩
    show Go B5_144 Z a0 h0 _ 0 0 (mem17 a16 z0 z1 z2 a13) 18 #[.val (.ref a13), .val (.int (1 : Int32))] [(.int z139)]
    refine go_if 23 21 rfl (by decide) rfl d5_18 rfl (fun (hc18_161 : z139.toInt ≠ 0) => ?_) (fun (hc18_161 : ¬ (z139.toInt ≠ 0)) => ?_)
    · refine go_iinc #[.val (.ref a13), .val (.int (2 : Int32))] 26 rfl d5_23 rfl rfl ?_
      refine go_goto 2 (by decide) rfl d5_26 ?_
      refine go_iloadN 3 rfl d5_2 rfl ?_
      refine go_aloadN 4 rfl d5_3 rfl rfl ?_
      refine go_callV 7 rfl d5_4 (wd hw 30 rfl) (wd hw 31 rfl) (wd hw 33 rfl) (wd hw 32 rfl) (wd hw 6 rfl) (wd hw 34 rfl) (by decide) (Mo.exa (i := 1) rfl) (mt145 Z a0 hw h0 zc r99 SS z0 z1 z2 h_0 h_1 h_2 a16 a13) (argsL := []) (rest := [(.int (2 : Int32))]) rfl (ps := []) (by decide +kernel) rfl rfl 1 rfl (by decide) (by decide) (by decide) (by decide) ?_
      rintro _ _ ⟨rfl, rfl⟩
      show Go B5_144 Z a0 h0 _ 0 0 (mem17 a16 z0 z1 z2 a13) 7 #[.val (.ref a13), .val (.int (2 : Int32))] [(.int (3 : Int32)), (.int (2 : Int32))]
      refine go_icmp 29 10 rfl (by decide) rfl d5_7 rfl (fun (hc7 : (3 : Int) ≤ (2 : Int)) => absurd hc7 (by decide)) (fun (hc7 : ¬ ((3 : Int) ≤ (2 : Int))) => ?_)
      refine go_aloadN 11 rfl d5_10 rfl rfl ?_
      refine go_iloadN 12 rfl d5_11 rfl ?_
      refine go_callV 15 rfl d5_12 (wd hw 54 rfl) (wd hw 55 rfl) (wd hw 57 rfl) (wd hw 56 rfl) (wd hw 6 rfl) (wd hw 58 rfl) (by decide) (Mo.exa (i := 1) rfl) (mt163 Z a0 hw h0 zc r99 SS z0 z1 z2 h_0 h_1 h_2 a16 a13) (argsL := [(.int (2 : Int32))]) (rest := []) rfl (ps := [.int]) (by decide +kernel) rfl rfl 0 rfl (by decide) (by decide) (by decide) (by decide) ?_
      rintro _ _ ⟨rfl, rfl⟩
      show Go B5_144 Z a0 h0 _ 0 0 (mem17 a16 z0 z1 z2 a13) 15 #[.val (.ref a13), .val (.int (2 : Int32))] [(.int z2)]
      refine go_callS 18 rfl d5_15 (wd hw 76 rfl) (wd hw 77 rfl) (wd hw 28 rfl) (wd hw 78 rfl) (by decide) (m_isFieldValueChar Z a0 hw h0 (mem17 a16 z0 z1 z2 a13) z2) (argsL := [(.int z2)]) (rest := []) rfl (ps := [.int]) (by decide +kernel) rfl rfl 0 rfl (by decide) (by decide) (by decide) (by decide) ?_
      rintro _ _ ⟨z140, rfl, rfl, hz140⟩
      show Go B5_144 Z a0 h0 _ 0 0 (mem17 a16 z0 z1 z2 a13) 18 #[.val (.ref a13), .val (.int (2 : Int32))] [(.int z140)]
      refine go_if 23 21 rfl (by decide) rfl d5_18 rfl (fun (hc18_167 : z140.toInt ≠ 0) => ?_) (fun (hc18_167 : ¬ (z140.toInt ≠ 0)) => ?_)
      · refine go_iinc #[.val (.ref a13), .val (.int (3 : Int32))] 26 rfl d5_23 rfl rfl ?_
        refine go_goto 2 (by decide) rfl d5_26 ?_
        refine go_iloadN 3 rfl d5_2 rfl ?_
        refine go_aloadN 4 rfl d5_3 rfl rfl ?_
        refine go_callV 7 rfl d5_4 (wd hw 30 rfl) (wd hw 31 rfl) (wd hw 33 rfl) (wd hw 32 rfl) (wd hw 6 rfl) (wd hw 34 rfl) (by decide) (Mo.exa (i := 1) rfl) (mt145 Z a0 hw h0 zc r99 SS z0 z1 z2 h_0 h_1 h_2 a16 a13) (argsL := []) (rest := [(.int (3 : Int32))]) rfl (ps := []) (by decide +kernel) rfl rfl 1 rfl (by decide) (by decide) (by decide) (by decide) ?_
        rintro _ _ ⟨rfl, rfl⟩
        show Go B5_144 Z a0 h0 _ 0 0 (mem17 a16 z0 z1 z2 a13) 7 #[.val (.ref a13), .val (.int (3 : Int32))] [(.int (3 : Int32)), (.int (3 : Int32))]
        refine go_icmp 29 10 rfl (by decide) rfl d5_7 rfl (fun (hc7 : (3 : Int) ≤ (3 : Int)) => ?_) (fun (hc7 : ¬ ((3 : Int) ≤ (3 : Int))) => absurd hc7 (by decide))
        refine go_iconst (1 : Int32) 30 rfl d5_29 rfl ?_
        exact go_ireturn d5_30 rfl (Or.inr (Or.inl rfl)) rfl rfl (by decide) (by decide) ⟨_, rfl, rfl, Or.inl ⟨rfl, by omega⟩⟩
      · refine go_iconst (0 : Int32) 22 rfl d5_21 rfl ?_
        exact go_ireturn d5_22 rfl (Or.inr (Or.inl rfl)) rfl rfl (by decide) (by decide) ⟨_, rfl, rfl, Or.inr ⟨rfl, by omega⟩⟩
    · refine go_iconst (0 : Int32) 22 rfl d5_21 rfl ?_
      exact go_ireturn d5_22 rfl (Or.inr (Or.inl rfl)) rfl rfl (by decide) (by decide) ⟨_, rfl, rfl, Or.inr ⟨rfl, by omega⟩⟩
  · refine go_iconst (0 : Int32) 22 rfl d5_21 rfl ?_
    exact go_ireturn d5_22 rfl (Or.inr (Or.inl rfl)) rfl rfl (by decide) (by decide) ⟨_, rfl, rfl, Or.inr ⟨rfl, by omega⟩⟩
def B9_174 : Bdy := (⟨"java/lang/StringUTF16", "compress", "([CI[BII)I"⟩, jdk_52_method_21_code, 7, (some .int), ({ frames := 0, cells := 0, slots := 0, locals := 0 } : Room))
set_option maxRecDepth 65536 in
set_option maxHeartbeats 4000000 in
theorem mt174 (Z : State) (a0 : Array Value) (hw : ∀ d ∈ tables_1, d.before a0 Z = true) (h0 : Heap) (zc : Int32) (r99 : Value) (SS : Sts Z h0 zc r99) (z0 z1 z2 : Int32) (h_0 : 0 ≤ z0.toInt ∧ z0.toInt ≤ 65535) (h_1 : 0 ≤ z1.toInt ∧ z1.toInt ≤ 65535) (h_2 : 0 ≤ z2.toInt ∧ z2.toInt ≤ 65535) (g0 : z0.toInt ≤ 255) (g1 : ¬ z1.toInt ≤ 255) (a14 : Addr) (a318 : Addr) :
    Met B9_174 Z a0 h0 #[(.ref a14), (.int (0 : Int32)), (.ref a318), (.int (0 : Int32)), (.int (3 : Int32))] [ar a14 .char [(.int z0), (.int z1), (.int z2)], ar a318 .byte [(.int (0 : Int32)), (.int (0 : Int32)), (.int (0 : Int32))]] (Ret (some (.int (1 : Int32))) [ar a14 .char [(.int z0), (.int z1), (.int z2)], ar a318 .byte [(.int (nar .byte (z0.toInt8.toInt32))), (.int (0 : Int32)), (.int (0 : Int32))]]) := by
  refine Met.of pn9 (ls := #[.val (.ref a14), .val (.int (0 : Int32)), .val (.ref a318), .val (.int (0 : Int32)), .val (.int (3 : Int32)), .unset, .unset]) (fun m => by first | (simp [entryFrame, mkF, argsToLocals, Value.category, B9_174]; done) | rfl) ?_
  show Go B9_174 Z a0 h0 _ 0 0 [ar a14 .char [(.int z0), (.int z1), (.int z2)], ar a318 .byte [(.int (0 : Int32)), (.int (0 : Int32)), (.int (0 : Int32))]] 0 #[.val (.ref a14), .val (.int (0 : Int32)), .val (.ref a318), .val (.int (0 : Int32)), .val (.int (3 : Int32)), .unset, .unset] []
  refine go_iconst (0 : Int32) 1 rfl d9_0 rfl ?_
  refine go_istore #[.val (.ref a14), .val (.int (0 : Int32)), .val (.ref a318), .val (.int (0 : Int32)), .val (.int (3 : Int32)), .val (.int (0 : Int32)), .unset] 3 rfl d9_1 rfl rfl ?_
  refine go_iload 5 rfl d9_3 rfl ?_
  refine go_iload 7 rfl d9_5 rfl ?_
  refine go_icmp 44 10 rfl (by decide) rfl d9_7 rfl (fun (hc7 : (3 : Int) ≤ (0 : Int)) => absurd hc7 (by decide)) (fun (hc7 : ¬ ((3 : Int) ≤ (0 : Int))) => ?_)
  refine go_aloadN 11 rfl d9_10 rfl rfl ?_
  refine go_iloadN 12 rfl d9_11 rfl ?_
  refine go_caload 13 rfl d9_12 rfl (Mo.el (i := 0) rfl (by decide) rfl) ?_
  refine go_istore #[.val (.ref a14), .val (.int (0 : Int32)), .val (.ref a318), .val (.int (0 : Int32)), .val (.int (3 : Int32)), .val (.int (0 : Int32)), .val (.int z0)] 15 rfl d9_13 rfl rfl ?_
  refine go_iload 17 rfl d9_15 rfl ?_
  refine go_sipush (255 : Int32) 20 rfl d9_17 rfl ?_
  refine go_icmp 26 23 rfl (by decide) rfl d9_20 rfl (fun (hc20 : z0.toInt ≤ (255 : Int)) => ?_) (fun (hc20 : ¬ (z0.toInt ≤ (255 : Int))) => absurd hc20 (by omega))
  refine go_aloadN 27 rfl d9_26 rfl rfl ?_
  refine go_iloadN 28 rfl d9_27 rfl ?_
  refine go_iload 30 rfl d9_28 rfl ?_
  refine go_i2b 31 rfl d9_30 rfl ?_
  refine go_bastore 1 32 rfl d9_31 rfl rfl (by decide) (Nat.le_of_ble_eq_true rfl) ?_
  show Go B9_174 Z a0 h0 _ 0 0 [ar a14 .char [(.int z0), (.int z1), (.int z2)], ar a318 .byte [(.int (nar .byte (z0.toInt8.toInt32))), (.int (0 : Int32)), (.int (0 : Int32))]] 32 #[.val (.ref a14), .val (.int (0 : Int32)), .val (.ref a318), .val (.int (0 : Int32)), .val (.int (3 : Int32)), .val (.int (0 : Int32)), .val (.int z0)] []
  refine go_iinc #[.val (.ref a14), .val (.int (1 : Int32)), .val (.ref a318), .val (.int (0 : Int32)), .val (.int (3 : Int32)), .val (.int (0 : Int32)), .val (.int z0)] 35 rfl d9_32 rfl rfl ?_
  refine go_iinc #[.val (.ref a14), .val (.int (1 : Int32)), .val (.ref a318), .val (.int (1 : Int32)), .val (.int (3 : Int32)), .val (.int (0 : Int32)), .val (.int z0)] 38 rfl d9_35 rfl rfl ?_
  refine go_iinc #[.val (.ref a14), .val (.int (1 : Int32)), .val (.ref a318), .val (.int (1 : Int32)), .val (.int (3 : Int32)), .val (.int (1 : Int32)), .val (.int z0)] 41 rfl d9_38 rfl rfl ?_
  refine go_goto 3 (by decide) rfl d9_41 ?_
  refine go_iload 5 rfl d9_3 rfl ?_
  refine go_iload 7 rfl d9_5 rfl ?_
  refine go_icmp 44 10 rfl (by decide) rfl d9_7 rfl (fun (hc7 : (3 : Int) ≤ (1 : Int)) => absurd hc7 (by decide)) (fun (hc7 : ¬ ((3 : Int) ≤ (1 : Int))) => ?_)
  refine go_aloadN 11 rfl d9_10 rfl rfl ?_
  refine go_iloadN 12 rfl d9_11 rfl ?_
  refine go_caload 13 rfl d9_12 rfl (Mo.el (i := 0) rfl (by decide) rfl) ?_
  refine go_istore #[.val (.ref a14), .val (.int (1 : Int32)), .val (.ref a318), .val (.int (1 : Int32)), .val (.int (3 : Int32)), .val (.int (1 : Int32)), .val (.int z1)] 15 rfl d9_13 rfl rfl ?_
  refine go_iload 17 rfl d9_15 rfl ?_
  refine go_sipush (255 : Int32) 20 rfl d9_17 rfl ?_
  refine go_icmp 26 23 rfl (by decide) rfl d9_20 rfl (fun (hc20 : z1.toInt ≤ (255 : Int)) => absurd hc20 (by omega)) (fun (hc20 : ¬ (z1.toInt ≤ (255 : Int))) => ?_)
  refine go_iload 25 rfl d9_23 rfl ?_
  exact go_ireturn d9_25 rfl (Or.inl rfl) rfl rfl (by decide) (by decide) ⟨rfl, rfl⟩
def B8_173 : Bdy := (⟨"java/lang/StringUTF16", "compress", "([CII)[B"⟩, jdk_52_method_16_code, 6, (some (.array .byte)), ({ frames := 3, cells := 2, slots := 9, locals := 40 } : Room))
set_option maxRecDepth 65536 in
set_option maxHeartbeats 4000000 in
theorem mt173 (Z : State) (a0 : Array Value) (hw : ∀ d ∈ tables_1, d.before a0 Z = true) (h0 : Heap) (zc : Int32) (r99 : Value) (SS : Sts Z h0 zc r99) (z0 z1 z2 : Int32) (h_0 : 0 ≤ z0.toInt ∧ z0.toInt ≤ 65535) (h_1 : 0 ≤ z1.toInt ∧ z1.toInt ≤ 65535) (h_2 : 0 ≤ z2.toInt ∧ z2.toInt ≤ 65535) (g0 : z0.toInt ≤ 255) (g1 : ¬ z1.toInt ≤ 255) (a14 : Addr) :
    Met B8_173 Z a0 h0 #[(.ref a14), (.int (0 : Int32)), (.int (3 : Int32))] [ar a14 .char [(.int z0), (.int z1), (.int z2)]] (fun v ds => ∃ a319 a318 : Addr, Ret (some (.ref a319)) (mem18 a319 z0 z1 z2 a14 a318) v ds) := by
  refine Met.of pn8 (ls := #[.val (.ref a14), .val (.int (0 : Int32)), .val (.int (3 : Int32)), .unset, .unset, .unset]) (fun m => by first | (simp [entryFrame, mkF, argsToLocals, Value.category, B8_173]; done) | rfl) ?_
  show Go B8_173 Z a0 h0 _ 0 0 [ar a14 .char [(.int z0), (.int z1), (.int z2)]] 0 #[.val (.ref a14), .val (.int (0 : Int32)), .val (.int (3 : Int32)), .unset, .unset, .unset] []
  refine go_iloadN 1 rfl d8_0 rfl ?_
  refine go_newarr 3 rfl d8_1 rfl (wd hw 19 rfl) (by decide) 3 (by decide) (by decide) (by decide) (by decide) (fun a318 => ?_)
  show Go B8_173 Z a0 h0 _ 1 3 [ar a14 .char [(.int z0), (.int z1), (.int z2)], ar a318 .byte [(.int (0 : Int32)), (.int (0 : Int32)), (.int (0 : Int32))]] 3 #[.val (.ref a14), .val (.int (0 : Int32)), .val (.int (3 : Int32)), .unset, .unset, .unset] [(.ref a318)]
  refine go_astoreN #[.val (.ref a14), .val (.int (0 : Int32)), .val (.int (3 : Int32)), .val (.ref a318), .unset, .unset] 4 rfl d8_3 rfl rfl rfl ?_
  refine go_aloadN 5 rfl d8_4 rfl rfl ?_
  refine go_iloadN 6 rfl d8_5 rfl ?_
  refine go_aloadN 7 rfl d8_6 rfl rfl ?_
  refine go_iconst (0 : Int32) 8 rfl d8_7 rfl ?_
  refine go_iloadN 9 rfl d8_8 rfl ?_
  refine go_callS 12 rfl d8_9 (wd hw 45 rfl) (wd hw 46 rfl) (wd hw 43 rfl) (wd hw 47 rfl) (by decide) (mt174 Z a0 hw h0 zc r99 SS z0 z1 z2 h_0 h_1 h_2 g0 g1 a14 a318) (argsL := [(.ref a14), (.int (0 : Int32)), (.ref a318), (.int (0 : Int32)), (.int (3 : Int32))]) (rest := []) rfl (ps := [(.array .char), .int, (.array .byte), .int, .int]) (by decide +kernel) rfl rfl 0 rfl (by decide) (by decide) (by decide) (by decide) ?_
  rintro _ _ ⟨rfl, rfl⟩
  show Go B8_173 Z a0 h0 _ 1 3 [ar a14 .char [(.int z0), (.int z1), (.int z2)], ar a318 .byte [(.int (nar .byte (z0.toInt8.toInt32))), (.int (0 : Int32)), (.int (0 : Int32))]] 12 #[.val (.ref a14), .val (.int (0 : Int32)), .val (.int (3 : Int32)), .val (.ref a318), .unset, .unset] [(.int (1 : Int32))]
  refine go_istore #[.val (.ref a14), .val (.int (0 : Int32)), .val (.int (3 : Int32)), .val (.ref a318), .val (.int (1 : Int32)), .unset] 14 rfl d8_12 rfl rfl ?_
  refine go_iload 16 rfl d8_14 rfl ?_
  refine go_iloadN 17 rfl d8_16 rfl ?_
  refine go_icmp 57 20 rfl (by decide) rfl d8_17 rfl (fun (hc17 : (1 : Int) = (3 : Int)) => absurd hc17 (by decide)) (fun (hc17 : ¬ ((1 : Int) = (3 : Int))) => ?_)
  refine go_aloadN 21 rfl d8_20 rfl rfl ?_
  refine go_iloadN 22 rfl d8_21 rfl ?_
  refine go_iloadN 23 rfl d8_22 rfl ?_
  refine go_callS 26 rfl d8_23 (wd hw 80 rfl) (wd hw 81 rfl) (wd hw 43 rfl) (wd hw 82 rfl) (by decide) (Met.frame [ar a318 .byte [(.int (nar .byte (z0.toInt8.toInt32))), (.int (0 : Int32)), (.int (0 : Int32))]] (mt135 Z a0 hw h0 zc r99 SS z0 z1 z2 h_0 h_1 h_2 a14)) (argsL := [(.ref a14), (.int (0 : Int32)), (.int (3 : Int32))]) (rest := []) rfl (ps := [(.array .char), .int, .int]) (by decide +kernel) rfl rfl 0 rfl (by decide) (by decide) (by decide) (by decide) ?_
  rintro _ _ ⟨_, ⟨a319, rfl, rfl⟩, rfl⟩
  show Go B8_173 Z a0 h0 _ 2 9 (mem18 a319 z0 z1 z2 a14 a318) 26 #[.val (.ref a14), .val (.int (0 : Int32)), .val (.int (3 : Int32)), .val (.ref a318), .val (.int (1 : Int32)), .unset] [(.ref a319)]
  refine go_astore #[.val (.ref a14), .val (.int (0 : Int32)), .val (.int (3 : Int32)), .val (.ref a318), .val (.int (1 : Int32)), .val (.ref a319)] 28 rfl d8_26 rfl rfl rfl ?_
  refine go_aload 30 rfl d8_28 rfl rfl ?_
  refine go_iload 32 rfl d8_30 rfl ?_
  refine go_callS 35 rfl d8_32 (wd hw 96 rfl) (wd hw 97 rfl) (wd hw 43 rfl) (wd hw 98 rfl) (by decide) (Met.frame [ar a14 .char [(.int z0), (.int z1), (.int z2)], ar a318 .byte [(.int (nar .byte (z0.toInt8.toInt32))), (.int (0 : Int32)), (.int (0 : Int32))]] (mt161 Z a0 hw h0 zc r99 SS z0 z1 z2 h_0 h_1 h_2 a319)) (argsL := [(.ref a319), (.int (1 : Int32))]) (rest := []) rfl (ps := [(.array .byte), .int]) (by decide +kernel) rfl rfl 0 rfl (by decide) (by decide) (by decide) (by decide) ?_
  rintro _ _ ⟨_, ⟨rfl, rfl⟩, rfl⟩
  show Go B8_173 Z a0 h0 _ 2 9 (mem18 a319 z0 z1 z2 a14 a318) 35 #[.val (.ref a14), .val (.int (0 : Int32)), .val (.int (3 : Int32)), .val (.ref a318), .val (.int (1 : Int32)), .val (.ref a319)] [(.int z1)]
  refine go_sipush (255 : Int32) 38 rfl d8_35 rfl ?_
  refine go_icmp 54 41 rfl (by decide) rfl d8_38 rfl (fun (hc38 : (255 : Int) < z1.toInt) => ?_) (fun (hc38 : ¬ ((255 : Int) < z1.toInt)) => absurd hc38 (by omega))
  refine go_aload 56 rfl d8_54 rfl rfl ?_
  exact go_areturn d8_56 rfl rfl rfl rfl (by decide) (by decide) ⟨a319, a318, rfl, rfl⟩
def B3_172 : Bdy := (⟨"java/lang/String", "<init>", "([CIILjava/lang/Void;)V"⟩, jdk_42_method_149_code, 6, none, ({ frames := 4, cells := 2, slots := 9, locals := 57 } : Room))
set_option maxRecDepth 65536 in
set_option maxHeartbeats 4000000 in
theorem mt172 (Z : State) (a0 : Array Value) (hw : ∀ d ∈ tables_1, d.before a0 Z = true) (h0 : Heap) (zc : Int32) (r99 : Value) (SS : Sts Z h0 zc r99) (z0 z1 z2 : Int32) (h_0 : 0 ≤ z0.toInt ∧ z0.toInt ≤ 65535) (h_1 : 0 ≤ z1.toInt ∧ z1.toInt ≤ 65535) (h_2 : 0 ≤ z2.toInt ∧ z2.toInt ≤ 65535) (g0 : z0.toInt ≤ 255) (g1 : ¬ z1.toInt ≤ 255) (a13 : Addr) (a14 : Addr) :
    Met B3_172 Z a0 h0 #[(.ref a13), (.ref a14), (.int (0 : Int32)), (.int (3 : Int32)), .null] [ob a13 "java/lang/String" [("java/lang/String", "value", "[B", .null), ("java/lang/String", "coder", "B", (.int (0 : Int32)))], ar a14 .char [(.int z0), (.int z1), (.int z2)]] (fun v ds => ∃ a218 a219 : Addr, Ret none (mem21 a218 z0 z1 z2 a14 a219 a13) v ds) := by
  refine Met.of pn3 (ls := #[.val (.ref a13), .val (.ref a14), .val (.int (0 : Int32)), .val (.int (3 : Int32)), .val .null, .unset]) (fun m => by first | (simp [entryFrame, mkF, argsToLocals, Value.category, B3_172]; done) | rfl) ?_
  show Go B3_172 Z a0 h0 _ 0 0 [ob a13 "java/lang/String" [("java/lang/String", "value", "[B", .null), ("java/lang/String", "coder", "B", (.int (0 : Int32)))], ar a14 .char [(.int z0), (.int z1), (.int z2)]] 0 #[.val (.ref a13), .val (.ref a14), .val (.int (0 : Int32)), .val (.int (3 : Int32)), .val .null, .unset] []
  refine go_aloadN 1 rfl d3_0 rfl rfl ?_
  refine go_initObj 4 rfl d3_1 rfl (wd hw 15 rfl) (wd hw 16 rfl) (wd hw 17 rfl) rfl (by decide) (by decide) ?_
  refine go_iloadN 5 rfl d3_4 rfl ?_
  refine go_if 27 8 rfl (by decide) rfl d3_5 rfl (fun (hc5 : (3 : Int) ≠ 0) => ?_) (fun (hc5 : ¬ ((3 : Int) ≠ 0)) => absurd hc5 (by decide))
  refine go_getS 30 rfl d3_27 (wd hw 40 rfl) SS.1 ?_
  refine go_if 58 33 rfl (by decide) rfl d3_30 rfl (fun (hc30 : zc.toInt = 0) => absurd hc30 (by exact fun q => SS.2.1 (Int32.toInt_inj.mp q))) (fun (hc30 : ¬ (zc.toInt = 0)) => ?_)
  refine go_aloadN 34 rfl d3_33 rfl rfl ?_
  refine go_iloadN 35 rfl d3_34 rfl ?_
  refine go_iloadN 36 rfl d3_35 rfl ?_
  refine Go.front 1 (Nat.le_of_ble_eq_true rfl) ?_
  show Go B3_172 Z a0 h0 _ 0 0 [ar a14 .char [(.int z0), (.int z1), (.int z2)], ob a13 "java/lang/String" [("java/lang/String", "value", "[B", .null), ("java/lang/String", "coder", "B", (.int (0 : Int32)))]] 36 #[.val (.ref a13), .val (.ref a14), .val (.int (0 : Int32)), .val (.int (3 : Int32)), .val .null, .unset] [(.int (3 : Int32)), (.int (0 : Int32)), (.ref a14)]
  refine go_callS 39 rfl d3_36 (wd hw 41 rfl) (wd hw 42 rfl) (wd hw 43 rfl) (wd hw 44 rfl) (by decide) (Met.frame [ob a13 "java/lang/String" [("java/lang/String", "value", "[B", .null), ("java/lang/String", "coder", "B", (.int (0 : Int32)))]] (mt173 Z a0 hw h0 zc r99 SS z0 z1 z2 h_0 h_1 h_2 g0 g1 a14)) (argsL := [(.ref a14), (.int (0 : Int32)), (.int (3 : Int32))]) (rest := []) rfl (ps := [(.array .char), .int, .int]) (by decide +kernel) rfl rfl 0 rfl (by decide) (by decide) (by decide) (by decide) ?_
  rintro _ _ ⟨_, ⟨a218, a219, rfl, rfl⟩, rfl⟩
  show Go B3_172 Z a0 h0 _ 2 9 (mem19 a218 z0 z1 z2 a14 a219 a13) 39 #[.val (.ref a13), .val (.ref a14), .val (.int (0 : Int32)), .val (.int (3 : Int32)), .val .null, .unset] [(.ref a218)]
  refine go_astore #[.val (.ref a13), .val (.ref a14), .val (.int (0 : Int32)), .val (.int (3 : Int32)), .val .null, .val (.ref a218)] 41 rfl d3_39 rfl rfl rfl ?_
  refine go_aloadN 42 rfl d3_41 rfl rfl ?_
  refine go_aload 44 rfl d3_42 rfl rfl ?_
  refine go_iloadN 45 rfl d3_44 rfl ?_
  refine go_callS 48 rfl d3_45 (wd hw 48 rfl) (wd hw 49 rfl) (wd hw 43 rfl) (wd hw 50 rfl) (by decide) (Met.frame [ar a14 .char [(.int z0), (.int z1), (.int z2)], ar a219 .byte [(.int (nar .byte (z0.toInt8.toInt32))), (.int (0 : Int32)), (.int (0 : Int32))], ob a13 "java/lang/String" [("java/lang/String", "value", "[B", .null), ("java/lang/String", "coder", "B", (.int (0 : Int32)))]] (mt142 Z a0 hw h0 zc r99 SS z0 z1 z2 h_0 h_1 h_2 a218)) (argsL := [(.ref a218), (.int (3 : Int32))]) (rest := [(.ref a13)]) rfl (ps := [(.array .byte), .int]) (by decide +kernel) rfl rfl 1 rfl (by decide) (by decide) (by decide) (by decide) ?_
  rintro _ _ ⟨_, ⟨rfl, rfl⟩, rfl⟩
  show Go B3_172 Z a0 h0 _ 2 9 (mem19 a218 z0 z1 z2 a14 a219 a13) 48 #[.val (.ref a13), .val (.ref a14), .val (.int (0 : Int32)), .val (.int (3 : Int32)), .val .null, .val (.ref a218)] [(.int (1 : Int32)), (.ref a13)]
  refine go_put 3 1 51 rfl d3_48 rfl rfl rfl (wd hw 25 rfl) (Or.inr ⟨(wd hw 21 rfl), rfl, rfl⟩) (wd hw 5 rfl) (ty := .byte) (by decide) rfl rfl ?_
  show Go B3_172 Z a0 h0 _ 2 9 (mem20 a218 z0 z1 z2 a14 a219 a13) 51 #[.val (.ref a13), .val (.ref a14), .val (.int (0 : Int32)), .val (.int (3 : Int32)), .val .null, .val (.ref a218)] []
  refine go_aloadN 52 rfl d3_51 rfl rfl ?_
  refine go_aload 54 rfl d3_52 rfl rfl ?_
  refine go_put 3 0 57 rfl d3_54 rfl rfl rfl (wd hw 24 rfl) (Or.inr ⟨(wd hw 20 rfl), rfl, rfl⟩) (wd hw 5 rfl) (ty := (.array .byte)) (by decide) rfl rfl ?_
  show Go B3_172 Z a0 h0 _ 2 9 (mem21 a218 z0 z1 z2 a14 a219 a13) 57 #[.val (.ref a13), .val (.ref a14), .val (.int (0 : Int32)), .val (.int (3 : Int32)), .val .null, .val (.ref a218)] []
  exact go_return d3_57 rfl rfl (by decide) (by decide) ⟨a218, a219, rfl, rfl⟩
def B2_171 : Bdy := (⟨"java/lang/String", "<init>", "([C)V"⟩, jdk_42_method_3_code, 2, none, ({ frames := 5, cells := 2, slots := 9, locals := 74 } : Room))
set_option maxRecDepth 65536 in
set_option maxHeartbeats 4000000 in
theorem mt171 (Z : State) (a0 : Array Value) (hw : ∀ d ∈ tables_1, d.before a0 Z = true) (h0 : Heap) (zc : Int32) (r99 : Value) (SS : Sts Z h0 zc r99) (z0 z1 z2 : Int32) (h_0 : 0 ≤ z0.toInt ∧ z0.toInt ≤ 65535) (h_1 : 0 ≤ z1.toInt ∧ z1.toInt ≤ 65535) (h_2 : 0 ≤ z2.toInt ∧ z2.toInt ≤ 65535) (g0 : z0.toInt ≤ 255) (g1 : ¬ z1.toInt ≤ 255) (a13 : Addr) (a14 : Addr) :
    Met B2_171 Z a0 h0 #[(.ref a13), (.ref a14)] [ob a13 "java/lang/String" [("java/lang/String", "value", "[B", .null), ("java/lang/String", "coder", "B", (.int (0 : Int32)))], ar a14 .char [(.int z0), (.int z1), (.int z2)]] (fun v ds => ∃ a118 a119 : Addr, Ret none (mem21 a118 z0 z1 z2 a14 a119 a13) v ds) := by
  refine Met.of pn2 (ls := #[.val (.ref a13), .val (.ref a14)]) (fun m => by first | (simp [entryFrame, mkF, argsToLocals, Value.category, B2_171]; done) | rfl) ?_
  show Go B2_171 Z a0 h0 _ 0 0 [ob a13 "java/lang/String" [("java/lang/String", "value", "[B", .null), ("java/lang/String", "coder", "B", (.int (0 : Int32)))], ar a14 .char [(.int z0), (.int z1), (.int z2)]] 0 #[.val (.ref a13), .val (.ref a14)] []
  refine go_aloadN 1 rfl d2_0 rfl rfl ?_
  refine go_aloadN 2 rfl d2_1 rfl rfl ?_
  refine go_iconst (0 : Int32) 3 rfl d2_2 rfl ?_
  refine go_aloadN 4 rfl d2_3 rfl rfl ?_
  refine go_alen 1 5 rfl d2_4 rfl rfl ?_
  show Go B2_171 Z a0 h0 _ 0 0 [ob a13 "java/lang/String" [("java/lang/String", "value", "[B", .null), ("java/lang/String", "coder", "B", (.int (0 : Int32)))], ar a14 .char [(.int z0), (.int z1), (.int z2)]] 5 #[.val (.ref a13), .val (.ref a14)] [(.int (3 : Int32)), (.int (0 : Int32)), (.ref a14), (.ref a13)]
  refine go_aconstNull 6 rfl d2_5 ?_
  refine go_callI 9 rfl d2_6 rfl (wd hw 11 rfl) (wd hw 12 rfl) (wd hw 6 rfl) (wd hw 14 rfl) (by decide) (mt172 Z a0 hw h0 zc r99 SS z0 z1 z2 h_0 h_1 h_2 g0 g1 a13 a14) (argsL := [(.ref a14), (.int (0 : Int32)), (.int (3 : Int32)), .null]) (rest := []) rfl (ret := none) (ps := [(.array .char), .int, .int, (.object "java/lang/Void")]) (by decide +kernel) rfl rfl 0 rfl (by decide) (by decide) (by decide) (by decide) ?_
  rintro _ _ ⟨a118, a119, rfl, rfl⟩
  show Go B2_171 Z a0 h0 _ 2 9 (mem21 a118 z0 z1 z2 a14 a119 a13) 9 #[.val (.ref a13), .val (.ref a14)] []
  exact go_return d2_9 rfl rfl (by decide) (by decide) ⟨a118, a119, rfl, rfl⟩
def B9_181 : Bdy := (⟨"java/lang/StringUTF16", "compress", "([CI[BII)I"⟩, jdk_52_method_21_code, 7, (some .int), ({ frames := 0, cells := 0, slots := 0, locals := 0 } : Room))
set_option maxRecDepth 65536 in
set_option maxHeartbeats 4000000 in
theorem mt181 (Z : State) (a0 : Array Value) (hw : ∀ d ∈ tables_1, d.before a0 Z = true) (h0 : Heap) (zc : Int32) (r99 : Value) (SS : Sts Z h0 zc r99) (z0 z1 z2 : Int32) (h_0 : 0 ≤ z0.toInt ∧ z0.toInt ≤ 65535) (h_1 : 0 ≤ z1.toInt ∧ z1.toInt ≤ 65535) (h_2 : 0 ≤ z2.toInt ∧ z2.toInt ≤ 65535) (g0 : ¬ z0.toInt ≤ 255) (a14 : Addr) (a320 : Addr) :
    Met B9_181 Z a0 h0 #[(.ref a14), (.int (0 : Int32)), (.ref a320), (.int (0 : Int32)), (.int (3 : Int32))] [ar a14 .char [(.int z0), (.int z1), (.int z2)], ar a320 .byte [(.int (0 : Int32)), (.int (0 : Int32)), (.int (0 : Int32))]] (Ret (some (.int (0 : Int32))) [ar a14 .char [(.int z0), (.int z1), (.int z2)], ar a320 .byte [(.int (0 : Int32)), (.int (0 : Int32)), (.int (0 : Int32))]]) := by
  refine Met.of pn9 (ls := #[.val (.ref a14), .val (.int (0 : Int32)), .val (.ref a320), .val (.int (0 : Int32)), .val (.int (3 : Int32)), .unset, .unset]) (fun m => by first | (simp [entryFrame, mkF, argsToLocals, Value.category, B9_181]; done) | rfl) ?_
  show Go B9_181 Z a0 h0 _ 0 0 [ar a14 .char [(.int z0), (.int z1), (.int z2)], ar a320 .byte [(.int (0 : Int32)), (.int (0 : Int32)), (.int (0 : Int32))]] 0 #[.val (.ref a14), .val (.int (0 : Int32)), .val (.ref a320), .val (.int (0 : Int32)), .val (.int (3 : Int32)), .unset, .unset] []
  refine go_iconst (0 : Int32) 1 rfl d9_0 rfl ?_
  refine go_istore #[.val (.ref a14), .val (.int (0 : Int32)), .val (.ref a320), .val (.int (0 : Int32)), .val (.int (3 : Int32)), .val (.int (0 : Int32)), .unset] 3 rfl d9_1 rfl rfl ?_
  refine go_iload 5 rfl d9_3 rfl ?_
  refine go_iload 7 rfl d9_5 rfl ?_
  refine go_icmp 44 10 rfl (by decide) rfl d9_7 rfl (fun (hc7 : (3 : Int) ≤ (0 : Int)) => absurd hc7 (by decide)) (fun (hc7 : ¬ ((3 : Int) ≤ (0 : Int))) => ?_)
  refine go_aloadN 11 rfl d9_10 rfl rfl ?_
  refine go_iloadN 12 rfl d9_11 rfl ?_
  refine go_caload 13 rfl d9_12 rfl (Mo.el (i := 0) rfl (by decide) rfl) ?_
  refine go_istore #[.val (.ref a14), .val (.int (0 : Int32)), .val (.ref a320), .val (.int (0 : Int32)), .val (.int (3 : Int32)), .val (.int (0 : Int32)), .val (.int z0)] 15 rfl d9_13 rfl rfl ?_
  refine go_iload 17 rfl d9_15 rfl ?_
  refine go_sipush (255 : Int32) 20 rfl d9_17 rfl ?_
  refine go_icmp 26 23 rfl (by decide) rfl d9_20 rfl (fun (hc20 : z0.toInt ≤ (255 : Int)) => absurd hc20 (by omega)) (fun (hc20 : ¬ (z0.toInt ≤ (255 : Int))) => ?_)
  refine go_iload 25 rfl d9_23 rfl ?_
  exact go_ireturn d9_25 rfl (Or.inl rfl) rfl rfl (by decide) (by decide) ⟨rfl, rfl⟩
def B8_180 : Bdy := (⟨"java/lang/StringUTF16", "compress", "([CII)[B"⟩, jdk_52_method_16_code, 6, (some (.array .byte)), ({ frames := 3, cells := 2, slots := 9, locals := 40 } : Room))
set_option maxRecDepth 65536 in
set_option maxHeartbeats 4000000 in
theorem mt180 (Z : State) (a0 : Array Value) (hw : ∀ d ∈ tables_1, d.before a0 Z = true) (h0 : Heap) (zc : Int32) (r99 : Value) (SS : Sts Z h0 zc r99) (z0 z1 z2 : Int32) (h_0 : 0 ≤ z0.toInt ∧ z0.toInt ≤ 65535) (h_1 : 0 ≤ z1.toInt ∧ z1.toInt ≤ 65535) (h_2 : 0 ≤ z2.toInt ∧ z2.toInt ≤ 65535) (g0 : ¬ z0.toInt ≤ 255) (a14 : Addr) :
    Met B8_180 Z a0 h0 #[(.ref a14), (.int (0 : Int32)), (.int (3 : Int32))] [ar a14 .char [(.int z0), (.int z1), (.int z2)]] (fun v ds => ∃ a321 a320 : Addr, Ret (some (.ref a321)) (mem23 a321 z0 z1 z2 a14 a320) v ds) := by
  refine Met.of pn8 (ls := #[.val (.ref a14), .val (.int (0 : Int32)), .val (.int (3 : Int32)), .unset, .unset, .unset]) (fun m => by first | (simp [entryFrame, mkF, argsToLocals, Value.category, B8_180]; done) | rfl) ?_
  show Go B8_180 Z a0 h0 _ 0 0 [ar a14 .char [(.int z0), (.int z1), (.int z2)]] 0 #[.val (.ref a14), .val (.int (0 : Int32)), .val (.int (3 : Int32)), .unset, .unset, .unset] []
  refine go_iloadN 1 rfl d8_0 rfl ?_
  refine go_newarr 3 rfl d8_1 rfl (wd hw 19 rfl) (by decide) 3 (by decide) (by decide) (by decide) (by decide) (fun a320 => ?_)
  show Go B8_180 Z a0 h0 _ 1 3 [ar a14 .char [(.int z0), (.int z1), (.int z2)], ar a320 .byte [(.int (0 : Int32)), (.int (0 : Int32)), (.int (0 : Int32))]] 3 #[.val (.ref a14), .val (.int (0 : Int32)), .val (.int (3 : Int32)), .unset, .unset, .unset] [(.ref a320)]
  refine go_astoreN #[.val (.ref a14), .val (.int (0 : Int32)), .val (.int (3 : Int32)), .val (.ref a320), .unset, .unset] 4 rfl d8_3 rfl rfl rfl ?_
  refine go_aloadN 5 rfl d8_4 rfl rfl ?_
  refine go_iloadN 6 rfl d8_5 rfl ?_
  refine go_aloadN 7 rfl d8_6 rfl rfl ?_
  refine go_iconst (0 : Int32) 8 rfl d8_7 rfl ?_
  refine go_iloadN 9 rfl d8_8 rfl ?_
  refine go_callS 12 rfl d8_9 (wd hw 45 rfl) (wd hw 46 rfl) (wd hw 43 rfl) (wd hw 47 rfl) (by decide) (mt181 Z a0 hw h0 zc r99 SS z0 z1 z2 h_0 h_1 h_2 g0 a14 a320) (argsL := [(.ref a14), (.int (0 : Int32)), (.ref a320), (.int (0 : Int32)), (.int (3 : Int32))]) (rest := []) rfl (ps := [(.array .char), .int, (.array .byte), .int, .int]) (by decide +kernel) rfl rfl 0 rfl (by decide) (by decide) (by decide) (by decide) ?_
  rintro _ _ ⟨rfl, rfl⟩
  show Go B8_180 Z a0 h0 _ 1 3 [ar a14 .char [(.int z0), (.int z1), (.int z2)], ar a320 .byte [(.int (0 : Int32)), (.int (0 : Int32)), (.int (0 : Int32))]] 12 #[.val (.ref a14), .val (.int (0 : Int32)), .val (.int (3 : Int32)), .val (.ref a320), .unset, .unset] [(.int (0 : Int32))]
  refine go_istore #[.val (.ref a14), .val (.int (0 : Int32)), .val (.int (3 : Int32)), .val (.ref a320), .val (.int (0 : Int32)), .unset] 14 rfl d8_12 rfl rfl ?_
  refine go_iload 16 rfl d8_14 rfl ?_
  refine go_iloadN 17 rfl d8_16 rfl ?_
  refine go_icmp 57 20 rfl (by decide) rfl d8_17 rfl (fun (hc17 : (0 : Int) = (3 : Int)) => absurd hc17 (by decide)) (fun (hc17 : ¬ ((0 : Int) = (3 : Int))) => ?_)
  refine go_aloadN 21 rfl d8_20 rfl rfl ?_
  refine go_iloadN 22 rfl d8_21 rfl ?_
  refine go_iloadN 23 rfl d8_22 rfl ?_
  refine go_callS 26 rfl d8_23 (wd hw 80 rfl) (wd hw 81 rfl) (wd hw 43 rfl) (wd hw 82 rfl) (by decide) (Met.frame [ar a320 .byte [(.int (0 : Int32)), (.int (0 : Int32)), (.int (0 : Int32))]] (mt135 Z a0 hw h0 zc r99 SS z0 z1 z2 h_0 h_1 h_2 a14)) (argsL := [(.ref a14), (.int (0 : Int32)), (.int (3 : Int32))]) (rest := []) rfl (ps := [(.array .char), .int, .int]) (by decide +kernel) rfl rfl 0 rfl (by decide) (by decide) (by decide) (by decide) ?_
  rintro _ _ ⟨_, ⟨a321, rfl, rfl⟩, rfl⟩
  show Go B8_180 Z a0 h0 _ 2 9 (mem23 a321 z0 z1 z2 a14 a320) 26 #[.val (.ref a14), .val (.int (0 : Int32)), .val (.int (3 : Int32)), .val (.ref a320), .val (.int (0 : Int32)), .unset] [(.ref a321)]
  refine go_astore #[.val (.ref a14), .val (.int (0 : Int32)), .val (.int (3 : Int32)), .val (.ref a320), .val (.int (0 : Int32)), .val (.ref a321)] 28 rfl d8_26 rfl rfl rfl ?_
  refine go_aload 30 rfl d8_28 rfl rfl ?_
  refine go_iload 32 rfl d8_30 rfl ?_
  refine go_callS 35 rfl d8_32 (wd hw 96 rfl) (wd hw 97 rfl) (wd hw 43 rfl) (wd hw 98 rfl) (by decide) (Met.frame [ar a14 .char [(.int z0), (.int z1), (.int z2)], ar a320 .byte [(.int (0 : Int32)), (.int (0 : Int32)), (.int (0 : Int32))]] (mt154 Z a0 hw h0 zc r99 SS z0 z1 z2 h_0 h_1 h_2 a321)) (argsL := [(.ref a321), (.int (0 : Int32))]) (rest := []) rfl (ps := [(.array .byte), .int]) (by decide +kernel) rfl rfl 0 rfl (by decide) (by decide) (by decide) (by decide) ?_
  rintro _ _ ⟨_, ⟨rfl, rfl⟩, rfl⟩
  show Go B8_180 Z a0 h0 _ 2 9 (mem23 a321 z0 z1 z2 a14 a320) 35 #[.val (.ref a14), .val (.int (0 : Int32)), .val (.int (3 : Int32)), .val (.ref a320), .val (.int (0 : Int32)), .val (.ref a321)] [(.int z0)]
  refine go_sipush (255 : Int32) 38 rfl d8_35 rfl ?_
  refine go_icmp 54 41 rfl (by decide) rfl d8_38 rfl (fun (hc38 : (255 : Int) < z0.toInt) => ?_) (fun (hc38 : ¬ ((255 : Int) < z0.toInt)) => absurd hc38 (by omega))
  refine go_aload 56 rfl d8_54 rfl rfl ?_
  exact go_areturn d8_56 rfl rfl rfl rfl (by decide) (by decide) ⟨a321, a320, rfl, rfl⟩
def B3_179 : Bdy := (⟨"java/lang/String", "<init>", "([CIILjava/lang/Void;)V"⟩, jdk_42_method_149_code, 6, none, ({ frames := 4, cells := 2, slots := 9, locals := 57 } : Room))
set_option maxRecDepth 65536 in
set_option maxHeartbeats 4000000 in
theorem mt179 (Z : State) (a0 : Array Value) (hw : ∀ d ∈ tables_1, d.before a0 Z = true) (h0 : Heap) (zc : Int32) (r99 : Value) (SS : Sts Z h0 zc r99) (z0 z1 z2 : Int32) (h_0 : 0 ≤ z0.toInt ∧ z0.toInt ≤ 65535) (h_1 : 0 ≤ z1.toInt ∧ z1.toInt ≤ 65535) (h_2 : 0 ≤ z2.toInt ∧ z2.toInt ≤ 65535) (g0 : ¬ z0.toInt ≤ 255) (a13 : Addr) (a14 : Addr) :
    Met B3_179 Z a0 h0 #[(.ref a13), (.ref a14), (.int (0 : Int32)), (.int (3 : Int32)), .null] [ob a13 "java/lang/String" [("java/lang/String", "value", "[B", .null), ("java/lang/String", "coder", "B", (.int (0 : Int32)))], ar a14 .char [(.int z0), (.int z1), (.int z2)]] (fun v ds => ∃ a220 a221 : Addr, Ret none (mem26 a220 z0 z1 z2 a14 a221 a13) v ds) := by
  refine Met.of pn3 (ls := #[.val (.ref a13), .val (.ref a14), .val (.int (0 : Int32)), .val (.int (3 : Int32)), .val .null, .unset]) (fun m => by first | (simp [entryFrame, mkF, argsToLocals, Value.category, B3_179]; done) | rfl) ?_
  show Go B3_179 Z a0 h0 _ 0 0 [ob a13 "java/lang/String" [("java/lang/String", "value", "[B", .null), ("java/lang/String", "coder", "B", (.int (0 : Int32)))], ar a14 .char [(.int z0), (.int z1), (.int z2)]] 0 #[.val (.ref a13), .val (.ref a14), .val (.int (0 : Int32)), .val (.int (3 : Int32)), .val .null, .unset] []
  refine go_aloadN 1 rfl d3_0 rfl rfl ?_
  refine go_initObj 4 rfl d3_1 rfl (wd hw 15 rfl) (wd hw 16 rfl) (wd hw 17 rfl) rfl (by decide) (by decide) ?_
  refine go_iloadN 5 rfl d3_4 rfl ?_
  refine go_if 27 8 rfl (by decide) rfl d3_5 rfl (fun (hc5 : (3 : Int) ≠ 0) => ?_) (fun (hc5 : ¬ ((3 : Int) ≠ 0)) => absurd hc5 (by decide))
  refine go_getS 30 rfl d3_27 (wd hw 40 rfl) SS.1 ?_
  refine go_if 58 33 rfl (by decide) rfl d3_30 rfl (fun (hc30 : zc.toInt = 0) => absurd hc30 (by exact fun q => SS.2.1 (Int32.toInt_inj.mp q))) (fun (hc30 : ¬ (zc.toInt = 0)) => ?_)
  refine go_aloadN 34 rfl d3_33 rfl rfl ?_
  refine go_iloadN 35 rfl d3_34 rfl ?_
  refine go_iloadN 36 rfl d3_35 rfl ?_
  refine Go.front 1 (Nat.le_of_ble_eq_true rfl) ?_
  show Go B3_179 Z a0 h0 _ 0 0 [ar a14 .char [(.int z0), (.int z1), (.int z2)], ob a13 "java/lang/String" [("java/lang/String", "value", "[B", .null), ("java/lang/String", "coder", "B", (.int (0 : Int32)))]] 36 #[.val (.ref a13), .val (.ref a14), .val (.int (0 : Int32)), .val (.int (3 : Int32)), .val .null, .unset] [(.int (3 : Int32)), (.int (0 : Int32)), (.ref a14)]
  refine go_callS 39 rfl d3_36 (wd hw 41 rfl) (wd hw 42 rfl) (wd hw 43 rfl) (wd hw 44 rfl) (by decide) (Met.frame [ob a13 "java/lang/String" [("java/lang/String", "value", "[B", .null), ("java/lang/String", "coder", "B", (.int (0 : Int32)))]] (mt180 Z a0 hw h0 zc r99 SS z0 z1 z2 h_0 h_1 h_2 g0 a14)) (argsL := [(.ref a14), (.int (0 : Int32)), (.int (3 : Int32))]) (rest := []) rfl (ps := [(.array .char), .int, .int]) (by decide +kernel) rfl rfl 0 rfl (by decide) (by decide) (by decide) (by decide) ?_
  rintro _ _ ⟨_, ⟨a220, a221, rfl, rfl⟩, rfl⟩
  show Go B3_179 Z a0 h0 _ 2 9 (mem24 a220 z0 z1 z2 a14 a221 a13) 39 #[.val (.ref a13), .val (.ref a14), .val (.int (0 : Int32)), .val (.int (3 : Int32)), .val .null, .unset] [(.ref a220)]
  refine go_astore #[.val (.ref a13), .val (.ref a14), .val (.int (0 : Int32)), .val (.int (3 : Int32)), .val .null, .val (.ref a220)] 41 rfl d3_39 rfl rfl rfl ?_
  refine go_aloadN 42 rfl d3_41 rfl rfl ?_
  refine go_aload 44 rfl d3_42 rfl rfl ?_
  refine go_iloadN 45 rfl d3_44 rfl ?_
  refine go_callS 48 rfl d3_45 (wd hw 48 rfl) (wd hw 49 rfl) (wd hw 43 rfl) (wd hw 50 rfl) (by decide) (Met.frame [ar a14 .char [(.int z0), (.int z1), (.int z2)], ar a221 .byte [(.int (0 : Int32)), (.int (0 : Int32)), (.int (0 : Int32))], ob a13 "java/lang/String" [("java/lang/String", "value", "[B", .null), ("java/lang/String", "coder", "B", (.int (0 : Int32)))]] (mt142 Z a0 hw h0 zc r99 SS z0 z1 z2 h_0 h_1 h_2 a220)) (argsL := [(.ref a220), (.int (3 : Int32))]) (rest := [(.ref a13)]) rfl (ps := [(.array .byte), .int]) (by decide +kernel) rfl rfl 1 rfl (by decide) (by decide) (by decide) (by decide) ?_
  rintro _ _ ⟨_, ⟨rfl, rfl⟩, rfl⟩
  show Go B3_179 Z a0 h0 _ 2 9 (mem24 a220 z0 z1 z2 a14 a221 a13) 48 #[.val (.ref a13), .val (.ref a14), .val (.int (0 : Int32)), .val (.int (3 : Int32)), .val .null, .val (.ref a220)] [(.int (1 : Int32)), (.ref a13)]
  refine go_put 3 1 51 rfl d3_48 rfl rfl rfl (wd hw 25 rfl) (Or.inr ⟨(wd hw 21 rfl), rfl, rfl⟩) (wd hw 5 rfl) (ty := .byte) (by decide) rfl rfl ?_
  show Go B3_179 Z a0 h0 _ 2 9 (mem25 a220 z0 z1 z2 a14 a221 a13) 51 #[.val (.ref a13), .val (.ref a14), .val (.int (0 : Int32)), .val (.int (3 : Int32)), .val .null, .val (.ref a220)] []
  refine go_aloadN 52 rfl d3_51 rfl rfl ?_
  refine go_aload 54 rfl d3_52 rfl rfl ?_
  refine go_put 3 0 57 rfl d3_54 rfl rfl rfl (wd hw 24 rfl) (Or.inr ⟨(wd hw 20 rfl), rfl, rfl⟩) (wd hw 5 rfl) (ty := (.array .byte)) (by decide) rfl rfl ?_
  show Go B3_179 Z a0 h0 _ 2 9 (mem26 a220 z0 z1 z2 a14 a221 a13) 57 #[.val (.ref a13), .val (.ref a14), .val (.int (0 : Int32)), .val (.int (3 : Int32)), .val .null, .val (.ref a220)] []
  exact go_return d3_57 rfl rfl (by decide) (by decide) ⟨a220, a221, rfl, rfl⟩
def B2_178 : Bdy := (⟨"java/lang/String", "<init>", "([C)V"⟩, jdk_42_method_3_code, 2, none, ({ frames := 5, cells := 2, slots := 9, locals := 74 } : Room))
set_option maxRecDepth 65536 in
set_option maxHeartbeats 4000000 in
theorem mt178 (Z : State) (a0 : Array Value) (hw : ∀ d ∈ tables_1, d.before a0 Z = true) (h0 : Heap) (zc : Int32) (r99 : Value) (SS : Sts Z h0 zc r99) (z0 z1 z2 : Int32) (h_0 : 0 ≤ z0.toInt ∧ z0.toInt ≤ 65535) (h_1 : 0 ≤ z1.toInt ∧ z1.toInt ≤ 65535) (h_2 : 0 ≤ z2.toInt ∧ z2.toInt ≤ 65535) (g0 : ¬ z0.toInt ≤ 255) (a13 : Addr) (a14 : Addr) :
    Met B2_178 Z a0 h0 #[(.ref a13), (.ref a14)] [ob a13 "java/lang/String" [("java/lang/String", "value", "[B", .null), ("java/lang/String", "coder", "B", (.int (0 : Int32)))], ar a14 .char [(.int z0), (.int z1), (.int z2)]] (fun v ds => ∃ a120 a121 : Addr, Ret none (mem26 a120 z0 z1 z2 a14 a121 a13) v ds) := by
  refine Met.of pn2 (ls := #[.val (.ref a13), .val (.ref a14)]) (fun m => by first | (simp [entryFrame, mkF, argsToLocals, Value.category, B2_178]; done) | rfl) ?_
  show Go B2_178 Z a0 h0 _ 0 0 [ob a13 "java/lang/String" [("java/lang/String", "value", "[B", .null), ("java/lang/String", "coder", "B", (.int (0 : Int32)))], ar a14 .char [(.int z0), (.int z1), (.int z2)]] 0 #[.val (.ref a13), .val (.ref a14)] []
  refine go_aloadN 1 rfl d2_0 rfl rfl ?_
  refine go_aloadN 2 rfl d2_1 rfl rfl ?_
  refine go_iconst (0 : Int32) 3 rfl d2_2 rfl ?_
  refine go_aloadN 4 rfl d2_3 rfl rfl ?_
  refine go_alen 1 5 rfl d2_4 rfl rfl ?_
  show Go B2_178 Z a0 h0 _ 0 0 [ob a13 "java/lang/String" [("java/lang/String", "value", "[B", .null), ("java/lang/String", "coder", "B", (.int (0 : Int32)))], ar a14 .char [(.int z0), (.int z1), (.int z2)]] 5 #[.val (.ref a13), .val (.ref a14)] [(.int (3 : Int32)), (.int (0 : Int32)), (.ref a14), (.ref a13)]
  refine go_aconstNull 6 rfl d2_5 ?_
  refine go_callI 9 rfl d2_6 rfl (wd hw 11 rfl) (wd hw 12 rfl) (wd hw 6 rfl) (wd hw 14 rfl) (by decide) (mt179 Z a0 hw h0 zc r99 SS z0 z1 z2 h_0 h_1 h_2 g0 a13 a14) (argsL := [(.ref a14), (.int (0 : Int32)), (.int (3 : Int32)), .null]) (rest := []) rfl (ret := none) (ps := [(.array .char), .int, .int, (.object "java/lang/Void")]) (by decide +kernel) rfl rfl 0 rfl (by decide) (by decide) (by decide) (by decide) ?_
  rintro _ _ ⟨a120, a121, rfl, rfl⟩
  show Go B2_178 Z a0 h0 _ 2 9 (mem26 a120 z0 z1 z2 a14 a121 a13) 9 #[.val (.ref a13), .val (.ref a14)] []
  exact go_return d2_9 rfl rfl (by decide) (by decide) ⟨a120, a121, rfl, rfl⟩
theorem pn0 : plainFor (⟨"com/example/tool_port/toolport/http/HttpSyntaxIsFieldValuePinLaw", "law", "(IIII)Z"⟩ : MethodName) = true := by first | (apply plainFor_of_name; simp [plainName, overriddenIn]; done) | decide +kernel
def B0 : Bdy := (x, code, maxLocals, ret, room_1)
set_option maxRecDepth 65536 in
set_option maxHeartbeats 4000000 in
theorem law_n (Z : State) (a0 : Array Value) (hw : ∀ d ∈ tables_1, d.before a0 Z = true) (h0 : Heap) (zc : Int32) (r99 : Value) (SS : Sts Z h0 zc r99) (p1 p2 p3 p4 : Int32) (h4 : ¬ (p1 &&& (3 : Int32)) = 0) :
    Met B0 Z a0 h0 #[(.int p1), (.int p2), (.int p3), (.int p4)] [] (fun v _ => v = some (.int 1)) := by
  refine Met.of pn0 (ls := #[.val (.int p1), .val (.int p2), .val (.int p3), .val (.int p4), .unset, .unset, .unset, .unset, .unset, .unset]) (fun m => by first | (simp [entryFrame, mkF, argsToLocals, Value.category, B0, maxLocals]; done) | rfl) ?_
  show Go B0 Z a0 h0 _ 0 0 [] 0 #[.val (.int p1), .val (.int p2), .val (.int p3), .val (.int p4), .unset, .unset, .unset, .unset, .unset, .unset] []
  refine go_iloadN 1 rfl at_0 rfl ?_
  refine go_iconst (3 : Int32) 2 rfl at_1 rfl ?_
  refine go_iand 3 rfl at_2 rfl ?_
  refine go_istore #[.val (.int p1), .val (.int p2), .val (.int p3), .val (.int p4), .val (.int (p1 &&& (3 : Int32))), .unset, .unset, .unset, .unset, .unset] 5 rfl at_3 rfl rfl ?_
  refine go_iloadN 6 rfl at_5 rfl ?_
  refine go_callS 9 rfl at_6 (wd hw 0 rfl) (wd hw 1 rfl) (wd hw 2 rfl) (wd hw 3 rfl) (by decide) (m_draw Z a0 hw h0 [] p2) (argsL := [(.int p2)]) (rest := []) rfl (ps := [.int]) (by decide +kernel) rfl rfl 0 rfl (by decide) (by decide) (by decide) (by decide) ?_
  rintro _ _ ⟨z0, rfl, rfl, r0⟩
  show Go B0 Z a0 h0 _ 0 0 [] 9 #[.val (.int p1), .val (.int p2), .val (.int p3), .val (.int p4), .val (.int (p1 &&& (3 : Int32))), .unset, .unset, .unset, .unset, .unset] [(.int z0)]
  refine go_istore #[.val (.int p1), .val (.int p2), .val (.int p3), .val (.int p4), .val (.int (p1 &&& (3 : Int32))), .val (.int z0), .unset, .unset, .unset, .unset] 11 rfl at_9 rfl rfl ?_
  refine go_iloadN 12 rfl at_11 rfl ?_
  refine go_callS 15 rfl at_12 (wd hw 0 rfl) (wd hw 1 rfl) (wd hw 2 rfl) (wd hw 3 rfl) (by decide) (m_draw Z a0 hw h0 [] p3) (argsL := [(.int p3)]) (rest := []) rfl (ps := [.int]) (by decide +kernel) rfl rfl 0 rfl (by decide) (by decide) (by decide) (by decide) ?_
  rintro _ _ ⟨z1, rfl, rfl, r1⟩
  show Go B0 Z a0 h0 _ 0 0 [] 15 #[.val (.int p1), .val (.int p2), .val (.int p3), .val (.int p4), .val (.int (p1 &&& (3 : Int32))), .val (.int z0), .unset, .unset, .unset, .unset] [(.int z1)]
  refine go_istore #[.val (.int p1), .val (.int p2), .val (.int p3), .val (.int p4), .val (.int (p1 &&& (3 : Int32))), .val (.int z0), .val (.int z1), .unset, .unset, .unset] 17 rfl at_15 rfl rfl ?_
  refine go_iloadN 18 rfl at_17 rfl ?_
  refine go_callS 21 rfl at_18 (wd hw 0 rfl) (wd hw 1 rfl) (wd hw 2 rfl) (wd hw 3 rfl) (by decide) (m_draw Z a0 hw h0 [] p4) (argsL := [(.int p4)]) (rest := []) rfl (ps := [.int]) (by decide +kernel) rfl rfl 0 rfl (by decide) (by decide) (by decide) (by decide) ?_
  rintro _ _ ⟨z2, rfl, rfl, r2⟩
  show Go B0 Z a0 h0 _ 0 0 [] 21 #[.val (.int p1), .val (.int p2), .val (.int p3), .val (.int p4), .val (.int (p1 &&& (3 : Int32))), .val (.int z0), .val (.int z1), .unset, .unset, .unset] [(.int z2)]
  refine go_istore #[.val (.int p1), .val (.int p2), .val (.int p3), .val (.int p4), .val (.int (p1 &&& (3 : Int32))), .val (.int z0), .val (.int z1), .val (.int z2), .unset, .unset] 23 rfl at_21 rfl rfl ?_
  rcases four p1 with e4 | e4 | e4 | e4
  · exact absurd e4 h4
  · rw [e4]
    show Go B0 Z a0 h0 _ 0 0 [] 23 #[.val (.int p1), .val (.int p2), .val (.int p3), .val (.int p4), .val (.int (1 : Int32)), .val (.int z0), .val (.int z1), .val (.int z2), .unset, .unset] []
    refine go_iload 25 rfl at_23 rfl ?_
    refine go_if 46 28 rfl (by decide) rfl at_25 rfl (fun (hc25 : (1 : Int) ≠ 0) => ?_) (fun (hc25 : ¬ ((1 : Int) ≠ 0)) => absurd hc25 (by decide))
    refine go_iload 48 rfl at_46 rfl ?_
    refine go_iconst (1 : Int32) 49 rfl at_48 rfl ?_
    refine go_icmp 79 52 rfl (by decide) rfl at_49 rfl (fun (hc49 : (1 : Int) ≠ (1 : Int)) => absurd hc49 (by decide)) (fun (hc49 : ¬ ((1 : Int) ≠ (1 : Int))) => ?_)
    refine go_new 55 rfl at_52 (wd hw 4 rfl) (wd hw 5 rfl) (wd hw 6 rfl) (by decide) (by decide) [("java/lang/String", "value", "[B", .null), ("java/lang/String", "coder", "B", (.int (0 : Int32)))] ⟨⟨Or.inr (wd hw 20 rfl), _, rfl, rfl⟩, ⟨⟨Or.inr (wd hw 21 rfl), _, rfl, rfl⟩, trivial⟩⟩ (by decide) (fun a1 => ?_)
    show Go B0 Z a0 h0 _ 1 4 [ob a1 "java/lang/String" [("java/lang/String", "value", "[B", .null), ("java/lang/String", "coder", "B", (.int (0 : Int32)))]] 55 #[.val (.int p1), .val (.int p2), .val (.int p3), .val (.int p4), .val (.int (1 : Int32)), .val (.int z0), .val (.int z1), .val (.int z2), .unset, .unset] [(.ref a1)]
    refine go_dup 56 rfl at_55 rfl rfl ?_
    refine go_iconst (1 : Int32) 57 rfl at_56 rfl ?_
    refine go_newarr 59 rfl at_57 rfl (wd hw 7 rfl) (by decide) 1 (by decide) (by decide) (by decide) (by decide) (fun a2 => ?_)
    show Go B0 Z a0 h0 _ 2 5 [ob a1 "java/lang/String" [("java/lang/String", "value", "[B", .null), ("java/lang/String", "coder", "B", (.int (0 : Int32)))], ar a2 .char [(.int (0 : Int32))]] 59 #[.val (.int p1), .val (.int p2), .val (.int p3), .val (.int p4), .val (.int (1 : Int32)), .val (.int z0), .val (.int z1), .val (.int z2), .unset, .unset] [(.ref a2), (.ref a1), (.ref a1)]
    refine go_dup 60 rfl at_59 rfl rfl ?_
    refine go_iconst (0 : Int32) 61 rfl at_60 rfl ?_
    refine go_iload 63 rfl at_61 rfl ?_
    refine go_castore 1 64 rfl at_63 rfl rfl (by decide) (Nat.le_of_ble_eq_true rfl) ?_
    show Go B0 Z a0 h0 _ 2 5 [ob a1 "java/lang/String" [("java/lang/String", "value", "[B", .null), ("java/lang/String", "coder", "B", (.int (0 : Int32)))], ar a2 .char [(.int (nar .char z0))]] 64 #[.val (.int p1), .val (.int p2), .val (.int p3), .val (.int p4), .val (.int (1 : Int32)), .val (.int z0), .val (.int z1), .val (.int z2), .unset, .unset] [(.ref a2), (.ref a1), (.ref a1)]
    simp only [nar_z z0 r0]
    show Go B0 Z a0 h0 _ 2 5 [ob a1 "java/lang/String" [("java/lang/String", "value", "[B", .null), ("java/lang/String", "coder", "B", (.int (0 : Int32)))], ar a2 .char [(.int z0)]] 64 #[.val (.int p1), .val (.int p2), .val (.int p3), .val (.int p4), .val (.int (1 : Int32)), .val (.int z0), .val (.int z1), .val (.int z2), .unset, .unset] [(.ref a2), (.ref a1), (.ref a1)]
    by_cases g0 : z0.toInt ≤ 255
    · have h_0 := r0
      refine go_callI 67 rfl at_64 rfl (wd hw 8 rfl) (wd hw 9 rfl) (wd hw 6 rfl) (wd hw 10 rfl) (by decide) (mt11 Z a0 hw h0 zc r99 SS z0 h_0 g0 a1 a2) (argsL := [(.ref a2)]) (rest := [(.ref a1)]) rfl (ret := none) (ps := [(.array .char)]) (by decide +kernel) rfl rfl 1 rfl (by decide) (by decide) (by decide) (by decide) ?_
      rintro _ _ ⟨a3, rfl, rfl⟩
      show Go B0 Z a0 h0 _ 3 6 [ar a3 .byte [(.int (nar .byte (z0.toInt8.toInt32)))], ar a2 .char [(.int z0)], ob a1 "java/lang/String" [("java/lang/String", "value", "[B", (.ref a3)), ("java/lang/String", "coder", "B", (.int (0 : Int32)))]] 67 #[.val (.int p1), .val (.int p2), .val (.int p3), .val (.int p4), .val (.int (1 : Int32)), .val (.int z0), .val (.int z1), .val (.int z2), .unset, .unset] [(.ref a1)]
      refine go_astore #[.val (.int p1), .val (.int p2), .val (.int p3), .val (.int p4), .val (.int (1 : Int32)), .val (.int z0), .val (.int z1), .val (.int z2), .val (.ref a1), .unset] 69 rfl at_67 rfl rfl rfl ?_
      refine go_iload 71 rfl at_69 rfl ?_
      refine go_callS 74 rfl at_71 (wd hw 51 rfl) (wd hw 52 rfl) (wd hw 2 rfl) (wd hw 53 rfl) (by decide) (m_ok Z a0 hw h0 [ar a3 .byte [(.int (nar .byte (z0.toInt8.toInt32)))], ar a2 .char [(.int z0)], ob a1 "java/lang/String" [("java/lang/String", "value", "[B", (.ref a3)), ("java/lang/String", "coder", "B", (.int (0 : Int32)))]] z0) (argsL := [(.int z0)]) (rest := []) rfl (ps := [.char]) (by decide +kernel) rfl rfl 0 rfl (by decide) (by decide) (by decide) (by decide) ?_
      rintro _ _ ⟨z101, rfl, rfl, hz101⟩
      show Go B0 Z a0 h0 _ 3 6 [ar a3 .byte [(.int (nar .byte (z0.toInt8.toInt32)))], ar a2 .char [(.int z0)], ob a1 "java/lang/String" [("java/lang/String", "value", "[B", (.ref a3)), ("java/lang/String", "coder", "B", (.int (0 : Int32)))]] 74 #[.val (.int p1), .val (.int p2), .val (.int p3), .val (.int p4), .val (.int (1 : Int32)), .val (.int z0), .val (.int z1), .val (.int z2), .val (.ref a1), .unset] [(.int z101)]
      refine go_istore #[.val (.int p1), .val (.int p2), .val (.int p3), .val (.int p4), .val (.int (1 : Int32)), .val (.int z0), .val (.int z1), .val (.int z2), .val (.ref a1), .val (.int z101)] 76 rfl at_74 rfl rfl ?_
      refine go_goto 191 (by decide) rfl at_76 ?_
      refine go_aload 193 rfl at_191 rfl rfl ?_
      refine Go.front 2 (Nat.le_of_ble_eq_true rfl) ?_
      refine Go.front 1 (Nat.le_of_ble_eq_true rfl) ?_
      show Go B0 Z a0 h0 _ 3 6 [ar a3 .byte [(.int (nar .byte (z0.toInt8.toInt32)))], ob a1 "java/lang/String" [("java/lang/String", "value", "[B", (.ref a3)), ("java/lang/String", "coder", "B", (.int (0 : Int32)))], ar a2 .char [(.int z0)]] 193 #[.val (.int p1), .val (.int p2), .val (.int p3), .val (.int p4), .val (.int (1 : Int32)), .val (.int z0), .val (.int z1), .val (.int z2), .val (.ref a1), .val (.int z101)] [(.ref a1)]
      refine go_callS 196 rfl at_193 (wd hw 26 rfl) (wd hw 27 rfl) (wd hw 28 rfl) (wd hw 29 rfl) (by decide) (Met.frame [ar a2 .char [(.int z0)]] (mt16 Z a0 hw h0 zc r99 SS z0 h_0 g0 a3 a1)) (argsL := [(.ref a1)]) (rest := []) rfl (ps := [(.object "java/lang/String")]) (by decide +kernel) rfl rfl 0 rfl (by decide) (by decide) (by decide) (by decide) ?_
      rintro _ _ ⟨_, ⟨z102, rfl, rfl, hz102⟩, rfl⟩
      show Go B0 Z a0 h0 _ 3 6 [ar a3 .byte [(.int (nar .byte (z0.toInt8.toInt32)))], ob a1 "java/lang/String" [("java/lang/String", "value", "[B", (.ref a3)), ("java/lang/String", "coder", "B", (.int (0 : Int32)))], ar a2 .char [(.int z0)]] 196 #[.val (.int p1), .val (.int p2), .val (.int p3), .val (.int p4), .val (.int (1 : Int32)), .val (.int z0), .val (.int z1), .val (.int z2), .val (.ref a1), .val (.int z101)] [(.int z102)]
      refine go_iload 198 rfl at_196 rfl ?_
      refine go_icmp 205 201 rfl (by decide) rfl at_198 rfl (fun (hc198 : z102.toInt ≠ z101.toInt) => absurd hc198 (by omega)) (fun (hc198 : ¬ (z102.toInt ≠ z101.toInt)) => ?_)
      refine go_iconst (1 : Int32) 202 rfl at_201 rfl ?_
      refine go_goto 206 (by decide) rfl at_202 ?_
      exact go_ireturn at_206 rfl (Or.inr (Or.inl rfl)) rfl rfl (by decide) (by decide) rfl
    · have h_0 := r0
      refine go_callI 67 rfl at_64 rfl (wd hw 8 rfl) (wd hw 9 rfl) (wd hw 6 rfl) (wd hw 10 rfl) (by decide) (mt25 Z a0 hw h0 zc r99 SS z0 h_0 g0 a1 a2) (argsL := [(.ref a2)]) (rest := [(.ref a1)]) rfl (ret := none) (ps := [(.array .char)]) (by decide +kernel) rfl rfl 1 rfl (by decide) (by decide) (by decide) (by decide) ?_
      rintro _ _ ⟨a4, a5, rfl, rfl⟩
      show Go B0 Z a0 h0 _ 4 8 [ar a4 .byte [(.int (nar .byte ((z0 >>> ((0 : Int32) &&& 31)).toInt8.toInt32))), (.int (nar .byte ((z0 >>> ((8 : Int32) &&& 31)).toInt8.toInt32)))], ar a2 .char [(.int z0)], ar a5 .byte [(.int (0 : Int32))], ob a1 "java/lang/String" [("java/lang/String", "value", "[B", (.ref a4)), ("java/lang/String", "coder", "B", (.int (1 : Int32)))]] 67 #[.val (.int p1), .val (.int p2), .val (.int p3), .val (.int p4), .val (.int (1 : Int32)), .val (.int z0), .val (.int z1), .val (.int z2), .unset, .unset] [(.ref a1)]
      refine go_astore #[.val (.int p1), .val (.int p2), .val (.int p3), .val (.int p4), .val (.int (1 : Int32)), .val (.int z0), .val (.int z1), .val (.int z2), .val (.ref a1), .unset] 69 rfl at_67 rfl rfl rfl ?_
      refine go_iload 71 rfl at_69 rfl ?_
      refine go_callS 74 rfl at_71 (wd hw 51 rfl) (wd hw 52 rfl) (wd hw 2 rfl) (wd hw 53 rfl) (by decide) (m_ok Z a0 hw h0 [ar a4 .byte [(.int (nar .byte ((z0 >>> ((0 : Int32) &&& 31)).toInt8.toInt32))), (.int (nar .byte ((z0 >>> ((8 : Int32) &&& 31)).toInt8.toInt32)))], ar a2 .char [(.int z0)], ar a5 .byte [(.int (0 : Int32))], ob a1 "java/lang/String" [("java/lang/String", "value", "[B", (.ref a4)), ("java/lang/String", "coder", "B", (.int (1 : Int32)))]] z0) (argsL := [(.int z0)]) (rest := []) rfl (ps := [.char]) (by decide +kernel) rfl rfl 0 rfl (by decide) (by decide) (by decide) (by decide) ?_
      rintro _ _ ⟨z104, rfl, rfl, hz104⟩
      show Go B0 Z a0 h0 _ 4 8 [ar a4 .byte [(.int (nar .byte ((z0 >>> ((0 : Int32) &&& 31)).toInt8.toInt32))), (.int (nar .byte ((z0 >>> ((8 : Int32) &&& 31)).toInt8.toInt32)))], ar a2 .char [(.int z0)], ar a5 .byte [(.int (0 : Int32))], ob a1 "java/lang/String" [("java/lang/String", "value", "[B", (.ref a4)), ("java/lang/String", "coder", "B", (.int (1 : Int32)))]] 74 #[.val (.int p1), .val (.int p2), .val (.int p3), .val (.int p4), .val (.int (1 : Int32)), .val (.int z0), .val (.int z1), .val (.int z2), .val (.ref a1), .unset] [(.int z104)]
      refine go_istore #[.val (.int p1), .val (.int p2), .val (.int p3), .val (.int p4), .val (.int (1 : Int32)), .val (.int z0), .val (.int z1), .val (.int z2), .val (.ref a1), .val (.int z104)] 76 rfl at_74 rfl rfl ?_
      refine go_goto 191 (by decide) rfl at_76 ?_
      refine go_aload 193 rfl at_191 rfl rfl ?_
      refine Go.front 3 (Nat.le_of_ble_eq_true rfl) ?_
      refine Go.front 1 (Nat.le_of_ble_eq_true rfl) ?_
      show Go B0 Z a0 h0 _ 4 8 [ar a4 .byte [(.int (nar .byte ((z0 >>> ((0 : Int32) &&& 31)).toInt8.toInt32))), (.int (nar .byte ((z0 >>> ((8 : Int32) &&& 31)).toInt8.toInt32)))], ob a1 "java/lang/String" [("java/lang/String", "value", "[B", (.ref a4)), ("java/lang/String", "coder", "B", (.int (1 : Int32)))], ar a2 .char [(.int z0)], ar a5 .byte [(.int (0 : Int32))]] 193 #[.val (.int p1), .val (.int p2), .val (.int p3), .val (.int p4), .val (.int (1 : Int32)), .val (.int z0), .val (.int z1), .val (.int z2), .val (.ref a1), .val (.int z104)] [(.ref a1)]
      refine go_callS 196 rfl at_193 (wd hw 26 rfl) (wd hw 27 rfl) (wd hw 28 rfl) (wd hw 29 rfl) (by decide) (Met.frame [ar a2 .char [(.int z0)], ar a5 .byte [(.int (0 : Int32))]] (mt35 Z a0 hw h0 zc r99 SS z0 h_0 a4 a1)) (argsL := [(.ref a1)]) (rest := []) rfl (ps := [(.object "java/lang/String")]) (by decide +kernel) rfl rfl 0 rfl (by decide) (by decide) (by decide) (by decide) ?_
      rintro _ _ ⟨_, ⟨z105, rfl, rfl, hz105⟩, rfl⟩
      show Go B0 Z a0 h0 _ 4 8 [ar a4 .byte [(.int (nar .byte ((z0 >>> ((0 : Int32) &&& 31)).toInt8.toInt32))), (.int (nar .byte ((z0 >>> ((8 : Int32) &&& 31)).toInt8.toInt32)))], ob a1 "java/lang/String" [("java/lang/String", "value", "[B", (.ref a4)), ("java/lang/String", "coder", "B", (.int (1 : Int32)))], ar a2 .char [(.int z0)], ar a5 .byte [(.int (0 : Int32))]] 196 #[.val (.int p1), .val (.int p2), .val (.int p3), .val (.int p4), .val (.int (1 : Int32)), .val (.int z0), .val (.int z1), .val (.int z2), .val (.ref a1), .val (.int z104)] [(.int z105)]
      refine go_iload 198 rfl at_196 rfl ?_
      refine go_icmp 205 201 rfl (by decide) rfl at_198 rfl (fun (hc198 : z105.toInt ≠ z104.toInt) => absurd hc198 (by omega)) (fun (hc198 : ¬ (z105.toInt ≠ z104.toInt)) => ?_)
      refine go_iconst (1 : Int32) 202 rfl at_201 rfl ?_
      refine go_goto 206 (by decide) rfl at_202 ?_
      exact go_ireturn at_206 rfl (Or.inr (Or.inl rfl)) rfl rfl (by decide) (by decide) rfl
  · rw [e4]
    show Go B0 Z a0 h0 _ 0 0 [] 23 #[.val (.int p1), .val (.int p2), .val (.int p3), .val (.int p4), .val (.int (2 : Int32)), .val (.int z0), .val (.int z1), .val (.int z2), .unset, .unset] []
    refine go_iload 25 rfl at_23 rfl ?_
    refine go_if 46 28 rfl (by decide) rfl at_25 rfl (fun (hc25 : (2 : Int) ≠ 0) => ?_) (fun (hc25 : ¬ ((2 : Int) ≠ 0)) => absurd hc25 (by decide))
    refine go_iload 48 rfl at_46 rfl ?_
    refine go_iconst (1 : Int32) 49 rfl at_48 rfl ?_
    refine go_icmp 79 52 rfl (by decide) rfl at_49 rfl (fun (hc49 : (2 : Int) ≠ (1 : Int)) => ?_) (fun (hc49 : ¬ ((2 : Int) ≠ (1 : Int))) => absurd hc49 (by decide))
    refine go_iload 81 rfl at_79 rfl ?_
    refine go_iconst (2 : Int32) 82 rfl at_81 rfl ?_
    refine go_icmp 133 85 rfl (by decide) rfl at_82 rfl (fun (hc82 : (2 : Int) ≠ (2 : Int)) => absurd hc82 (by decide)) (fun (hc82 : ¬ ((2 : Int) ≠ (2 : Int))) => ?_)
    refine go_new 88 rfl at_85 (wd hw 4 rfl) (wd hw 5 rfl) (wd hw 6 rfl) (by decide) (by decide) [("java/lang/String", "value", "[B", .null), ("java/lang/String", "coder", "B", (.int (0 : Int32)))] ⟨⟨Or.inr (wd hw 20 rfl), _, rfl, rfl⟩, ⟨⟨Or.inr (wd hw 21 rfl), _, rfl, rfl⟩, trivial⟩⟩ (by decide) (fun a6 => ?_)
    show Go B0 Z a0 h0 _ 1 4 [ob a6 "java/lang/String" [("java/lang/String", "value", "[B", .null), ("java/lang/String", "coder", "B", (.int (0 : Int32)))]] 88 #[.val (.int p1), .val (.int p2), .val (.int p3), .val (.int p4), .val (.int (2 : Int32)), .val (.int z0), .val (.int z1), .val (.int z2), .unset, .unset] [(.ref a6)]
    refine go_dup 89 rfl at_88 rfl rfl ?_
    refine go_iconst (2 : Int32) 90 rfl at_89 rfl ?_
    refine go_newarr 92 rfl at_90 rfl (wd hw 7 rfl) (by decide) 2 (by decide) (by decide) (by decide) (by decide) (fun a7 => ?_)
    show Go B0 Z a0 h0 _ 2 6 [ob a6 "java/lang/String" [("java/lang/String", "value", "[B", .null), ("java/lang/String", "coder", "B", (.int (0 : Int32)))], ar a7 .char [(.int (0 : Int32)), (.int (0 : Int32))]] 92 #[.val (.int p1), .val (.int p2), .val (.int p3), .val (.int p4), .val (.int (2 : Int32)), .val (.int z0), .val (.int z1), .val (.int z2), .unset, .unset] [(.ref a7), (.ref a6), (.ref a6)]
    refine go_dup 93 rfl at_92 rfl rfl ?_
    refine go_iconst (0 : Int32) 94 rfl at_93 rfl ?_
    refine go_iload 96 rfl at_94 rfl ?_
    refine go_castore 1 97 rfl at_96 rfl rfl (by decide) (Nat.le_of_ble_eq_true rfl) ?_
    show Go B0 Z a0 h0 _ 2 6 [ob a6 "java/lang/String" [("java/lang/String", "value", "[B", .null), ("java/lang/String", "coder", "B", (.int (0 : Int32)))], ar a7 .char [(.int (nar .char z0)), (.int (0 : Int32))]] 97 #[.val (.int p1), .val (.int p2), .val (.int p3), .val (.int p4), .val (.int (2 : Int32)), .val (.int z0), .val (.int z1), .val (.int z2), .unset, .unset] [(.ref a7), (.ref a6), (.ref a6)]
    refine go_dup 98 rfl at_97 rfl rfl ?_
    refine go_iconst (1 : Int32) 99 rfl at_98 rfl ?_
    refine go_iload 101 rfl at_99 rfl ?_
    refine go_castore 1 102 rfl at_101 rfl rfl (by decide) (Nat.le_of_ble_eq_true rfl) ?_
    show Go B0 Z a0 h0 _ 2 6 [ob a6 "java/lang/String" [("java/lang/String", "value", "[B", .null), ("java/lang/String", "coder", "B", (.int (0 : Int32)))], ar a7 .char [(.int (nar .char z0)), (.int (nar .char z1))]] 102 #[.val (.int p1), .val (.int p2), .val (.int p3), .val (.int p4), .val (.int (2 : Int32)), .val (.int z0), .val (.int z1), .val (.int z2), .unset, .unset] [(.ref a7), (.ref a6), (.ref a6)]
    simp only [nar_z z0 r0, nar_z z1 r1]
    show Go B0 Z a0 h0 _ 2 6 [ob a6 "java/lang/String" [("java/lang/String", "value", "[B", .null), ("java/lang/String", "coder", "B", (.int (0 : Int32)))], ar a7 .char [(.int z0), (.int z1)]] 102 #[.val (.int p1), .val (.int p2), .val (.int p3), .val (.int p4), .val (.int (2 : Int32)), .val (.int z0), .val (.int z1), .val (.int z2), .unset, .unset] [(.ref a7), (.ref a6), (.ref a6)]
    by_cases g0 : z0.toInt ≤ 255
    · by_cases g1 : z1.toInt ≤ 255
      · have h_0 := r0
        have h_1 := r1
        refine go_callI 105 rfl at_102 rfl (wd hw 8 rfl) (wd hw 9 rfl) (wd hw 6 rfl) (wd hw 10 rfl) (by decide) (mt46 Z a0 hw h0 zc r99 SS z0 z1 h_0 h_1 g0 g1 a6 a7) (argsL := [(.ref a7)]) (rest := [(.ref a6)]) rfl (ret := none) (ps := [(.array .char)]) (by decide +kernel) rfl rfl 1 rfl (by decide) (by decide) (by decide) (by decide) ?_
        rintro _ _ ⟨a8, rfl, rfl⟩
        show Go B0 Z a0 h0 _ 3 8 [ar a8 .byte [(.int (nar .byte (z0.toInt8.toInt32))), (.int (nar .byte (z1.toInt8.toInt32)))], ar a7 .char [(.int z0), (.int z1)], ob a6 "java/lang/String" [("java/lang/String", "value", "[B", (.ref a8)), ("java/lang/String", "coder", "B", (.int (0 : Int32)))]] 105 #[.val (.int p1), .val (.int p2), .val (.int p3), .val (.int p4), .val (.int (2 : Int32)), .val (.int z0), .val (.int z1), .val (.int z2), .unset, .unset] [(.ref a6)]
        refine go_astore #[.val (.int p1), .val (.int p2), .val (.int p3), .val (.int p4), .val (.int (2 : Int32)), .val (.int z0), .val (.int z1), .val (.int z2), .val (.ref a6), .unset] 107 rfl at_105 rfl rfl rfl ?_
        refine go_iload 109 rfl at_107 rfl ?_
        refine go_callS 112 rfl at_109 (wd hw 51 rfl) (wd hw 52 rfl) (wd hw 2 rfl) (wd hw 53 rfl) (by decide) (m_ok Z a0 hw h0 [ar a8 .byte [(.int (nar .byte (z0.toInt8.toInt32))), (.int (nar .byte (z1.toInt8.toInt32)))], ar a7 .char [(.int z0), (.int z1)], ob a6 "java/lang/String" [("java/lang/String", "value", "[B", (.ref a8)), ("java/lang/String", "coder", "B", (.int (0 : Int32)))]] z0) (argsL := [(.int z0)]) (rest := []) rfl (ps := [.char]) (by decide +kernel) rfl rfl 0 rfl (by decide) (by decide) (by decide) (by decide) ?_
        rintro _ _ ⟨z107, rfl, rfl, hz107⟩
        show Go B0 Z a0 h0 _ 3 8 [ar a8 .byte [(.int (nar .byte (z0.toInt8.toInt32))), (.int (nar .byte (z1.toInt8.toInt32)))], ar a7 .char [(.int z0), (.int z1)], ob a6 "java/lang/String" [("java/lang/String", "value", "[B", (.ref a8)), ("java/lang/String", "coder", "B", (.int (0 : Int32)))]] 112 #[.val (.int p1), .val (.int p2), .val (.int p3), .val (.int p4), .val (.int (2 : Int32)), .val (.int z0), .val (.int z1), .val (.int z2), .val (.ref a6), .unset] [(.int z107)]
        refine go_if 127 115 rfl (by decide) rfl at_112 rfl (fun (hc112_50 : z107.toInt = 0) => ?_) (fun (hc112_50 : ¬ (z107.toInt = 0)) => ?_)
        · refine go_iconst (0 : Int32) 128 rfl at_127 rfl ?_
          refine go_istore #[.val (.int p1), .val (.int p2), .val (.int p3), .val (.int p4), .val (.int (2 : Int32)), .val (.int z0), .val (.int z1), .val (.int z2), .val (.ref a6), .val (.int (0 : Int32))] 130 rfl at_128 rfl rfl ?_
          refine go_goto 191 (by decide) rfl at_130 ?_
          refine go_aload 193 rfl at_191 rfl rfl ?_
          refine Go.front 2 (Nat.le_of_ble_eq_true rfl) ?_
          refine Go.front 1 (Nat.le_of_ble_eq_true rfl) ?_
          show Go B0 Z a0 h0 _ 3 8 [ar a8 .byte [(.int (nar .byte (z0.toInt8.toInt32))), (.int (nar .byte (z1.toInt8.toInt32)))], ob a6 "java/lang/String" [("java/lang/String", "value", "[B", (.ref a8)), ("java/lang/String", "coder", "B", (.int (0 : Int32)))], ar a7 .char [(.int z0), (.int z1)]] 193 #[.val (.int p1), .val (.int p2), .val (.int p3), .val (.int p4), .val (.int (2 : Int32)), .val (.int z0), .val (.int z1), .val (.int z2), .val (.ref a6), .val (.int (0 : Int32))] [(.ref a6)]
          refine go_callS 196 rfl at_193 (wd hw 26 rfl) (wd hw 27 rfl) (wd hw 28 rfl) (wd hw 29 rfl) (by decide) (Met.frame [ar a7 .char [(.int z0), (.int z1)]] (mt52 Z a0 hw h0 zc r99 SS z0 z1 h_0 h_1 g0 g1 a8 a6)) (argsL := [(.ref a6)]) (rest := []) rfl (ps := [(.object "java/lang/String")]) (by decide +kernel) rfl rfl 0 rfl (by decide) (by decide) (by decide) (by decide) ?_
          rintro _ _ ⟨_, ⟨z108, rfl, rfl, hz108⟩, rfl⟩
          show Go B0 Z a0 h0 _ 3 8 [ar a8 .byte [(.int (nar .byte (z0.toInt8.toInt32))), (.int (nar .byte (z1.toInt8.toInt32)))], ob a6 "java/lang/String" [("java/lang/String", "value", "[B", (.ref a8)), ("java/lang/String", "coder", "B", (.int (0 : Int32)))], ar a7 .char [(.int z0), (.int z1)]] 196 #[.val (.int p1), .val (.int p2), .val (.int p3), .val (.int p4), .val (.int (2 : Int32)), .val (.int z0), .val (.int z1), .val (.int z2), .val (.ref a6), .val (.int (0 : Int32))] [(.int z108)]
          refine go_iload 198 rfl at_196 rfl ?_
          refine go_icmp 205 201 rfl (by decide) rfl at_198 rfl (fun (hc198 : z108.toInt ≠ (0 : Int)) => absurd hc198 (by omega)) (fun (hc198 : ¬ (z108.toInt ≠ (0 : Int))) => ?_)
          refine go_iconst (1 : Int32) 202 rfl at_201 rfl ?_
          refine go_goto 206 (by decide) rfl at_202 ?_
          exact go_ireturn at_206 rfl (Or.inr (Or.inl rfl)) rfl rfl (by decide) (by decide) rfl
        · refine go_iload 117 rfl at_115 rfl ?_
          refine go_callS 120 rfl at_117 (wd hw 51 rfl) (wd hw 52 rfl) (wd hw 2 rfl) (wd hw 53 rfl) (by decide) (m_ok Z a0 hw h0 [ar a8 .byte [(.int (nar .byte (z0.toInt8.toInt32))), (.int (nar .byte (z1.toInt8.toInt32)))], ar a7 .char [(.int z0), (.int z1)], ob a6 "java/lang/String" [("java/lang/String", "value", "[B", (.ref a8)), ("java/lang/String", "coder", "B", (.int (0 : Int32)))]] z1) (argsL := [(.int z1)]) (rest := []) rfl (ps := [.char]) (by decide +kernel) rfl rfl 0 rfl (by decide) (by decide) (by decide) (by decide) ?_
          rintro _ _ ⟨z111, rfl, rfl, hz111⟩
          show Go B0 Z a0 h0 _ 3 8 [ar a8 .byte [(.int (nar .byte (z0.toInt8.toInt32))), (.int (nar .byte (z1.toInt8.toInt32)))], ar a7 .char [(.int z0), (.int z1)], ob a6 "java/lang/String" [("java/lang/String", "value", "[B", (.ref a8)), ("java/lang/String", "coder", "B", (.int (0 : Int32)))]] 120 #[.val (.int p1), .val (.int p2), .val (.int p3), .val (.int p4), .val (.int (2 : Int32)), .val (.int z0), .val (.int z1), .val (.int z2), .val (.ref a6), .unset] [(.int z111)]
          refine go_if 127 123 rfl (by decide) rfl at_120 rfl (fun (hc120_65 : z111.toInt = 0) => ?_) (fun (hc120_65 : ¬ (z111.toInt = 0)) => ?_)
          · refine go_iconst (0 : Int32) 128 rfl at_127 rfl ?_
            refine go_istore #[.val (.int p1), .val (.int p2), .val (.int p3), .val (.int p4), .val (.int (2 : Int32)), .val (.int z0), .val (.int z1), .val (.int z2), .val (.ref a6), .val (.int (0 : Int32))] 130 rfl at_128 rfl rfl ?_
            refine go_goto 191 (by decide) rfl at_130 ?_
            refine go_aload 193 rfl at_191 rfl rfl ?_
            refine Go.front 2 (Nat.le_of_ble_eq_true rfl) ?_
            refine Go.front 1 (Nat.le_of_ble_eq_true rfl) ?_
            show Go B0 Z a0 h0 _ 3 8 [ar a8 .byte [(.int (nar .byte (z0.toInt8.toInt32))), (.int (nar .byte (z1.toInt8.toInt32)))], ob a6 "java/lang/String" [("java/lang/String", "value", "[B", (.ref a8)), ("java/lang/String", "coder", "B", (.int (0 : Int32)))], ar a7 .char [(.int z0), (.int z1)]] 193 #[.val (.int p1), .val (.int p2), .val (.int p3), .val (.int p4), .val (.int (2 : Int32)), .val (.int z0), .val (.int z1), .val (.int z2), .val (.ref a6), .val (.int (0 : Int32))] [(.ref a6)]
            refine go_callS 196 rfl at_193 (wd hw 26 rfl) (wd hw 27 rfl) (wd hw 28 rfl) (wd hw 29 rfl) (by decide) (Met.frame [ar a7 .char [(.int z0), (.int z1)]] (mt52 Z a0 hw h0 zc r99 SS z0 z1 h_0 h_1 g0 g1 a8 a6)) (argsL := [(.ref a6)]) (rest := []) rfl (ps := [(.object "java/lang/String")]) (by decide +kernel) rfl rfl 0 rfl (by decide) (by decide) (by decide) (by decide) ?_
            rintro _ _ ⟨_, ⟨z112, rfl, rfl, hz112⟩, rfl⟩
            show Go B0 Z a0 h0 _ 3 8 [ar a8 .byte [(.int (nar .byte (z0.toInt8.toInt32))), (.int (nar .byte (z1.toInt8.toInt32)))], ob a6 "java/lang/String" [("java/lang/String", "value", "[B", (.ref a8)), ("java/lang/String", "coder", "B", (.int (0 : Int32)))], ar a7 .char [(.int z0), (.int z1)]] 196 #[.val (.int p1), .val (.int p2), .val (.int p3), .val (.int p4), .val (.int (2 : Int32)), .val (.int z0), .val (.int z1), .val (.int z2), .val (.ref a6), .val (.int (0 : Int32))] [(.int z112)]
            refine go_iload 198 rfl at_196 rfl ?_
            refine go_icmp 205 201 rfl (by decide) rfl at_198 rfl (fun (hc198 : z112.toInt ≠ (0 : Int)) => absurd hc198 (by omega)) (fun (hc198 : ¬ (z112.toInt ≠ (0 : Int))) => ?_)
            refine go_iconst (1 : Int32) 202 rfl at_201 rfl ?_
            refine go_goto 206 (by decide) rfl at_202 ?_
            exact go_ireturn at_206 rfl (Or.inr (Or.inl rfl)) rfl rfl (by decide) (by decide) rfl
          · refine go_iconst (1 : Int32) 124 rfl at_123 rfl ?_
            refine go_goto 128 (by decide) rfl at_124 ?_
            refine go_istore #[.val (.int p1), .val (.int p2), .val (.int p3), .val (.int p4), .val (.int (2 : Int32)), .val (.int z0), .val (.int z1), .val (.int z2), .val (.ref a6), .val (.int (1 : Int32))] 130 rfl at_128 rfl rfl ?_
            refine go_goto 191 (by decide) rfl at_130 ?_
            refine go_aload 193 rfl at_191 rfl rfl ?_
            refine Go.front 2 (Nat.le_of_ble_eq_true rfl) ?_
            refine Go.front 1 (Nat.le_of_ble_eq_true rfl) ?_
            show Go B0 Z a0 h0 _ 3 8 [ar a8 .byte [(.int (nar .byte (z0.toInt8.toInt32))), (.int (nar .byte (z1.toInt8.toInt32)))], ob a6 "java/lang/String" [("java/lang/String", "value", "[B", (.ref a8)), ("java/lang/String", "coder", "B", (.int (0 : Int32)))], ar a7 .char [(.int z0), (.int z1)]] 193 #[.val (.int p1), .val (.int p2), .val (.int p3), .val (.int p4), .val (.int (2 : Int32)), .val (.int z0), .val (.int z1), .val (.int z2), .val (.ref a6), .val (.int (1 : Int32))] [(.ref a6)]
            refine go_callS 196 rfl at_193 (wd hw 26 rfl) (wd hw 27 rfl) (wd hw 28 rfl) (wd hw 29 rfl) (by decide) (Met.frame [ar a7 .char [(.int z0), (.int z1)]] (mt52 Z a0 hw h0 zc r99 SS z0 z1 h_0 h_1 g0 g1 a8 a6)) (argsL := [(.ref a6)]) (rest := []) rfl (ps := [(.object "java/lang/String")]) (by decide +kernel) rfl rfl 0 rfl (by decide) (by decide) (by decide) (by decide) ?_
            rintro _ _ ⟨_, ⟨z113, rfl, rfl, hz113⟩, rfl⟩
            show Go B0 Z a0 h0 _ 3 8 [ar a8 .byte [(.int (nar .byte (z0.toInt8.toInt32))), (.int (nar .byte (z1.toInt8.toInt32)))], ob a6 "java/lang/String" [("java/lang/String", "value", "[B", (.ref a8)), ("java/lang/String", "coder", "B", (.int (0 : Int32)))], ar a7 .char [(.int z0), (.int z1)]] 196 #[.val (.int p1), .val (.int p2), .val (.int p3), .val (.int p4), .val (.int (2 : Int32)), .val (.int z0), .val (.int z1), .val (.int z2), .val (.ref a6), .val (.int (1 : Int32))] [(.int z113)]
            refine go_iload 198 rfl at_196 rfl ?_
            refine go_icmp 205 201 rfl (by decide) rfl at_198 rfl (fun (hc198 : z113.toInt ≠ (1 : Int)) => absurd hc198 (by omega)) (fun (hc198 : ¬ (z113.toInt ≠ (1 : Int))) => ?_)
            refine go_iconst (1 : Int32) 202 rfl at_201 rfl ?_
            refine go_goto 206 (by decide) rfl at_202 ?_
            exact go_ireturn at_206 rfl (Or.inr (Or.inl rfl)) rfl rfl (by decide) (by decide) rfl
      · have h_0 := r0
        have h_1 := r1
        refine go_callI 105 rfl at_102 rfl (wd hw 8 rfl) (wd hw 9 rfl) (wd hw 6 rfl) (wd hw 10 rfl) (by decide) (mt67 Z a0 hw h0 zc r99 SS z0 z1 h_0 h_1 g0 g1 a6 a7) (argsL := [(.ref a7)]) (rest := [(.ref a6)]) rfl (ret := none) (ps := [(.array .char)]) (by decide +kernel) rfl rfl 1 rfl (by decide) (by decide) (by decide) (by decide) ?_
        rintro _ _ ⟨a9, a10, rfl, rfl⟩
        show Go B0 Z a0 h0 _ 4 12 (mem3 a9 z0 z1 a7 a10 a6) 105 #[.val (.int p1), .val (.int p2), .val (.int p3), .val (.int p4), .val (.int (2 : Int32)), .val (.int z0), .val (.int z1), .val (.int z2), .unset, .unset] [(.ref a6)]
        refine go_astore #[.val (.int p1), .val (.int p2), .val (.int p3), .val (.int p4), .val (.int (2 : Int32)), .val (.int z0), .val (.int z1), .val (.int z2), .val (.ref a6), .unset] 107 rfl at_105 rfl rfl rfl ?_
        refine go_iload 109 rfl at_107 rfl ?_
        refine go_callS 112 rfl at_109 (wd hw 51 rfl) (wd hw 52 rfl) (wd hw 2 rfl) (wd hw 53 rfl) (by decide) (m_ok Z a0 hw h0 (mem3 a9 z0 z1 a7 a10 a6) z0) (argsL := [(.int z0)]) (rest := []) rfl (ps := [.char]) (by decide +kernel) rfl rfl 0 rfl (by decide) (by decide) (by decide) (by decide) ?_
        rintro _ _ ⟨z114, rfl, rfl, hz114⟩
        show Go B0 Z a0 h0 _ 4 12 (mem3 a9 z0 z1 a7 a10 a6) 112 #[.val (.int p1), .val (.int p2), .val (.int p3), .val (.int p4), .val (.int (2 : Int32)), .val (.int z0), .val (.int z1), .val (.int z2), .val (.ref a6), .unset] [(.int z114)]
        refine go_if 127 115 rfl (by decide) rfl at_112 rfl (fun (hc112_77 : z114.toInt = 0) => ?_) (fun (hc112_77 : ¬ (z114.toInt = 0)) => ?_)
        · refine go_iconst (0 : Int32) 128 rfl at_127 rfl ?_
          refine go_istore #[.val (.int p1), .val (.int p2), .val (.int p3), .val (.int p4), .val (.int (2 : Int32)), .val (.int z0), .val (.int z1), .val (.int z2), .val (.ref a6), .val (.int (0 : Int32))] 130 rfl at_128 rfl rfl ?_
          refine go_goto 191 (by decide) rfl at_130 ?_
          refine go_aload 193 rfl at_191 rfl rfl ?_
          refine Go.front 3 (Nat.le_of_ble_eq_true rfl) ?_
          refine Go.front 1 (Nat.le_of_ble_eq_true rfl) ?_
          show Go B0 Z a0 h0 _ 4 12 (mem4 a9 z0 z1 a6 a7 a10) 193 #[.val (.int p1), .val (.int p2), .val (.int p3), .val (.int p4), .val (.int (2 : Int32)), .val (.int z0), .val (.int z1), .val (.int z2), .val (.ref a6), .val (.int (0 : Int32))] [(.ref a6)]
          refine go_callS 196 rfl at_193 (wd hw 26 rfl) (wd hw 27 rfl) (wd hw 28 rfl) (wd hw 29 rfl) (by decide) (Met.frame [ar a7 .char [(.int z0), (.int z1)], ar a10 .byte [(.int (nar .byte (z0.toInt8.toInt32))), (.int (0 : Int32))]] (mt79 Z a0 hw h0 zc r99 SS z0 z1 h_0 h_1 a9 a6)) (argsL := [(.ref a6)]) (rest := []) rfl (ps := [(.object "java/lang/String")]) (by decide +kernel) rfl rfl 0 rfl (by decide) (by decide) (by decide) (by decide) ?_
          rintro _ _ ⟨_, ⟨z115, rfl, rfl, hz115⟩, rfl⟩
          show Go B0 Z a0 h0 _ 4 12 (mem4 a9 z0 z1 a6 a7 a10) 196 #[.val (.int p1), .val (.int p2), .val (.int p3), .val (.int p4), .val (.int (2 : Int32)), .val (.int z0), .val (.int z1), .val (.int z2), .val (.ref a6), .val (.int (0 : Int32))] [(.int z115)]
          refine go_iload 198 rfl at_196 rfl ?_
          refine go_icmp 205 201 rfl (by decide) rfl at_198 rfl (fun (hc198 : z115.toInt ≠ (0 : Int)) => absurd hc198 (by omega)) (fun (hc198 : ¬ (z115.toInt ≠ (0 : Int))) => ?_)
          refine go_iconst (1 : Int32) 202 rfl at_201 rfl ?_
          refine go_goto 206 (by decide) rfl at_202 ?_
          exact go_ireturn at_206 rfl (Or.inr (Or.inl rfl)) rfl rfl (by decide) (by decide) rfl
        · refine go_iload 117 rfl at_115 rfl ?_
          refine go_callS 120 rfl at_117 (wd hw 51 rfl) (wd hw 52 rfl) (wd hw 2 rfl) (wd hw 53 rfl) (by decide) (m_ok Z a0 hw h0 (mem3 a9 z0 z1 a7 a10 a6) z1) (argsL := [(.int z1)]) (rest := []) rfl (ps := [.char]) (by decide +kernel) rfl rfl 0 rfl (by decide) (by decide) (by decide) (by decide) ?_
          rintro _ _ ⟨z118, rfl, rfl, hz118⟩
          show Go B0 Z a0 h0 _ 4 12 (mem3 a9 z0 z1 a7 a10 a6) 120 #[.val (.int p1), .val (.int p2), .val (.int p3), .val (.int p4), .val (.int (2 : Int32)), .val (.int z0), .val (.int z1), .val (.int z2), .val (.ref a6), .unset] [(.int z118)]
          refine go_if 127 123 rfl (by decide) rfl at_120 rfl (fun (hc120_96 : z118.toInt = 0) => ?_) (fun (hc120_96 : ¬ (z118.toInt = 0)) => ?_)
          · refine go_iconst (0 : Int32) 128 rfl at_127 rfl ?_
            refine go_istore #[.val (.int p1), .val (.int p2), .val (.int p3), .val (.int p4), .val (.int (2 : Int32)), .val (.int z0), .val (.int z1), .val (.int z2), .val (.ref a6), .val (.int (0 : Int32))] 130 rfl at_128 rfl rfl ?_
            refine go_goto 191 (by decide) rfl at_130 ?_
            refine go_aload 193 rfl at_191 rfl rfl ?_
            refine Go.front 3 (Nat.le_of_ble_eq_true rfl) ?_
            refine Go.front 1 (Nat.le_of_ble_eq_true rfl) ?_
            show Go B0 Z a0 h0 _ 4 12 (mem4 a9 z0 z1 a6 a7 a10) 193 #[.val (.int p1), .val (.int p2), .val (.int p3), .val (.int p4), .val (.int (2 : Int32)), .val (.int z0), .val (.int z1), .val (.int z2), .val (.ref a6), .val (.int (0 : Int32))] [(.ref a6)]
            refine go_callS 196 rfl at_193 (wd hw 26 rfl) (wd hw 27 rfl) (wd hw 28 rfl) (wd hw 29 rfl) (by decide) (Met.frame [ar a7 .char [(.int z0), (.int z1)], ar a10 .byte [(.int (nar .byte (z0.toInt8.toInt32))), (.int (0 : Int32))]] (mt79 Z a0 hw h0 zc r99 SS z0 z1 h_0 h_1 a9 a6)) (argsL := [(.ref a6)]) (rest := []) rfl (ps := [(.object "java/lang/String")]) (by decide +kernel) rfl rfl 0 rfl (by decide) (by decide) (by decide) (by decide) ?_
            rintro _ _ ⟨_, ⟨z119, rfl, rfl, hz119⟩, rfl⟩
            show Go B0 Z a0 h0 _ 4 12 (mem4 a9 z0 z1 a6 a7 a10) 196 #[.val (.int p1), .val (.int p2), .val (.int p3), .val (.int p4), .val (.int (2 : Int32)), .val (.int z0), .val (.int z1), .val (.int z2), .val (.ref a6), .val (.int (0 : Int32))] [(.int z119)]
            refine go_iload 198 rfl at_196 rfl ?_
            refine go_icmp 205 201 rfl (by decide) rfl at_198 rfl (fun (hc198 : z119.toInt ≠ (0 : Int)) => absurd hc198 (by omega)) (fun (hc198 : ¬ (z119.toInt ≠ (0 : Int))) => ?_)
            refine go_iconst (1 : Int32) 202 rfl at_201 rfl ?_
            refine go_goto 206 (by decide) rfl at_202 ?_
            exact go_ireturn at_206 rfl (Or.inr (Or.inl rfl)) rfl rfl (by decide) (by decide) rfl
          · refine go_iconst (1 : Int32) 124 rfl at_123 rfl ?_
            refine go_goto 128 (by decide) rfl at_124 ?_
            refine go_istore #[.val (.int p1), .val (.int p2), .val (.int p3), .val (.int p4), .val (.int (2 : Int32)), .val (.int z0), .val (.int z1), .val (.int z2), .val (.ref a6), .val (.int (1 : Int32))] 130 rfl at_128 rfl rfl ?_
            refine go_goto 191 (by decide) rfl at_130 ?_
            refine go_aload 193 rfl at_191 rfl rfl ?_
            refine Go.front 3 (Nat.le_of_ble_eq_true rfl) ?_
            refine Go.front 1 (Nat.le_of_ble_eq_true rfl) ?_
            show Go B0 Z a0 h0 _ 4 12 (mem4 a9 z0 z1 a6 a7 a10) 193 #[.val (.int p1), .val (.int p2), .val (.int p3), .val (.int p4), .val (.int (2 : Int32)), .val (.int z0), .val (.int z1), .val (.int z2), .val (.ref a6), .val (.int (1 : Int32))] [(.ref a6)]
            refine go_callS 196 rfl at_193 (wd hw 26 rfl) (wd hw 27 rfl) (wd hw 28 rfl) (wd hw 29 rfl) (by decide) (Met.frame [ar a7 .char [(.int z0), (.int z1)], ar a10 .byte [(.int (nar .byte (z0.toInt8.toInt32))), (.int (0 : Int32))]] (mt79 Z a0 hw h0 zc r99 SS z0 z1 h_0 h_1 a9 a6)) (argsL := [(.ref a6)]) (rest := []) rfl (ps := [(.object "java/lang/String")]) (by decide +kernel) rfl rfl 0 rfl (by decide) (by decide) (by decide) (by decide) ?_
            rintro _ _ ⟨_, ⟨z120, rfl, rfl, hz120⟩, rfl⟩
            show Go B0 Z a0 h0 _ 4 12 (mem4 a9 z0 z1 a6 a7 a10) 196 #[.val (.int p1), .val (.int p2), .val (.int p3), .val (.int p4), .val (.int (2 : Int32)), .val (.int z0), .val (.int z1), .val (.int z2), .val (.ref a6), .val (.int (1 : Int32))] [(.int z120)]
            refine go_iload 198 rfl at_196 rfl ?_
            refine go_icmp 205 201 rfl (by decide) rfl at_198 rfl (fun (hc198 : z120.toInt ≠ (1 : Int)) => absurd hc198 (by omega)) (fun (hc198 : ¬ (z120.toInt ≠ (1 : Int))) => ?_)
            refine go_iconst (1 : Int32) 202 rfl at_201 rfl ?_
            refine go_goto 206 (by decide) rfl at_202 ?_
            exact go_ireturn at_206 rfl (Or.inr (Or.inl rfl)) rfl rfl (by decide) (by decide) rfl
    · have h_0 := r0
      have h_1 := r1
      refine go_callI 105 rfl at_102 rfl (wd hw 8 rfl) (wd hw 9 rfl) (wd hw 6 rfl) (wd hw 10 rfl) (by decide) (mt98 Z a0 hw h0 zc r99 SS z0 z1 h_0 h_1 g0 a6 a7) (argsL := [(.ref a7)]) (rest := [(.ref a6)]) rfl (ret := none) (ps := [(.array .char)]) (by decide +kernel) rfl rfl 1 rfl (by decide) (by decide) (by decide) (by decide) ?_
      rintro _ _ ⟨a11, a12, rfl, rfl⟩
      show Go B0 Z a0 h0 _ 4 12 (mem8 a11 z0 z1 a7 a12 a6) 105 #[.val (.int p1), .val (.int p2), .val (.int p3), .val (.int p4), .val (.int (2 : Int32)), .val (.int z0), .val (.int z1), .val (.int z2), .unset, .unset] [(.ref a6)]
      refine go_astore #[.val (.int p1), .val (.int p2), .val (.int p3), .val (.int p4), .val (.int (2 : Int32)), .val (.int z0), .val (.int z1), .val (.int z2), .val (.ref a6), .unset] 107 rfl at_105 rfl rfl rfl ?_
      refine go_iload 109 rfl at_107 rfl ?_
      refine go_callS 112 rfl at_109 (wd hw 51 rfl) (wd hw 52 rfl) (wd hw 2 rfl) (wd hw 53 rfl) (by decide) (m_ok Z a0 hw h0 (mem8 a11 z0 z1 a7 a12 a6) z0) (argsL := [(.int z0)]) (rest := []) rfl (ps := [.char]) (by decide +kernel) rfl rfl 0 rfl (by decide) (by decide) (by decide) (by decide) ?_
      rintro _ _ ⟨z121, rfl, rfl, hz121⟩
      show Go B0 Z a0 h0 _ 4 12 (mem8 a11 z0 z1 a7 a12 a6) 112 #[.val (.int p1), .val (.int p2), .val (.int p3), .val (.int p4), .val (.int (2 : Int32)), .val (.int z0), .val (.int z1), .val (.int z2), .val (.ref a6), .unset] [(.int z121)]
      refine go_if 127 115 rfl (by decide) rfl at_112 rfl (fun (hc112_101 : z121.toInt = 0) => ?_) (fun (hc112_101 : ¬ (z121.toInt = 0)) => ?_)
      · refine go_iconst (0 : Int32) 128 rfl at_127 rfl ?_
        refine go_istore #[.val (.int p1), .val (.int p2), .val (.int p3), .val (.int p4), .val (.int (2 : Int32)), .val (.int z0), .val (.int z1), .val (.int z2), .val (.ref a6), .val (.int (0 : Int32))] 130 rfl at_128 rfl rfl ?_
        refine go_goto 191 (by decide) rfl at_130 ?_
        refine go_aload 193 rfl at_191 rfl rfl ?_
        refine Go.front 3 (Nat.le_of_ble_eq_true rfl) ?_
        refine Go.front 1 (Nat.le_of_ble_eq_true rfl) ?_
        show Go B0 Z a0 h0 _ 4 12 (mem9 a11 z0 z1 a6 a7 a12) 193 #[.val (.int p1), .val (.int p2), .val (.int p3), .val (.int p4), .val (.int (2 : Int32)), .val (.int z0), .val (.int z1), .val (.int z2), .val (.ref a6), .val (.int (0 : Int32))] [(.ref a6)]
        refine go_callS 196 rfl at_193 (wd hw 26 rfl) (wd hw 27 rfl) (wd hw 28 rfl) (wd hw 29 rfl) (by decide) (Met.frame [ar a7 .char [(.int z0), (.int z1)], ar a12 .byte [(.int (0 : Int32)), (.int (0 : Int32))]] (mt79 Z a0 hw h0 zc r99 SS z0 z1 h_0 h_1 a11 a6)) (argsL := [(.ref a6)]) (rest := []) rfl (ps := [(.object "java/lang/String")]) (by decide +kernel) rfl rfl 0 rfl (by decide) (by decide) (by decide) (by decide) ?_
        rintro _ _ ⟨_, ⟨z122, rfl, rfl, hz122⟩, rfl⟩
        show Go B0 Z a0 h0 _ 4 12 (mem9 a11 z0 z1 a6 a7 a12) 196 #[.val (.int p1), .val (.int p2), .val (.int p3), .val (.int p4), .val (.int (2 : Int32)), .val (.int z0), .val (.int z1), .val (.int z2), .val (.ref a6), .val (.int (0 : Int32))] [(.int z122)]
        refine go_iload 198 rfl at_196 rfl ?_
        refine go_icmp 205 201 rfl (by decide) rfl at_198 rfl (fun (hc198 : z122.toInt ≠ (0 : Int)) => absurd hc198 (by omega)) (fun (hc198 : ¬ (z122.toInt ≠ (0 : Int))) => ?_)
        refine go_iconst (1 : Int32) 202 rfl at_201 rfl ?_
        refine go_goto 206 (by decide) rfl at_202 ?_
        exact go_ireturn at_206 rfl (Or.inr (Or.inl rfl)) rfl rfl (by decide) (by decide) rfl
      · refine go_iload 117 rfl at_115 rfl ?_
        refine go_callS 120 rfl at_117 (wd hw 51 rfl) (wd hw 52 rfl) (wd hw 2 rfl) (wd hw 53 rfl) (by decide) (m_ok Z a0 hw h0 (mem8 a11 z0 z1 a7 a12 a6) z1) (argsL := [(.int z1)]) (rest := []) rfl (ps := [.char]) (by decide +kernel) rfl rfl 0 rfl (by decide) (by decide) (by decide) (by decide) ?_
        rintro _ _ ⟨z123, rfl, rfl, hz123⟩
        show Go B0 Z a0 h0 _ 4 12 (mem8 a11 z0 z1 a7 a12 a6) 120 #[.val (.int p1), .val (.int p2), .val (.int p3), .val (.int p4), .val (.int (2 : Int32)), .val (.int z0), .val (.int z1), .val (.int z2), .val (.ref a6), .unset] [(.int z123)]
        refine go_if 127 123 rfl (by decide) rfl at_120 rfl (fun (hc120_102 : z123.toInt = 0) => ?_) (fun (hc120_102 : ¬ (z123.toInt = 0)) => ?_)
        · refine go_iconst (0 : Int32) 128 rfl at_127 rfl ?_
          refine go_istore #[.val (.int p1), .val (.int p2), .val (.int p3), .val (.int p4), .val (.int (2 : Int32)), .val (.int z0), .val (.int z1), .val (.int z2), .val (.ref a6), .val (.int (0 : Int32))] 130 rfl at_128 rfl rfl ?_
          refine go_goto 191 (by decide) rfl at_130 ?_
          refine go_aload 193 rfl at_191 rfl rfl ?_
          refine Go.front 3 (Nat.le_of_ble_eq_true rfl) ?_
          refine Go.front 1 (Nat.le_of_ble_eq_true rfl) ?_
          show Go B0 Z a0 h0 _ 4 12 (mem9 a11 z0 z1 a6 a7 a12) 193 #[.val (.int p1), .val (.int p2), .val (.int p3), .val (.int p4), .val (.int (2 : Int32)), .val (.int z0), .val (.int z1), .val (.int z2), .val (.ref a6), .val (.int (0 : Int32))] [(.ref a6)]
          refine go_callS 196 rfl at_193 (wd hw 26 rfl) (wd hw 27 rfl) (wd hw 28 rfl) (wd hw 29 rfl) (by decide) (Met.frame [ar a7 .char [(.int z0), (.int z1)], ar a12 .byte [(.int (0 : Int32)), (.int (0 : Int32))]] (mt79 Z a0 hw h0 zc r99 SS z0 z1 h_0 h_1 a11 a6)) (argsL := [(.ref a6)]) (rest := []) rfl (ps := [(.object "java/lang/String")]) (by decide +kernel) rfl rfl 0 rfl (by decide) (by decide) (by decide) (by decide) ?_
          rintro _ _ ⟨_, ⟨z124, rfl, rfl, hz124⟩, rfl⟩
          show Go B0 Z a0 h0 _ 4 12 (mem9 a11 z0 z1 a6 a7 a12) 196 #[.val (.int p1), .val (.int p2), .val (.int p3), .val (.int p4), .val (.int (2 : Int32)), .val (.int z0), .val (.int z1), .val (.int z2), .val (.ref a6), .val (.int (0 : Int32))] [(.int z124)]
          refine go_iload 198 rfl at_196 rfl ?_
          refine go_icmp 205 201 rfl (by decide) rfl at_198 rfl (fun (hc198 : z124.toInt ≠ (0 : Int)) => absurd hc198 (by omega)) (fun (hc198 : ¬ (z124.toInt ≠ (0 : Int))) => ?_)
          refine go_iconst (1 : Int32) 202 rfl at_201 rfl ?_
          refine go_goto 206 (by decide) rfl at_202 ?_
          exact go_ireturn at_206 rfl (Or.inr (Or.inl rfl)) rfl rfl (by decide) (by decide) rfl
        · refine go_iconst (1 : Int32) 124 rfl at_123 rfl ?_
          refine go_goto 128 (by decide) rfl at_124 ?_
          refine go_istore #[.val (.int p1), .val (.int p2), .val (.int p3), .val (.int p4), .val (.int (2 : Int32)), .val (.int z0), .val (.int z1), .val (.int z2), .val (.ref a6), .val (.int (1 : Int32))] 130 rfl at_128 rfl rfl ?_
          refine go_goto 191 (by decide) rfl at_130 ?_
          refine go_aload 193 rfl at_191 rfl rfl ?_
          refine Go.front 3 (Nat.le_of_ble_eq_true rfl) ?_
          refine Go.front 1 (Nat.le_of_ble_eq_true rfl) ?_
          show Go B0 Z a0 h0 _ 4 12 (mem9 a11 z0 z1 a6 a7 a12) 193 #[.val (.int p1), .val (.int p2), .val (.int p3), .val (.int p4), .val (.int (2 : Int32)), .val (.int z0), .val (.int z1), .val (.int z2), .val (.ref a6), .val (.int (1 : Int32))] [(.ref a6)]
          refine go_callS 196 rfl at_193 (wd hw 26 rfl) (wd hw 27 rfl) (wd hw 28 rfl) (wd hw 29 rfl) (by decide) (Met.frame [ar a7 .char [(.int z0), (.int z1)], ar a12 .byte [(.int (0 : Int32)), (.int (0 : Int32))]] (mt79 Z a0 hw h0 zc r99 SS z0 z1 h_0 h_1 a11 a6)) (argsL := [(.ref a6)]) (rest := []) rfl (ps := [(.object "java/lang/String")]) (by decide +kernel) rfl rfl 0 rfl (by decide) (by decide) (by decide) (by decide) ?_
          rintro _ _ ⟨_, ⟨z125, rfl, rfl, hz125⟩, rfl⟩
          show Go B0 Z a0 h0 _ 4 12 (mem9 a11 z0 z1 a6 a7 a12) 196 #[.val (.int p1), .val (.int p2), .val (.int p3), .val (.int p4), .val (.int (2 : Int32)), .val (.int z0), .val (.int z1), .val (.int z2), .val (.ref a6), .val (.int (1 : Int32))] [(.int z125)]
          refine go_iload 198 rfl at_196 rfl ?_
          refine go_icmp 205 201 rfl (by decide) rfl at_198 rfl (fun (hc198 : z125.toInt ≠ (1 : Int)) => absurd hc198 (by omega)) (fun (hc198 : ¬ (z125.toInt ≠ (1 : Int))) => ?_)
          refine go_iconst (1 : Int32) 202 rfl at_201 rfl ?_
          refine go_goto 206 (by decide) rfl at_202 ?_
          exact go_ireturn at_206 rfl (Or.inr (Or.inl rfl)) rfl rfl (by decide) (by decide) rfl
  · rw [e4]
    show Go B0 Z a0 h0 _ 0 0 [] 23 #[.val (.int p1), .val (.int p2), .val (.int p3), .val (.int p4), .val (.int (3 : Int32)), .val (.int z0), .val (.int z1), .val (.int z2), .unset, .unset] []
    refine go_iload 25 rfl at_23 rfl ?_
    refine go_if 46 28 rfl (by decide) rfl at_25 rfl (fun (hc25 : (3 : Int) ≠ 0) => ?_) (fun (hc25 : ¬ ((3 : Int) ≠ 0)) => absurd hc25 (by decide))
    refine go_iload 48 rfl at_46 rfl ?_
    refine go_iconst (1 : Int32) 49 rfl at_48 rfl ?_
    refine go_icmp 79 52 rfl (by decide) rfl at_49 rfl (fun (hc49 : (3 : Int) ≠ (1 : Int)) => ?_) (fun (hc49 : ¬ ((3 : Int) ≠ (1 : Int))) => absurd hc49 (by decide))
    refine go_iload 81 rfl at_79 rfl ?_
    refine go_iconst (2 : Int32) 82 rfl at_81 rfl ?_
    refine go_icmp 133 85 rfl (by decide) rfl at_82 rfl (fun (hc82 : (3 : Int) ≠ (2 : Int)) => ?_) (fun (hc82 : ¬ ((3 : Int) ≠ (2 : Int))) => absurd hc82 (by decide))
    refine go_new 136 rfl at_133 (wd hw 4 rfl) (wd hw 5 rfl) (wd hw 6 rfl) (by decide) (by decide) [("java/lang/String", "value", "[B", .null), ("java/lang/String", "coder", "B", (.int (0 : Int32)))] ⟨⟨Or.inr (wd hw 20 rfl), _, rfl, rfl⟩, ⟨⟨Or.inr (wd hw 21 rfl), _, rfl, rfl⟩, trivial⟩⟩ (by decide) (fun a13 => ?_)
    show Go B0 Z a0 h0 _ 1 4 [ob a13 "java/lang/String" [("java/lang/String", "value", "[B", .null), ("java/lang/String", "coder", "B", (.int (0 : Int32)))]] 136 #[.val (.int p1), .val (.int p2), .val (.int p3), .val (.int p4), .val (.int (3 : Int32)), .val (.int z0), .val (.int z1), .val (.int z2), .unset, .unset] [(.ref a13)]
    refine go_dup 137 rfl at_136 rfl rfl ?_
    refine go_iconst (3 : Int32) 138 rfl at_137 rfl ?_
    refine go_newarr 140 rfl at_138 rfl (wd hw 7 rfl) (by decide) 3 (by decide) (by decide) (by decide) (by decide) (fun a14 => ?_)
    show Go B0 Z a0 h0 _ 2 7 [ob a13 "java/lang/String" [("java/lang/String", "value", "[B", .null), ("java/lang/String", "coder", "B", (.int (0 : Int32)))], ar a14 .char [(.int (0 : Int32)), (.int (0 : Int32)), (.int (0 : Int32))]] 140 #[.val (.int p1), .val (.int p2), .val (.int p3), .val (.int p4), .val (.int (3 : Int32)), .val (.int z0), .val (.int z1), .val (.int z2), .unset, .unset] [(.ref a14), (.ref a13), (.ref a13)]
    refine go_dup 141 rfl at_140 rfl rfl ?_
    refine go_iconst (0 : Int32) 142 rfl at_141 rfl ?_
    refine go_iload 144 rfl at_142 rfl ?_
    refine go_castore 1 145 rfl at_144 rfl rfl (by decide) (Nat.le_of_ble_eq_true rfl) ?_
    show Go B0 Z a0 h0 _ 2 7 [ob a13 "java/lang/String" [("java/lang/String", "value", "[B", .null), ("java/lang/String", "coder", "B", (.int (0 : Int32)))], ar a14 .char [(.int (nar .char z0)), (.int (0 : Int32)), (.int (0 : Int32))]] 145 #[.val (.int p1), .val (.int p2), .val (.int p3), .val (.int p4), .val (.int (3 : Int32)), .val (.int z0), .val (.int z1), .val (.int z2), .unset, .unset] [(.ref a14), (.ref a13), (.ref a13)]
    refine go_dup 146 rfl at_145 rfl rfl ?_
    refine go_iconst (1 : Int32) 147 rfl at_146 rfl ?_
    refine go_iload 149 rfl at_147 rfl ?_
    refine go_castore 1 150 rfl at_149 rfl rfl (by decide) (Nat.le_of_ble_eq_true rfl) ?_
    show Go B0 Z a0 h0 _ 2 7 [ob a13 "java/lang/String" [("java/lang/String", "value", "[B", .null), ("java/lang/String", "coder", "B", (.int (0 : Int32)))], ar a14 .char [(.int (nar .char z0)), (.int (nar .char z1)), (.int (0 : Int32))]] 150 #[.val (.int p1), .val (.int p2), .val (.int p3), .val (.int p4), .val (.int (3 : Int32)), .val (.int z0), .val (.int z1), .val (.int z2), .unset, .unset] [(.ref a14), (.ref a13), (.ref a13)]
    refine go_dup 151 rfl at_150 rfl rfl ?_
    refine go_iconst (2 : Int32) 152 rfl at_151 rfl ?_
    refine go_iload 154 rfl at_152 rfl ?_
    refine go_castore 1 155 rfl at_154 rfl rfl (by decide) (Nat.le_of_ble_eq_true rfl) ?_
    show Go B0 Z a0 h0 _ 2 7 [ob a13 "java/lang/String" [("java/lang/String", "value", "[B", .null), ("java/lang/String", "coder", "B", (.int (0 : Int32)))], ar a14 .char [(.int (nar .char z0)), (.int (nar .char z1)), (.int (nar .char z2))]] 155 #[.val (.int p1), .val (.int p2), .val (.int p3), .val (.int p4), .val (.int (3 : Int32)), .val (.int z0), .val (.int z1), .val (.int z2), .unset, .unset] [(.ref a14), (.ref a13), (.ref a13)]
    simp only [nar_z z0 r0, nar_z z1 r1, nar_z z2 r2]
    show Go B0 Z a0 h0 _ 2 7 [ob a13 "java/lang/String" [("java/lang/String", "value", "[B", .null), ("java/lang/String", "coder", "B", (.int (0 : Int32)))], ar a14 .char [(.int z0), (.int z1), (.int z2)]] 155 #[.val (.int p1), .val (.int p2), .val (.int p3), .val (.int p4), .val (.int (3 : Int32)), .val (.int z0), .val (.int z1), .val (.int z2), .unset, .unset] [(.ref a14), (.ref a13), (.ref a13)]
    by_cases g0 : z0.toInt ≤ 255
    · by_cases g1 : z1.toInt ≤ 255
      · by_cases g2 : z2.toInt ≤ 255
        · have h_0 := r0
          have h_1 := r1
          have h_2 := r2
          refine go_callI 158 rfl at_155 rfl (wd hw 8 rfl) (wd hw 9 rfl) (wd hw 6 rfl) (wd hw 10 rfl) (by decide) (mt104 Z a0 hw h0 zc r99 SS z0 z1 z2 h_0 h_1 h_2 g0 g1 g2 a13 a14) (argsL := [(.ref a14)]) (rest := [(.ref a13)]) rfl (ret := none) (ps := [(.array .char)]) (by decide +kernel) rfl rfl 1 rfl (by decide) (by decide) (by decide) (by decide) ?_
          rintro _ _ ⟨a15, rfl, rfl⟩
          show Go B0 Z a0 h0 _ 3 10 [ar a15 .byte [(.int (nar .byte (z0.toInt8.toInt32))), (.int (nar .byte (z1.toInt8.toInt32))), (.int (nar .byte (z2.toInt8.toInt32)))], ar a14 .char [(.int z0), (.int z1), (.int z2)], ob a13 "java/lang/String" [("java/lang/String", "value", "[B", (.ref a15)), ("java/lang/String", "coder", "B", (.int (0 : Int32)))]] 158 #[.val (.int p1), .val (.int p2), .val (.int p3), .val (.int p4), .val (.int (3 : Int32)), .val (.int z0), .val (.int z1), .val (.int z2), .unset, .unset] [(.ref a13)]
          refine go_astore #[.val (.int p1), .val (.int p2), .val (.int p3), .val (.int p4), .val (.int (3 : Int32)), .val (.int z0), .val (.int z1), .val (.int z2), .val (.ref a13), .unset] 160 rfl at_158 rfl rfl rfl ?_
          refine go_iload 162 rfl at_160 rfl ?_
          refine go_callS 165 rfl at_162 (wd hw 51 rfl) (wd hw 52 rfl) (wd hw 2 rfl) (wd hw 53 rfl) (by decide) (m_ok Z a0 hw h0 [ar a15 .byte [(.int (nar .byte (z0.toInt8.toInt32))), (.int (nar .byte (z1.toInt8.toInt32))), (.int (nar .byte (z2.toInt8.toInt32)))], ar a14 .char [(.int z0), (.int z1), (.int z2)], ob a13 "java/lang/String" [("java/lang/String", "value", "[B", (.ref a15)), ("java/lang/String", "coder", "B", (.int (0 : Int32)))]] z0) (argsL := [(.int z0)]) (rest := []) rfl (ps := [.char]) (by decide +kernel) rfl rfl 0 rfl (by decide) (by decide) (by decide) (by decide) ?_
          rintro _ _ ⟨z126, rfl, rfl, hz126⟩
          show Go B0 Z a0 h0 _ 3 10 [ar a15 .byte [(.int (nar .byte (z0.toInt8.toInt32))), (.int (nar .byte (z1.toInt8.toInt32))), (.int (nar .byte (z2.toInt8.toInt32)))], ar a14 .char [(.int z0), (.int z1), (.int z2)], ob a13 "java/lang/String" [("java/lang/String", "value", "[B", (.ref a15)), ("java/lang/String", "coder", "B", (.int (0 : Int32)))]] 165 #[.val (.int p1), .val (.int p2), .val (.int p3), .val (.int p4), .val (.int (3 : Int32)), .val (.int z0), .val (.int z1), .val (.int z2), .val (.ref a13), .unset] [(.int z126)]
          refine go_if 188 168 rfl (by decide) rfl at_165 rfl (fun (hc165_108 : z126.toInt = 0) => ?_) (fun (hc165_108 : ¬ (z126.toInt = 0)) => ?_)
          · refine go_iconst (0 : Int32) 189 rfl at_188 rfl ?_
            refine go_istore #[.val (.int p1), .val (.int p2), .val (.int p3), .val (.int p4), .val (.int (3 : Int32)), .val (.int z0), .val (.int z1), .val (.int z2), .val (.ref a13), .val (.int (0 : Int32))] 191 rfl at_189 rfl rfl ?_
            refine go_aload 193 rfl at_191 rfl rfl ?_
            refine Go.front 2 (Nat.le_of_ble_eq_true rfl) ?_
            refine Go.front 1 (Nat.le_of_ble_eq_true rfl) ?_
            show Go B0 Z a0 h0 _ 3 10 [ar a15 .byte [(.int (nar .byte (z0.toInt8.toInt32))), (.int (nar .byte (z1.toInt8.toInt32))), (.int (nar .byte (z2.toInt8.toInt32)))], ob a13 "java/lang/String" [("java/lang/String", "value", "[B", (.ref a15)), ("java/lang/String", "coder", "B", (.int (0 : Int32)))], ar a14 .char [(.int z0), (.int z1), (.int z2)]] 193 #[.val (.int p1), .val (.int p2), .val (.int p3), .val (.int p4), .val (.int (3 : Int32)), .val (.int z0), .val (.int z1), .val (.int z2), .val (.ref a13), .val (.int (0 : Int32))] [(.ref a13)]
            refine go_callS 196 rfl at_193 (wd hw 26 rfl) (wd hw 27 rfl) (wd hw 28 rfl) (wd hw 29 rfl) (by decide) (Met.frame [ar a14 .char [(.int z0), (.int z1), (.int z2)]] (mt110 Z a0 hw h0 zc r99 SS z0 z1 z2 h_0 h_1 h_2 g0 g1 g2 a15 a13)) (argsL := [(.ref a13)]) (rest := []) rfl (ps := [(.object "java/lang/String")]) (by decide +kernel) rfl rfl 0 rfl (by decide) (by decide) (by decide) (by decide) ?_
            rintro _ _ ⟨_, ⟨z127, rfl, rfl, hz127⟩, rfl⟩
            show Go B0 Z a0 h0 _ 3 10 [ar a15 .byte [(.int (nar .byte (z0.toInt8.toInt32))), (.int (nar .byte (z1.toInt8.toInt32))), (.int (nar .byte (z2.toInt8.toInt32)))], ob a13 "java/lang/String" [("java/lang/String", "value", "[B", (.ref a15)), ("java/lang/String", "coder", "B", (.int (0 : Int32)))], ar a14 .char [(.int z0), (.int z1), (.int z2)]] 196 #[.val (.int p1), .val (.int p2), .val (.int p3), .val (.int p4), .val (.int (3 : Int32)), .val (.int z0), .val (.int z1), .val (.int z2), .val (.ref a13), .val (.int (0 : Int32))] [(.int z127)]
            refine go_iload 198 rfl at_196 rfl ?_
            refine go_icmp 205 201 rfl (by decide) rfl at_198 rfl (fun (hc198 : z127.toInt ≠ (0 : Int)) => absurd hc198 (by omega)) (fun (hc198 : ¬ (z127.toInt ≠ (0 : Int))) => ?_)
            refine go_iconst (1 : Int32) 202 rfl at_201 rfl ?_
            refine go_goto 206 (by decide) rfl at_202 ?_
            exact go_ireturn at_206 rfl (Or.inr (Or.inl rfl)) rfl rfl (by decide) (by decide) rfl
          · refine go_iload 170 rfl at_168 rfl ?_
            refine go_callS 173 rfl at_170 (wd hw 51 rfl) (wd hw 52 rfl) (wd hw 2 rfl) (wd hw 53 rfl) (by decide) (m_ok Z a0 hw h0 [ar a15 .byte [(.int (nar .byte (z0.toInt8.toInt32))), (.int (nar .byte (z1.toInt8.toInt32))), (.int (nar .byte (z2.toInt8.toInt32)))], ar a14 .char [(.int z0), (.int z1), (.int z2)], ob a13 "java/lang/String" [("java/lang/String", "value", "[B", (.ref a15)), ("java/lang/String", "coder", "B", (.int (0 : Int32)))]] z1) (argsL := [(.int z1)]) (rest := []) rfl (ps := [.char]) (by decide +kernel) rfl rfl 0 rfl (by decide) (by decide) (by decide) (by decide) ?_
            rintro _ _ ⟨z131, rfl, rfl, hz131⟩
            show Go B0 Z a0 h0 _ 3 10 [ar a15 .byte [(.int (nar .byte (z0.toInt8.toInt32))), (.int (nar .byte (z1.toInt8.toInt32))), (.int (nar .byte (z2.toInt8.toInt32)))], ar a14 .char [(.int z0), (.int z1), (.int z2)], ob a13 "java/lang/String" [("java/lang/String", "value", "[B", (.ref a15)), ("java/lang/String", "coder", "B", (.int (0 : Int32)))]] 173 #[.val (.int p1), .val (.int p2), .val (.int p3), .val (.int p4), .val (.int (3 : Int32)), .val (.int z0), .val (.int z1), .val (.int z2), .val (.ref a13), .unset] [(.int z131)]
            refine go_if 188 176 rfl (by decide) rfl at_173 rfl (fun (hc173_128 : z131.toInt = 0) => ?_) (fun (hc173_128 : ¬ (z131.toInt = 0)) => ?_)
            · refine go_iconst (0 : Int32) 189 rfl at_188 rfl ?_
              refine go_istore #[.val (.int p1), .val (.int p2), .val (.int p3), .val (.int p4), .val (.int (3 : Int32)), .val (.int z0), .val (.int z1), .val (.int z2), .val (.ref a13), .val (.int (0 : Int32))] 191 rfl at_189 rfl rfl ?_
              refine go_aload 193 rfl at_191 rfl rfl ?_
              refine Go.front 2 (Nat.le_of_ble_eq_true rfl) ?_
              refine Go.front 1 (Nat.le_of_ble_eq_true rfl) ?_
              show Go B0 Z a0 h0 _ 3 10 [ar a15 .byte [(.int (nar .byte (z0.toInt8.toInt32))), (.int (nar .byte (z1.toInt8.toInt32))), (.int (nar .byte (z2.toInt8.toInt32)))], ob a13 "java/lang/String" [("java/lang/String", "value", "[B", (.ref a15)), ("java/lang/String", "coder", "B", (.int (0 : Int32)))], ar a14 .char [(.int z0), (.int z1), (.int z2)]] 193 #[.val (.int p1), .val (.int p2), .val (.int p3), .val (.int p4), .val (.int (3 : Int32)), .val (.int z0), .val (.int z1), .val (.int z2), .val (.ref a13), .val (.int (0 : Int32))] [(.ref a13)]
              refine go_callS 196 rfl at_193 (wd hw 26 rfl) (wd hw 27 rfl) (wd hw 28 rfl) (wd hw 29 rfl) (by decide) (Met.frame [ar a14 .char [(.int z0), (.int z1), (.int z2)]] (mt110 Z a0 hw h0 zc r99 SS z0 z1 z2 h_0 h_1 h_2 g0 g1 g2 a15 a13)) (argsL := [(.ref a13)]) (rest := []) rfl (ps := [(.object "java/lang/String")]) (by decide +kernel) rfl rfl 0 rfl (by decide) (by decide) (by decide) (by decide) ?_
              rintro _ _ ⟨_, ⟨z132, rfl, rfl, hz132⟩, rfl⟩
              show Go B0 Z a0 h0 _ 3 10 [ar a15 .byte [(.int (nar .byte (z0.toInt8.toInt32))), (.int (nar .byte (z1.toInt8.toInt32))), (.int (nar .byte (z2.toInt8.toInt32)))], ob a13 "java/lang/String" [("java/lang/String", "value", "[B", (.ref a15)), ("java/lang/String", "coder", "B", (.int (0 : Int32)))], ar a14 .char [(.int z0), (.int z1), (.int z2)]] 196 #[.val (.int p1), .val (.int p2), .val (.int p3), .val (.int p4), .val (.int (3 : Int32)), .val (.int z0), .val (.int z1), .val (.int z2), .val (.ref a13), .val (.int (0 : Int32))] [(.int z132)]
              refine go_iload 198 rfl at_196 rfl ?_
              refine go_icmp 205 201 rfl (by decide) rfl at_198 rfl (fun (hc198 : z132.toInt ≠ (0 : Int)) => absurd hc198 (by omega)) (fun (hc198 : ¬ (z132.toInt ≠ (0 : Int))) => ?_)
              refine go_iconst (1 : Int32) 202 rfl at_201 rfl ?_
              refine go_goto 206 (by decide) rfl at_202 ?_
              exact go_ireturn at_206 rfl (Or.inr (Or.inl rfl)) rfl rfl (by decide) (by decide) rfl
            · refine go_iload 178 rfl at_176 rfl ?_
              refine go_callS 181 rfl at_178 (wd hw 51 rfl) (wd hw 52 rfl) (wd hw 2 rfl) (wd hw 53 rfl) (by decide) (m_ok Z a0 hw h0 [ar a15 .byte [(.int (nar .byte (z0.toInt8.toInt32))), (.int (nar .byte (z1.toInt8.toInt32))), (.int (nar .byte (z2.toInt8.toInt32)))], ar a14 .char [(.int z0), (.int z1), (.int z2)], ob a13 "java/lang/String" [("java/lang/String", "value", "[B", (.ref a15)), ("java/lang/String", "coder", "B", (.int (0 : Int32)))]] z2) (argsL := [(.int z2)]) (rest := []) rfl (ps := [.char]) (by decide +kernel) rfl rfl 0 rfl (by decide) (by decide) (by decide) (by decide) ?_
              rintro _ _ ⟨z133, rfl, rfl, hz133⟩
              show Go B0 Z a0 h0 _ 3 10 [ar a15 .byte [(.int (nar .byte (z0.toInt8.toInt32))), (.int (nar .byte (z1.toInt8.toInt32))), (.int (nar .byte (z2.toInt8.toInt32)))], ar a14 .char [(.int z0), (.int z1), (.int z2)], ob a13 "java/lang/String" [("java/lang/String", "value", "[B", (.ref a15)), ("java/lang/String", "coder", "B", (.int (0 : Int32)))]] 181 #[.val (.int p1), .val (.int p2), .val (.int p3), .val (.int p4), .val (.int (3 : Int32)), .val (.int z0), .val (.int z1), .val (.int z2), .val (.ref a13), .unset] [(.int z133)]
              refine go_if 188 184 rfl (by decide) rfl at_181 rfl (fun (hc181_129 : z133.toInt = 0) => ?_) (fun (hc181_129 : ¬ (z133.toInt = 0)) => ?_)
              · refine go_iconst (0 : Int32) 189 rfl at_188 rfl ?_
                refine go_istore #[.val (.int p1), .val (.int p2), .val (.int p3), .val (.int p4), .val (.int (3 : Int32)), .val (.int z0), .val (.int z1), .val (.int z2), .val (.ref a13), .val (.int (0 : Int32))] 191 rfl at_189 rfl rfl ?_
                refine go_aload 193 rfl at_191 rfl rfl ?_
                refine Go.front 2 (Nat.le_of_ble_eq_true rfl) ?_
                refine Go.front 1 (Nat.le_of_ble_eq_true rfl) ?_
                show Go B0 Z a0 h0 _ 3 10 [ar a15 .byte [(.int (nar .byte (z0.toInt8.toInt32))), (.int (nar .byte (z1.toInt8.toInt32))), (.int (nar .byte (z2.toInt8.toInt32)))], ob a13 "java/lang/String" [("java/lang/String", "value", "[B", (.ref a15)), ("java/lang/String", "coder", "B", (.int (0 : Int32)))], ar a14 .char [(.int z0), (.int z1), (.int z2)]] 193 #[.val (.int p1), .val (.int p2), .val (.int p3), .val (.int p4), .val (.int (3 : Int32)), .val (.int z0), .val (.int z1), .val (.int z2), .val (.ref a13), .val (.int (0 : Int32))] [(.ref a13)]
                refine go_callS 196 rfl at_193 (wd hw 26 rfl) (wd hw 27 rfl) (wd hw 28 rfl) (wd hw 29 rfl) (by decide) (Met.frame [ar a14 .char [(.int z0), (.int z1), (.int z2)]] (mt110 Z a0 hw h0 zc r99 SS z0 z1 z2 h_0 h_1 h_2 g0 g1 g2 a15 a13)) (argsL := [(.ref a13)]) (rest := []) rfl (ps := [(.object "java/lang/String")]) (by decide +kernel) rfl rfl 0 rfl (by decide) (by decide) (by decide) (by decide) ?_
                rintro _ _ ⟨_, ⟨z134, rfl, rfl, hz134⟩, rfl⟩
                show Go B0 Z a0 h0 _ 3 10 [ar a15 .byte [(.int (nar .byte (z0.toInt8.toInt32))), (.int (nar .byte (z1.toInt8.toInt32))), (.int (nar .byte (z2.toInt8.toInt32)))], ob a13 "java/lang/String" [("java/lang/String", "value", "[B", (.ref a15)), ("java/lang/String", "coder", "B", (.int (0 : Int32)))], ar a14 .char [(.int z0), (.int z1), (.int z2)]] 196 #[.val (.int p1), .val (.int p2), .val (.int p3), .val (.int p4), .val (.int (3 : Int32)), .val (.int z0), .val (.int z1), .val (.int z2), .val (.ref a13), .val (.int (0 : Int32))] [(.int z134)]
                refine go_iload 198 rfl at_196 rfl ?_
                refine go_icmp 205 201 rfl (by decide) rfl at_198 rfl (fun (hc198 : z134.toInt ≠ (0 : Int)) => absurd hc198 (by omega)) (fun (hc198 : ¬ (z134.toInt ≠ (0 : Int))) => ?_)
                refine go_iconst (1 : Int32) 202 rfl at_201 rfl ?_
                refine go_goto 206 (by decide) rfl at_202 ?_
                exact go_ireturn at_206 rfl (Or.inr (Or.inl rfl)) rfl rfl (by decide) (by decide) rfl
              · refine go_iconst (1 : Int32) 185 rfl at_184 rfl ?_
                refine go_goto 189 (by decide) rfl at_185 ?_
                refine go_istore #[.val (.int p1), .val (.int p2), .val (.int p3), .val (.int p4), .val (.int (3 : Int32)), .val (.int z0), .val (.int z1), .val (.int z2), .val (.ref a13), .val (.int (1 : Int32))] 191 rfl at_189 rfl rfl ?_
                refine go_aload 193 rfl at_191 rfl rfl ?_
                refine Go.front 2 (Nat.le_of_ble_eq_true rfl) ?_
                refine Go.front 1 (Nat.le_of_ble_eq_true rfl) ?_
                show Go B0 Z a0 h0 _ 3 10 [ar a15 .byte [(.int (nar .byte (z0.toInt8.toInt32))), (.int (nar .byte (z1.toInt8.toInt32))), (.int (nar .byte (z2.toInt8.toInt32)))], ob a13 "java/lang/String" [("java/lang/String", "value", "[B", (.ref a15)), ("java/lang/String", "coder", "B", (.int (0 : Int32)))], ar a14 .char [(.int z0), (.int z1), (.int z2)]] 193 #[.val (.int p1), .val (.int p2), .val (.int p3), .val (.int p4), .val (.int (3 : Int32)), .val (.int z0), .val (.int z1), .val (.int z2), .val (.ref a13), .val (.int (1 : Int32))] [(.ref a13)]
                refine go_callS 196 rfl at_193 (wd hw 26 rfl) (wd hw 27 rfl) (wd hw 28 rfl) (wd hw 29 rfl) (by decide) (Met.frame [ar a14 .char [(.int z0), (.int z1), (.int z2)]] (mt110 Z a0 hw h0 zc r99 SS z0 z1 z2 h_0 h_1 h_2 g0 g1 g2 a15 a13)) (argsL := [(.ref a13)]) (rest := []) rfl (ps := [(.object "java/lang/String")]) (by decide +kernel) rfl rfl 0 rfl (by decide) (by decide) (by decide) (by decide) ?_
                rintro _ _ ⟨_, ⟨z135, rfl, rfl, hz135⟩, rfl⟩
                show Go B0 Z a0 h0 _ 3 10 [ar a15 .byte [(.int (nar .byte (z0.toInt8.toInt32))), (.int (nar .byte (z1.toInt8.toInt32))), (.int (nar .byte (z2.toInt8.toInt32)))], ob a13 "java/lang/String" [("java/lang/String", "value", "[B", (.ref a15)), ("java/lang/String", "coder", "B", (.int (0 : Int32)))], ar a14 .char [(.int z0), (.int z1), (.int z2)]] 196 #[.val (.int p1), .val (.int p2), .val (.int p3), .val (.int p4), .val (.int (3 : Int32)), .val (.int z0), .val (.int z1), .val (.int z2), .val (.ref a13), .val (.int (1 : Int32))] [(.int z135)]
                refine go_iload 198 rfl at_196 rfl ?_
                refine go_icmp 205 201 rfl (by decide) rfl at_198 rfl (fun (hc198 : z135.toInt ≠ (1 : Int)) => absurd hc198 (by omega)) (fun (hc198 : ¬ (z135.toInt ≠ (1 : Int))) => ?_)
                refine go_iconst (1 : Int32) 202 rfl at_201 rfl ?_
                refine go_goto 206 (by decide) rfl at_202 ?_
                exact go_ireturn at_206 rfl (Or.inr (Or.inl rfl)) rfl rfl (by decide) (by decide) rfl
        · have h_0 := r0
          have h_1 := r1
          have h_2 := r2
          refine go_callI 158 rfl at_155 rfl (wd hw 8 rfl) (wd hw 9 rfl) (wd hw 6 rfl) (wd hw 10 rfl) (by decide) (mt131 Z a0 hw h0 zc r99 SS z0 z1 z2 h_0 h_1 h_2 g0 g1 g2 a13 a14) (argsL := [(.ref a14)]) (rest := [(.ref a13)]) rfl (ret := none) (ps := [(.array .char)]) (by decide +kernel) rfl rfl 1 rfl (by decide) (by decide) (by decide) (by decide) ?_
          rintro _ _ ⟨a16, a17, rfl, rfl⟩
          show Go B0 Z a0 h0 _ 4 16 (mem15 a16 z0 z1 z2 a14 a17 a13) 158 #[.val (.int p1), .val (.int p2), .val (.int p3), .val (.int p4), .val (.int (3 : Int32)), .val (.int z0), .val (.int z1), .val (.int z2), .unset, .unset] [(.ref a13)]
          refine go_astore #[.val (.int p1), .val (.int p2), .val (.int p3), .val (.int p4), .val (.int (3 : Int32)), .val (.int z0), .val (.int z1), .val (.int z2), .val (.ref a13), .unset] 160 rfl at_158 rfl rfl rfl ?_
          refine go_iload 162 rfl at_160 rfl ?_
          refine go_callS 165 rfl at_162 (wd hw 51 rfl) (wd hw 52 rfl) (wd hw 2 rfl) (wd hw 53 rfl) (by decide) (m_ok Z a0 hw h0 (mem15 a16 z0 z1 z2 a14 a17 a13) z0) (argsL := [(.int z0)]) (rest := []) rfl (ps := [.char]) (by decide +kernel) rfl rfl 0 rfl (by decide) (by decide) (by decide) (by decide) ?_
          rintro _ _ ⟨z136, rfl, rfl, hz136⟩
          show Go B0 Z a0 h0 _ 4 16 (mem15 a16 z0 z1 z2 a14 a17 a13) 165 #[.val (.int p1), .val (.int p2), .val (.int p3), .val (.int p4), .val (.int (3 : Int32)), .val (.int z0), .val (.int z1), .val (.int z2), .val (.ref a13), .unset] [(.int z136)]
          refine go_if 188 168 rfl (by decide) rfl at_165 rfl (fun (hc165_142 : z136.toInt = 0) => ?_) (fun (hc165_142 : ¬ (z136.toInt = 0)) => ?_)
          · refine go_iconst (0 : Int32) 189 rfl at_188 rfl ?_
            refine go_istore #[.val (.int p1), .val (.int p2), .val (.int p3), .val (.int p4), .val (.int (3 : Int32)), .val (.int z0), .val (.int z1), .val (.int z2), .val (.ref a13), .val (.int (0 : Int32))] 191 rfl at_189 rfl rfl ?_
            refine go_aload 193 rfl at_191 rfl rfl ?_
            refine Go.front 3 (Nat.le_of_ble_eq_true rfl) ?_
            refine Go.front 1 (Nat.le_of_ble_eq_true rfl) ?_
            show Go B0 Z a0 h0 _ 4 16 (mem16 a16 z0 z1 z2 a13 a14 a17) 193 #[.val (.int p1), .val (.int p2), .val (.int p3), .val (.int p4), .val (.int (3 : Int32)), .val (.int z0), .val (.int z1), .val (.int z2), .val (.ref a13), .val (.int (0 : Int32))] [(.ref a13)]
            refine go_callS 196 rfl at_193 (wd hw 26 rfl) (wd hw 27 rfl) (wd hw 28 rfl) (wd hw 29 rfl) (by decide) (Met.frame [ar a14 .char [(.int z0), (.int z1), (.int z2)], ar a17 .byte [(.int (nar .byte (z0.toInt8.toInt32))), (.int (nar .byte (z1.toInt8.toInt32))), (.int (0 : Int32))]] (mt144 Z a0 hw h0 zc r99 SS z0 z1 z2 h_0 h_1 h_2 a16 a13)) (argsL := [(.ref a13)]) (rest := []) rfl (ps := [(.object "java/lang/String")]) (by decide +kernel) rfl rfl 0 rfl (by decide) (by decide) (by decide) (by decide) ?_
            rintro _ _ ⟨_, ⟨z137, rfl, rfl, hz137⟩, rfl⟩
            show Go B0 Z a0 h0 _ 4 16 (mem16 a16 z0 z1 z2 a13 a14 a17) 196 #[.val (.int p1), .val (.int p2), .val (.int p3), .val (.int p4), .val (.int (3 : Int32)), .val (.int z0), .val (.int z1), .val (.int z2), .val (.ref a13), .val (.int (0 : Int32))] [(.int z137)]
            refine go_iload 198 rfl at_196 rfl ?_
            refine go_icmp 205 201 rfl (by decide) rfl at_198 rfl (fun (hc198 : z137.toInt ≠ (0 : Int)) => absurd hc198 (by omega)) (fun (hc198 : ¬ (z137.toInt ≠ (0 : Int))) => ?_)
            refine go_iconst (1 : Int32) 202 rfl at_201 rfl ?_
            refine go_goto 206 (by decide) rfl at_202 ?_
            exact go_ireturn at_206 rfl (Or.inr (Or.inl rfl)) rfl rfl (by decide) (by decide) rfl
          · refine go_iload 170 rfl at_168 rfl ?_
            refine go_callS 173 rfl at_170 (wd hw 51 rfl) (wd hw 52 rfl) (wd hw 2 rfl) (wd hw 53 rfl) (by decide) (m_ok Z a0 hw h0 (mem15 a16 z0 z1 z2 a14 a17 a13) z1) (argsL := [(.int z1)]) (rest := []) rfl (ps := [.char]) (by decide +kernel) rfl rfl 0 rfl (by decide) (by decide) (by decide) (by decide) ?_
            rintro _ _ ⟨z141, rfl, rfl, hz141⟩
            show Go B0 Z a0 h0 _ 4 16 (mem15 a16 z0 z1 z2 a14 a17 a13) 173 #[.val (.int p1), .val (.int p2), .val (.int p3), .val (.int p4), .val (.int (3 : Int32)), .val (.int z0), .val (.int z1), .val (.int z2), .val (.ref a13), .unset] [(.int z141)]
            refine go_if 188 176 rfl (by decide) rfl at_173 rfl (fun (hc173_168 : z141.toInt = 0) => ?_) (fun (hc173_168 : ¬ (z141.toInt = 0)) => ?_)
            · refine go_iconst (0 : Int32) 189 rfl at_188 rfl ?_
              refine go_istore #[.val (.int p1), .val (.int p2), .val (.int p3), .val (.int p4), .val (.int (3 : Int32)), .val (.int z0), .val (.int z1), .val (.int z2), .val (.ref a13), .val (.int (0 : Int32))] 191 rfl at_189 rfl rfl ?_
              refine go_aload 193 rfl at_191 rfl rfl ?_
              refine Go.front 3 (Nat.le_of_ble_eq_true rfl) ?_
              refine Go.front 1 (Nat.le_of_ble_eq_true rfl) ?_
              show Go B0 Z a0 h0 _ 4 16 (mem16 a16 z0 z1 z2 a13 a14 a17) 193 #[.val (.int p1), .val (.int p2), .val (.int p3), .val (.int p4), .val (.int (3 : Int32)), .val (.int z0), .val (.int z1), .val (.int z2), .val (.ref a13), .val (.int (0 : Int32))] [(.ref a13)]
              refine go_callS 196 rfl at_193 (wd hw 26 rfl) (wd hw 27 rfl) (wd hw 28 rfl) (wd hw 29 rfl) (by decide) (Met.frame [ar a14 .char [(.int z0), (.int z1), (.int z2)], ar a17 .byte [(.int (nar .byte (z0.toInt8.toInt32))), (.int (nar .byte (z1.toInt8.toInt32))), (.int (0 : Int32))]] (mt144 Z a0 hw h0 zc r99 SS z0 z1 z2 h_0 h_1 h_2 a16 a13)) (argsL := [(.ref a13)]) (rest := []) rfl (ps := [(.object "java/lang/String")]) (by decide +kernel) rfl rfl 0 rfl (by decide) (by decide) (by decide) (by decide) ?_
              rintro _ _ ⟨_, ⟨z142, rfl, rfl, hz142⟩, rfl⟩
              show Go B0 Z a0 h0 _ 4 16 (mem16 a16 z0 z1 z2 a13 a14 a17) 196 #[.val (.int p1), .val (.int p2), .val (.int p3), .val (.int p4), .val (.int (3 : Int32)), .val (.int z0), .val (.int z1), .val (.int z2), .val (.ref a13), .val (.int (0 : Int32))] [(.int z142)]
              refine go_iload 198 rfl at_196 rfl ?_
              refine go_icmp 205 201 rfl (by decide) rfl at_198 rfl (fun (hc198 : z142.toInt ≠ (0 : Int)) => absurd hc198 (by omega)) (fun (hc198 : ¬ (z142.toInt ≠ (0 : Int))) => ?_)
              refine go_iconst (1 : Int32) 202 rfl at_201 rfl ?_
              refine go_goto 206 (by decide) rfl at_202 ?_
              exact go_ireturn at_206 rfl (Or.inr (Or.inl rfl)) rfl rfl (by decide) (by decide) rfl
            · refine go_iload 178 rfl at_176 rfl ?_
              refine go_callS 181 rfl at_178 (wd hw 51 rfl) (wd hw 52 rfl) (wd hw 2 rfl) (wd hw 53 rfl) (by decide) (m_ok Z a0 hw h0 (mem15 a16 z0 z1 z2 a14 a17 a13) z2) (argsL := [(.int z2)]) (rest := []) rfl (ps := [.char]) (by decide +kernel) rfl rfl 0 rfl (by decide) (by decide) (by decide) (by decide) ?_
              rintro _ _ ⟨z143, rfl, rfl, hz143⟩
              show Go B0 Z a0 h0 _ 4 16 (mem15 a16 z0 z1 z2 a14 a17 a13) 181 #[.val (.int p1), .val (.int p2), .val (.int p3), .val (.int p4), .val (.int (3 : Int32)), .val (.int z0), .val (.int z1), .val (.int z2), .val (.ref a13), .unset] [(.int z143)]
              refine go_if 188 184 rfl (by decide) rfl at_181 rfl (fun (hc181_169 : z143.toInt = 0) => ?_) (fun (hc181_169 : ¬ (z143.toInt = 0)) => ?_)
              · refine go_iconst (0 : Int32) 189 rfl at_188 rfl ?_
                refine go_istore #[.val (.int p1), .val (.int p2), .val (.int p3), .val (.int p4), .val (.int (3 : Int32)), .val (.int z0), .val (.int z1), .val (.int z2), .val (.ref a13), .val (.int (0 : Int32))] 191 rfl at_189 rfl rfl ?_
                refine go_aload 193 rfl at_191 rfl rfl ?_
                refine Go.front 3 (Nat.le_of_ble_eq_true rfl) ?_
                refine Go.front 1 (Nat.le_of_ble_eq_true rfl) ?_
                show Go B0 Z a0 h0 _ 4 16 (mem16 a16 z0 z1 z2 a13 a14 a17) 193 #[.val (.int p1), .val (.int p2), .val (.int p3), .val (.int p4), .val (.int (3 : Int32)), .val (.int z0), .val (.int z1), .val (.int z2), .val (.ref a13), .val (.int (0 : Int32))] [(.ref a13)]
                refine go_callS 196 rfl at_193 (wd hw 26 rfl) (wd hw 27 rfl) (wd hw 28 rfl) (wd hw 29 rfl) (by decide) (Met.frame [ar a14 .char [(.int z0), (.int z1), (.int z2)], ar a17 .byte [(.int (nar .byte (z0.toInt8.toInt32))), (.int (nar .byte (z1.toInt8.toInt32))), (.int (0 : Int32))]] (mt144 Z a0 hw h0 zc r99 SS z0 z1 z2 h_0 h_1 h_2 a16 a13)) (argsL := [(.ref a13)]) (rest := []) rfl (ps := [(.object "java/lang/String")]) (by decide +kernel) rfl rfl 0 rfl (by decide) (by decide) (by decide) (by decide) ?_
                rintro _ _ ⟨_, ⟨z144, rfl, rfl, hz144⟩, rfl⟩
                show Go B0 Z a0 h0 _ 4 16 (mem16 a16 z0 z1 z2 a13 a14 a17) 196 #[.val (.int p1), .val (.int p2), .val (.int p3), .val (.int p4), .val (.int (3 : Int32)), .val (.int z0), .val (.int z1), .val (.int z2), .val (.ref a13), .val (.int (0 : Int32))] [(.int z144)]
                refine go_iload 198 rfl at_196 rfl ?_
                refine go_icmp 205 201 rfl (by decide) rfl at_198 rfl (fun (hc198 : z144.toInt ≠ (0 : Int)) => absurd hc198 (by omega)) (fun (hc198 : ¬ (z144.toInt ≠ (0 : Int))) => ?_)
                refine go_iconst (1 : Int32) 202 rfl at_201 rfl ?_
                refine go_goto 206 (by decide) rfl at_202 ?_
                exact go_ireturn at_206 rfl (Or.inr (Or.inl rfl)) rfl rfl (by decide) (by decide) rfl
              · refine go_iconst (1 : Int32) 185 rfl at_184 rfl ?_
                refine go_goto 189 (by decide) rfl at_185 ?_
                refine go_istore #[.val (.int p1), .val (.int p2), .val (.int p3), .val (.int p4), .val (.int (3 : Int32)), .val (.int z0), .val (.int z1), .val (.int z2), .val (.ref a13), .val (.int (1 : Int32))] 191 rfl at_189 rfl rfl ?_
                refine go_aload 193 rfl at_191 rfl rfl ?_
                refine Go.front 3 (Nat.le_of_ble_eq_true rfl) ?_
                refine Go.front 1 (Nat.le_of_ble_eq_true rfl) ?_
                show Go B0 Z a0 h0 _ 4 16 (mem16 a16 z0 z1 z2 a13 a14 a17) 193 #[.val (.int p1), .val (.int p2), .val (.int p3), .val (.int p4), .val (.int (3 : Int32)), .val (.int z0), .val (.int z1), .val (.int z2), .val (.ref a13), .val (.int (1 : Int32))] [(.ref a13)]
                refine go_callS 196 rfl at_193 (wd hw 26 rfl) (wd hw 27 rfl) (wd hw 28 rfl) (wd hw 29 rfl) (by decide) (Met.frame [ar a14 .char [(.int z0), (.int z1), (.int z2)], ar a17 .byte [(.int (nar .byte (z0.toInt8.toInt32))), (.int (nar .byte (z1.toInt8.toInt32))), (.int (0 : Int32))]] (mt144 Z a0 hw h0 zc r99 SS z0 z1 z2 h_0 h_1 h_2 a16 a13)) (argsL := [(.ref a13)]) (rest := []) rfl (ps := [(.object "java/lang/String")]) (by decide +kernel) rfl rfl 0 rfl (by decide) (by decide) (by decide) (by decide) ?_
                rintro _ _ ⟨_, ⟨z145, rfl, rfl, hz145⟩, rfl⟩
                show Go B0 Z a0 h0 _ 4 16 (mem16 a16 z0 z1 z2 a13 a14 a17) 196 #[.val (.int p1), .val (.int p2), .val (.int p3), .val (.int p4), .val (.int (3 : Int32)), .val (.int z0), .val (.int z1), .val (.int z2), .val (.ref a13), .val (.int (1 : Int32))] [(.int z145)]
                refine go_iload 198 rfl at_196 rfl ?_
                refine go_icmp 205 201 rfl (by decide) rfl at_198 rfl (fun (hc198 : z145.toInt ≠ (1 : Int)) => absurd hc198 (by omega)) (fun (hc198 : ¬ (z145.toInt ≠ (1 : Int))) => ?_)
                refine go_iconst (1 : Int32) 202 rfl at_201 rfl ?_
                refine go_goto 206 (by decide) rfl at_202 ?_
                exact go_ireturn at_206 rfl (Or.inr (Or.inl rfl)) rfl rfl (by decide) (by decide) rfl
      · have h_0 := r0
        have h_1 := r1
        have h_2 := r2
        refine go_callI 158 rfl at_155 rfl (wd hw 8 rfl) (wd hw 9 rfl) (wd hw 6 rfl) (wd hw 10 rfl) (by decide) (mt171 Z a0 hw h0 zc r99 SS z0 z1 z2 h_0 h_1 h_2 g0 g1 a13 a14) (argsL := [(.ref a14)]) (rest := [(.ref a13)]) rfl (ret := none) (ps := [(.array .char)]) (by decide +kernel) rfl rfl 1 rfl (by decide) (by decide) (by decide) (by decide) ?_
        rintro _ _ ⟨a18, a19, rfl, rfl⟩
        show Go B0 Z a0 h0 _ 4 16 (mem21 a18 z0 z1 z2 a14 a19 a13) 158 #[.val (.int p1), .val (.int p2), .val (.int p3), .val (.int p4), .val (.int (3 : Int32)), .val (.int z0), .val (.int z1), .val (.int z2), .unset, .unset] [(.ref a13)]
        refine go_astore #[.val (.int p1), .val (.int p2), .val (.int p3), .val (.int p4), .val (.int (3 : Int32)), .val (.int z0), .val (.int z1), .val (.int z2), .val (.ref a13), .unset] 160 rfl at_158 rfl rfl rfl ?_
        refine go_iload 162 rfl at_160 rfl ?_
        refine go_callS 165 rfl at_162 (wd hw 51 rfl) (wd hw 52 rfl) (wd hw 2 rfl) (wd hw 53 rfl) (by decide) (m_ok Z a0 hw h0 (mem21 a18 z0 z1 z2 a14 a19 a13) z0) (argsL := [(.int z0)]) (rest := []) rfl (ps := [.char]) (by decide +kernel) rfl rfl 0 rfl (by decide) (by decide) (by decide) (by decide) ?_
        rintro _ _ ⟨z146, rfl, rfl, hz146⟩
        show Go B0 Z a0 h0 _ 4 16 (mem21 a18 z0 z1 z2 a14 a19 a13) 165 #[.val (.int p1), .val (.int p2), .val (.int p3), .val (.int p4), .val (.int (3 : Int32)), .val (.int z0), .val (.int z1), .val (.int z2), .val (.ref a13), .unset] [(.int z146)]
        refine go_if 188 168 rfl (by decide) rfl at_165 rfl (fun (hc165_174 : z146.toInt = 0) => ?_) (fun (hc165_174 : ¬ (z146.toInt = 0)) => ?_)
        · refine go_iconst (0 : Int32) 189 rfl at_188 rfl ?_
          refine go_istore #[.val (.int p1), .val (.int p2), .val (.int p3), .val (.int p4), .val (.int (3 : Int32)), .val (.int z0), .val (.int z1), .val (.int z2), .val (.ref a13), .val (.int (0 : Int32))] 191 rfl at_189 rfl rfl ?_
          refine go_aload 193 rfl at_191 rfl rfl ?_
          refine Go.front 3 (Nat.le_of_ble_eq_true rfl) ?_
          refine Go.front 1 (Nat.le_of_ble_eq_true rfl) ?_
          show Go B0 Z a0 h0 _ 4 16 (mem22 a18 z0 z1 z2 a13 a14 a19) 193 #[.val (.int p1), .val (.int p2), .val (.int p3), .val (.int p4), .val (.int (3 : Int32)), .val (.int z0), .val (.int z1), .val (.int z2), .val (.ref a13), .val (.int (0 : Int32))] [(.ref a13)]
          refine go_callS 196 rfl at_193 (wd hw 26 rfl) (wd hw 27 rfl) (wd hw 28 rfl) (wd hw 29 rfl) (by decide) (Met.frame [ar a14 .char [(.int z0), (.int z1), (.int z2)], ar a19 .byte [(.int (nar .byte (z0.toInt8.toInt32))), (.int (0 : Int32)), (.int (0 : Int32))]] (mt144 Z a0 hw h0 zc r99 SS z0 z1 z2 h_0 h_1 h_2 a18 a13)) (argsL := [(.ref a13)]) (rest := []) rfl (ps := [(.object "java/lang/String")]) (by decide +kernel) rfl rfl 0 rfl (by decide) (by decide) (by decide) (by decide) ?_
          rintro _ _ ⟨_, ⟨z147, rfl, rfl, hz147⟩, rfl⟩
          show Go B0 Z a0 h0 _ 4 16 (mem22 a18 z0 z1 z2 a13 a14 a19) 196 #[.val (.int p1), .val (.int p2), .val (.int p3), .val (.int p4), .val (.int (3 : Int32)), .val (.int z0), .val (.int z1), .val (.int z2), .val (.ref a13), .val (.int (0 : Int32))] [(.int z147)]
          refine go_iload 198 rfl at_196 rfl ?_
          refine go_icmp 205 201 rfl (by decide) rfl at_198 rfl (fun (hc198 : z147.toInt ≠ (0 : Int)) => absurd hc198 (by omega)) (fun (hc198 : ¬ (z147.toInt ≠ (0 : Int))) => ?_)
          refine go_iconst (1 : Int32) 202 rfl at_201 rfl ?_
          refine go_goto 206 (by decide) rfl at_202 ?_
          exact go_ireturn at_206 rfl (Or.inr (Or.inl rfl)) rfl rfl (by decide) (by decide) rfl
        · refine go_iload 170 rfl at_168 rfl ?_
          refine go_callS 173 rfl at_170 (wd hw 51 rfl) (wd hw 52 rfl) (wd hw 2 rfl) (wd hw 53 rfl) (by decide) (m_ok Z a0 hw h0 (mem21 a18 z0 z1 z2 a14 a19 a13) z1) (argsL := [(.int z1)]) (rest := []) rfl (ps := [.char]) (by decide +kernel) rfl rfl 0 rfl (by decide) (by decide) (by decide) (by decide) ?_
          rintro _ _ ⟨z148, rfl, rfl, hz148⟩
          show Go B0 Z a0 h0 _ 4 16 (mem21 a18 z0 z1 z2 a14 a19 a13) 173 #[.val (.int p1), .val (.int p2), .val (.int p3), .val (.int p4), .val (.int (3 : Int32)), .val (.int z0), .val (.int z1), .val (.int z2), .val (.ref a13), .unset] [(.int z148)]
          refine go_if 188 176 rfl (by decide) rfl at_173 rfl (fun (hc173_175 : z148.toInt = 0) => ?_) (fun (hc173_175 : ¬ (z148.toInt = 0)) => ?_)
          · refine go_iconst (0 : Int32) 189 rfl at_188 rfl ?_
            refine go_istore #[.val (.int p1), .val (.int p2), .val (.int p3), .val (.int p4), .val (.int (3 : Int32)), .val (.int z0), .val (.int z1), .val (.int z2), .val (.ref a13), .val (.int (0 : Int32))] 191 rfl at_189 rfl rfl ?_
            refine go_aload 193 rfl at_191 rfl rfl ?_
            refine Go.front 3 (Nat.le_of_ble_eq_true rfl) ?_
            refine Go.front 1 (Nat.le_of_ble_eq_true rfl) ?_
            show Go B0 Z a0 h0 _ 4 16 (mem22 a18 z0 z1 z2 a13 a14 a19) 193 #[.val (.int p1), .val (.int p2), .val (.int p3), .val (.int p4), .val (.int (3 : Int32)), .val (.int z0), .val (.int z1), .val (.int z2), .val (.ref a13), .val (.int (0 : Int32))] [(.ref a13)]
            refine go_callS 196 rfl at_193 (wd hw 26 rfl) (wd hw 27 rfl) (wd hw 28 rfl) (wd hw 29 rfl) (by decide) (Met.frame [ar a14 .char [(.int z0), (.int z1), (.int z2)], ar a19 .byte [(.int (nar .byte (z0.toInt8.toInt32))), (.int (0 : Int32)), (.int (0 : Int32))]] (mt144 Z a0 hw h0 zc r99 SS z0 z1 z2 h_0 h_1 h_2 a18 a13)) (argsL := [(.ref a13)]) (rest := []) rfl (ps := [(.object "java/lang/String")]) (by decide +kernel) rfl rfl 0 rfl (by decide) (by decide) (by decide) (by decide) ?_
            rintro _ _ ⟨_, ⟨z149, rfl, rfl, hz149⟩, rfl⟩
            show Go B0 Z a0 h0 _ 4 16 (mem22 a18 z0 z1 z2 a13 a14 a19) 196 #[.val (.int p1), .val (.int p2), .val (.int p3), .val (.int p4), .val (.int (3 : Int32)), .val (.int z0), .val (.int z1), .val (.int z2), .val (.ref a13), .val (.int (0 : Int32))] [(.int z149)]
            refine go_iload 198 rfl at_196 rfl ?_
            refine go_icmp 205 201 rfl (by decide) rfl at_198 rfl (fun (hc198 : z149.toInt ≠ (0 : Int)) => absurd hc198 (by omega)) (fun (hc198 : ¬ (z149.toInt ≠ (0 : Int))) => ?_)
            refine go_iconst (1 : Int32) 202 rfl at_201 rfl ?_
            refine go_goto 206 (by decide) rfl at_202 ?_
            exact go_ireturn at_206 rfl (Or.inr (Or.inl rfl)) rfl rfl (by decide) (by decide) rfl
          · refine go_iload 178 rfl at_176 rfl ?_
            refine go_callS 181 rfl at_178 (wd hw 51 rfl) (wd hw 52 rfl) (wd hw 2 rfl) (wd hw 53 rfl) (by decide) (m_ok Z a0 hw h0 (mem21 a18 z0 z1 z2 a14 a19 a13) z2) (argsL := [(.int z2)]) (rest := []) rfl (ps := [.char]) (by decide +kernel) rfl rfl 0 rfl (by decide) (by decide) (by decide) (by decide) ?_
            rintro _ _ ⟨z150, rfl, rfl, hz150⟩
            show Go B0 Z a0 h0 _ 4 16 (mem21 a18 z0 z1 z2 a14 a19 a13) 181 #[.val (.int p1), .val (.int p2), .val (.int p3), .val (.int p4), .val (.int (3 : Int32)), .val (.int z0), .val (.int z1), .val (.int z2), .val (.ref a13), .unset] [(.int z150)]
            refine go_if 188 184 rfl (by decide) rfl at_181 rfl (fun (hc181_176 : z150.toInt = 0) => ?_) (fun (hc181_176 : ¬ (z150.toInt = 0)) => ?_)
            · refine go_iconst (0 : Int32) 189 rfl at_188 rfl ?_
              refine go_istore #[.val (.int p1), .val (.int p2), .val (.int p3), .val (.int p4), .val (.int (3 : Int32)), .val (.int z0), .val (.int z1), .val (.int z2), .val (.ref a13), .val (.int (0 : Int32))] 191 rfl at_189 rfl rfl ?_
              refine go_aload 193 rfl at_191 rfl rfl ?_
              refine Go.front 3 (Nat.le_of_ble_eq_true rfl) ?_
              refine Go.front 1 (Nat.le_of_ble_eq_true rfl) ?_
              show Go B0 Z a0 h0 _ 4 16 (mem22 a18 z0 z1 z2 a13 a14 a19) 193 #[.val (.int p1), .val (.int p2), .val (.int p3), .val (.int p4), .val (.int (3 : Int32)), .val (.int z0), .val (.int z1), .val (.int z2), .val (.ref a13), .val (.int (0 : Int32))] [(.ref a13)]
              refine go_callS 196 rfl at_193 (wd hw 26 rfl) (wd hw 27 rfl) (wd hw 28 rfl) (wd hw 29 rfl) (by decide) (Met.frame [ar a14 .char [(.int z0), (.int z1), (.int z2)], ar a19 .byte [(.int (nar .byte (z0.toInt8.toInt32))), (.int (0 : Int32)), (.int (0 : Int32))]] (mt144 Z a0 hw h0 zc r99 SS z0 z1 z2 h_0 h_1 h_2 a18 a13)) (argsL := [(.ref a13)]) (rest := []) rfl (ps := [(.object "java/lang/String")]) (by decide +kernel) rfl rfl 0 rfl (by decide) (by decide) (by decide) (by decide) ?_
              rintro _ _ ⟨_, ⟨z151, rfl, rfl, hz151⟩, rfl⟩
              show Go B0 Z a0 h0 _ 4 16 (mem22 a18 z0 z1 z2 a13 a14 a19) 196 #[.val (.int p1), .val (.int p2), .val (.int p3), .val (.int p4), .val (.int (3 : Int32)), .val (.int z0), .val (.int z1), .val (.int z2), .val (.ref a13), .val (.int (0 : Int32))] [(.int z151)]
              refine go_iload 198 rfl at_196 rfl ?_
              refine go_icmp 205 201 rfl (by decide) rfl at_198 rfl (fun (hc198 : z151.toInt ≠ (0 : Int)) => absurd hc198 (by omega)) (fun (hc198 : ¬ (z151.toInt ≠ (0 : Int))) => ?_)
              refine go_iconst (1 : Int32) 202 rfl at_201 rfl ?_
              refine go_goto 206 (by decide) rfl at_202 ?_
              exact go_ireturn at_206 rfl (Or.inr (Or.inl rfl)) rfl rfl (by decide) (by decide) rfl
            · refine go_iconst (1 : Int32) 185 rfl at_184 rfl ?_
              refine go_goto 189 (by decide) rfl at_185 ?_
              refine go_istore #[.val (.int p1), .val (.int p2), .val (.int p3), .val (.int p4), .val (.int (3 : Int32)), .val (.int z0), .val (.int z1), .val (.int z2), .val (.ref a13), .val (.int (1 : Int32))] 191 rfl at_189 rfl rfl ?_
              refine go_aload 193 rfl at_191 rfl rfl ?_
              refine Go.front 3 (Nat.le_of_ble_eq_true rfl) ?_
              refine Go.front 1 (Nat.le_of_ble_eq_true rfl) ?_
              show Go B0 Z a0 h0 _ 4 16 (mem22 a18 z0 z1 z2 a13 a14 a19) 193 #[.val (.int p1), .val (.int p2), .val (.int p3), .val (.int p4), .val (.int (3 : Int32)), .val (.int z0), .val (.int z1), .val (.int z2), .val (.ref a13), .val (.int (1 : Int32))] [(.ref a13)]
              refine go_callS 196 rfl at_193 (wd hw 26 rfl) (wd hw 27 rfl) (wd hw 28 rfl) (wd hw 29 rfl) (by decide) (Met.frame [ar a14 .char [(.int z0), (.int z1), (.int z2)], ar a19 .byte [(.int (nar .byte (z0.toInt8.toInt32))), (.int (0 : Int32)), (.int (0 : Int32))]] (mt144 Z a0 hw h0 zc r99 SS z0 z1 z2 h_0 h_1 h_2 a18 a13)) (argsL := [(.ref a13)]) (rest := []) rfl (ps := [(.object "java/lang/String")]) (by decide +kernel) rfl rfl 0 rfl (by decide) (by decide) (by decide) (by decide) ?_
              rintro _ _ ⟨_, ⟨z152, rfl, rfl, hz152⟩, rfl⟩
              show Go B0 Z a0 h0 _ 4 16 (mem22 a18 z0 z1 z2 a13 a14 a19) 196 #[.val (.int p1), .val (.int p2), .val (.int p3), .val (.int p4), .val (.int (3 : Int32)), .val (.int z0), .val (.int z1), .val (.int z2), .val (.ref a13), .val (.int (1 : Int32))] [(.int z152)]
              refine go_iload 198 rfl at_196 rfl ?_
              refine go_icmp 205 201 rfl (by decide) rfl at_198 rfl (fun (hc198 : z152.toInt ≠ (1 : Int)) => absurd hc198 (by omega)) (fun (hc198 : ¬ (z152.toInt ≠ (1 : Int))) => ?_)
              refine go_iconst (1 : Int32) 202 rfl at_201 rfl ?_
              refine go_goto 206 (by decide) rfl at_202 ?_
              exact go_ireturn at_206 rfl (Or.inr (Or.inl rfl)) rfl rfl (by decide) (by decide) rfl
    · have h_0 := r0
      have h_1 := r1
      have h_2 := r2
      refine go_callI 158 rfl at_155 rfl (wd hw 8 rfl) (wd hw 9 rfl) (wd hw 6 rfl) (wd hw 10 rfl) (by decide) (mt178 Z a0 hw h0 zc r99 SS z0 z1 z2 h_0 h_1 h_2 g0 a13 a14) (argsL := [(.ref a14)]) (rest := [(.ref a13)]) rfl (ret := none) (ps := [(.array .char)]) (by decide +kernel) rfl rfl 1 rfl (by decide) (by decide) (by decide) (by decide) ?_
      rintro _ _ ⟨a20, a21, rfl, rfl⟩
      show Go B0 Z a0 h0 _ 4 16 (mem26 a20 z0 z1 z2 a14 a21 a13) 158 #[.val (.int p1), .val (.int p2), .val (.int p3), .val (.int p4), .val (.int (3 : Int32)), .val (.int z0), .val (.int z1), .val (.int z2), .unset, .unset] [(.ref a13)]
      refine go_astore #[.val (.int p1), .val (.int p2), .val (.int p3), .val (.int p4), .val (.int (3 : Int32)), .val (.int z0), .val (.int z1), .val (.int z2), .val (.ref a13), .unset] 160 rfl at_158 rfl rfl rfl ?_
      refine go_iload 162 rfl at_160 rfl ?_
      refine go_callS 165 rfl at_162 (wd hw 51 rfl) (wd hw 52 rfl) (wd hw 2 rfl) (wd hw 53 rfl) (by decide) (m_ok Z a0 hw h0 (mem26 a20 z0 z1 z2 a14 a21 a13) z0) (argsL := [(.int z0)]) (rest := []) rfl (ps := [.char]) (by decide +kernel) rfl rfl 0 rfl (by decide) (by decide) (by decide) (by decide) ?_
      rintro _ _ ⟨z153, rfl, rfl, hz153⟩
      show Go B0 Z a0 h0 _ 4 16 (mem26 a20 z0 z1 z2 a14 a21 a13) 165 #[.val (.int p1), .val (.int p2), .val (.int p3), .val (.int p4), .val (.int (3 : Int32)), .val (.int z0), .val (.int z1), .val (.int z2), .val (.ref a13), .unset] [(.int z153)]
      refine go_if 188 168 rfl (by decide) rfl at_165 rfl (fun (hc165_181 : z153.toInt = 0) => ?_) (fun (hc165_181 : ¬ (z153.toInt = 0)) => ?_)
      · refine go_iconst (0 : Int32) 189 rfl at_188 rfl ?_
        refine go_istore #[.val (.int p1), .val (.int p2), .val (.int p3), .val (.int p4), .val (.int (3 : Int32)), .val (.int z0), .val (.int z1), .val (.int z2), .val (.ref a13), .val (.int (0 : Int32))] 191 rfl at_189 rfl rfl ?_
        refine go_aload 193 rfl at_191 rfl rfl ?_
        refine Go.front 3 (Nat.le_of_ble_eq_true rfl) ?_
        refine Go.front 1 (Nat.le_of_ble_eq_true rfl) ?_
        show Go B0 Z a0 h0 _ 4 16 (mem27 a20 z0 z1 z2 a13 a14 a21) 193 #[.val (.int p1), .val (.int p2), .val (.int p3), .val (.int p4), .val (.int (3 : Int32)), .val (.int z0), .val (.int z1), .val (.int z2), .val (.ref a13), .val (.int (0 : Int32))] [(.ref a13)]
        refine go_callS 196 rfl at_193 (wd hw 26 rfl) (wd hw 27 rfl) (wd hw 28 rfl) (wd hw 29 rfl) (by decide) (Met.frame [ar a14 .char [(.int z0), (.int z1), (.int z2)], ar a21 .byte [(.int (0 : Int32)), (.int (0 : Int32)), (.int (0 : Int32))]] (mt144 Z a0 hw h0 zc r99 SS z0 z1 z2 h_0 h_1 h_2 a20 a13)) (argsL := [(.ref a13)]) (rest := []) rfl (ps := [(.object "java/lang/String")]) (by decide +kernel) rfl rfl 0 rfl (by decide) (by decide) (by decide) (by decide) ?_
        rintro _ _ ⟨_, ⟨z154, rfl, rfl, hz154⟩, rfl⟩
        show Go B0 Z a0 h0 _ 4 16 (mem27 a20 z0 z1 z2 a13 a14 a21) 196 #[.val (.int p1), .val (.int p2), .val (.int p3), .val (.int p4), .val (.int (3 : Int32)), .val (.int z0), .val (.int z1), .val (.int z2), .val (.ref a13), .val (.int (0 : Int32))] [(.int z154)]
        refine go_iload 198 rfl at_196 rfl ?_
        refine go_icmp 205 201 rfl (by decide) rfl at_198 rfl (fun (hc198 : z154.toInt ≠ (0 : Int)) => absurd hc198 (by omega)) (fun (hc198 : ¬ (z154.toInt ≠ (0 : Int))) => ?_)
        refine go_iconst (1 : Int32) 202 rfl at_201 rfl ?_
        refine go_goto 206 (by decide) rfl at_202 ?_
        exact go_ireturn at_206 rfl (Or.inr (Or.inl rfl)) rfl rfl (by decide) (by decide) rfl
      · refine go_iload 170 rfl at_168 rfl ?_
        refine go_callS 173 rfl at_170 (wd hw 51 rfl) (wd hw 52 rfl) (wd hw 2 rfl) (wd hw 53 rfl) (by decide) (m_ok Z a0 hw h0 (mem26 a20 z0 z1 z2 a14 a21 a13) z1) (argsL := [(.int z1)]) (rest := []) rfl (ps := [.char]) (by decide +kernel) rfl rfl 0 rfl (by decide) (by decide) (by decide) (by decide) ?_
        rintro _ _ ⟨z155, rfl, rfl, hz155⟩
        show Go B0 Z a0 h0 _ 4 16 (mem26 a20 z0 z1 z2 a14 a21 a13) 173 #[.val (.int p1), .val (.int p2), .val (.int p3), .val (.int p4), .val (.int (3 : Int32)), .val (.int z0), .val (.int z1), .val (.int z2), .val (.ref a13), .unset] [(.int z155)]
        refine go_if 188 176 rfl (by decide) rfl at_173 rfl (fun (hc173_182 : z155.toInt = 0) => ?_) (fun (hc173_182 : ¬ (z155.toInt = 0)) => ?_)
        · refine go_iconst (0 : Int32) 189 rfl at_188 rfl ?_
          refine go_istore #[.val (.int p1), .val (.int p2), .val (.int p3), .val (.int p4), .val (.int (3 : Int32)), .val (.int z0), .val (.int z1), .val (.int z2), .val (.ref a13), .val (.int (0 : Int32))] 191 rfl at_189 rfl rfl ?_
          refine go_aload 193 rfl at_191 rfl rfl ?_
          refine Go.front 3 (Nat.le_of_ble_eq_true rfl) ?_
          refine Go.front 1 (Nat.le_of_ble_eq_true rfl) ?_
          show Go B0 Z a0 h0 _ 4 16 (mem27 a20 z0 z1 z2 a13 a14 a21) 193 #[.val (.int p1), .val (.int p2), .val (.int p3), .val (.int p4), .val (.int (3 : Int32)), .val (.int z0), .val (.int z1), .val (.int z2), .val (.ref a13), .val (.int (0 : Int32))] [(.ref a13)]
          refine go_callS 196 rfl at_193 (wd hw 26 rfl) (wd hw 27 rfl) (wd hw 28 rfl) (wd hw 29 rfl) (by decide) (Met.frame [ar a14 .char [(.int z0), (.int z1), (.int z2)], ar a21 .byte [(.int (0 : Int32)), (.int (0 : Int32)), (.int (0 : Int32))]] (mt144 Z a0 hw h0 zc r99 SS z0 z1 z2 h_0 h_1 h_2 a20 a13)) (argsL := [(.ref a13)]) (rest := []) rfl (ps := [(.object "java/lang/String")]) (by decide +kernel) rfl rfl 0 rfl (by decide) (by decide) (by decide) (by decide) ?_
          rintro _ _ ⟨_, ⟨z156, rfl, rfl, hz156⟩, rfl⟩
          show Go B0 Z a0 h0 _ 4 16 (mem27 a20 z0 z1 z2 a13 a14 a21) 196 #[.val (.int p1), .val (.int p2), .val (.int p3), .val (.int p4), .val (.int (3 : Int32)), .val (.int z0), .val (.int z1), .val (.int z2), .val (.ref a13), .val (.int (0 : Int32))] [(.int z156)]
          refine go_iload 198 rfl at_196 rfl ?_
          refine go_icmp 205 201 rfl (by decide) rfl at_198 rfl (fun (hc198 : z156.toInt ≠ (0 : Int)) => absurd hc198 (by omega)) (fun (hc198 : ¬ (z156.toInt ≠ (0 : Int))) => ?_)
          refine go_iconst (1 : Int32) 202 rfl at_201 rfl ?_
          refine go_goto 206 (by decide) rfl at_202 ?_
          exact go_ireturn at_206 rfl (Or.inr (Or.inl rfl)) rfl rfl (by decide) (by decide) rfl
        · refine go_iload 178 rfl at_176 rfl ?_
          refine go_callS 181 rfl at_178 (wd hw 51 rfl) (wd hw 52 rfl) (wd hw 2 rfl) (wd hw 53 rfl) (by decide) (m_ok Z a0 hw h0 (mem26 a20 z0 z1 z2 a14 a21 a13) z2) (argsL := [(.int z2)]) (rest := []) rfl (ps := [.char]) (by decide +kernel) rfl rfl 0 rfl (by decide) (by decide) (by decide) (by decide) ?_
          rintro _ _ ⟨z157, rfl, rfl, hz157⟩
          show Go B0 Z a0 h0 _ 4 16 (mem26 a20 z0 z1 z2 a14 a21 a13) 181 #[.val (.int p1), .val (.int p2), .val (.int p3), .val (.int p4), .val (.int (3 : Int32)), .val (.int z0), .val (.int z1), .val (.int z2), .val (.ref a13), .unset] [(.int z157)]
          refine go_if 188 184 rfl (by decide) rfl at_181 rfl (fun (hc181_183 : z157.toInt = 0) => ?_) (fun (hc181_183 : ¬ (z157.toInt = 0)) => ?_)
          · refine go_iconst (0 : Int32) 189 rfl at_188 rfl ?_
            refine go_istore #[.val (.int p1), .val (.int p2), .val (.int p3), .val (.int p4), .val (.int (3 : Int32)), .val (.int z0), .val (.int z1), .val (.int z2), .val (.ref a13), .val (.int (0 : Int32))] 191 rfl at_189 rfl rfl ?_
            refine go_aload 193 rfl at_191 rfl rfl ?_
            refine Go.front 3 (Nat.le_of_ble_eq_true rfl) ?_
            refine Go.front 1 (Nat.le_of_ble_eq_true rfl) ?_
            show Go B0 Z a0 h0 _ 4 16 (mem27 a20 z0 z1 z2 a13 a14 a21) 193 #[.val (.int p1), .val (.int p2), .val (.int p3), .val (.int p4), .val (.int (3 : Int32)), .val (.int z0), .val (.int z1), .val (.int z2), .val (.ref a13), .val (.int (0 : Int32))] [(.ref a13)]
            refine go_callS 196 rfl at_193 (wd hw 26 rfl) (wd hw 27 rfl) (wd hw 28 rfl) (wd hw 29 rfl) (by decide) (Met.frame [ar a14 .char [(.int z0), (.int z1), (.int z2)], ar a21 .byte [(.int (0 : Int32)), (.int (0 : Int32)), (.int (0 : Int32))]] (mt144 Z a0 hw h0 zc r99 SS z0 z1 z2 h_0 h_1 h_2 a20 a13)) (argsL := [(.ref a13)]) (rest := []) rfl (ps := [(.object "java/lang/String")]) (by decide +kernel) rfl rfl 0 rfl (by decide) (by decide) (by decide) (by decide) ?_
            rintro _ _ ⟨_, ⟨z158, rfl, rfl, hz158⟩, rfl⟩
            show Go B0 Z a0 h0 _ 4 16 (mem27 a20 z0 z1 z2 a13 a14 a21) 196 #[.val (.int p1), .val (.int p2), .val (.int p3), .val (.int p4), .val (.int (3 : Int32)), .val (.int z0), .val (.int z1), .val (.int z2), .val (.ref a13), .val (.int (0 : Int32))] [(.int z158)]
            refine go_iload 198 rfl at_196 rfl ?_
            refine go_icmp 205 201 rfl (by decide) rfl at_198 rfl (fun (hc198 : z158.toInt ≠ (0 : Int)) => absurd hc198 (by omega)) (fun (hc198 : ¬ (z158.toInt ≠ (0 : Int))) => ?_)
            refine go_iconst (1 : Int32) 202 rfl at_201 rfl ?_
            refine go_goto 206 (by decide) rfl at_202 ?_
            exact go_ireturn at_206 rfl (Or.inr (Or.inl rfl)) rfl rfl (by decide) (by decide) rfl
          · refine go_iconst (1 : Int32) 185 rfl at_184 rfl ?_
            refine go_goto 189 (by decide) rfl at_185 ?_
            refine go_istore #[.val (.int p1), .val (.int p2), .val (.int p3), .val (.int p4), .val (.int (3 : Int32)), .val (.int z0), .val (.int z1), .val (.int z2), .val (.ref a13), .val (.int (1 : Int32))] 191 rfl at_189 rfl rfl ?_
            refine go_aload 193 rfl at_191 rfl rfl ?_
            refine Go.front 3 (Nat.le_of_ble_eq_true rfl) ?_
            refine Go.front 1 (Nat.le_of_ble_eq_true rfl) ?_
            show Go B0 Z a0 h0 _ 4 16 (mem27 a20 z0 z1 z2 a13 a14 a21) 193 #[.val (.int p1), .val (.int p2), .val (.int p3), .val (.int p4), .val (.int (3 : Int32)), .val (.int z0), .val (.int z1), .val (.int z2), .val (.ref a13), .val (.int (1 : Int32))] [(.ref a13)]
            refine go_callS 196 rfl at_193 (wd hw 26 rfl) (wd hw 27 rfl) (wd hw 28 rfl) (wd hw 29 rfl) (by decide) (Met.frame [ar a14 .char [(.int z0), (.int z1), (.int z2)], ar a21 .byte [(.int (0 : Int32)), (.int (0 : Int32)), (.int (0 : Int32))]] (mt144 Z a0 hw h0 zc r99 SS z0 z1 z2 h_0 h_1 h_2 a20 a13)) (argsL := [(.ref a13)]) (rest := []) rfl (ps := [(.object "java/lang/String")]) (by decide +kernel) rfl rfl 0 rfl (by decide) (by decide) (by decide) (by decide) ?_
            rintro _ _ ⟨_, ⟨z159, rfl, rfl, hz159⟩, rfl⟩
            show Go B0 Z a0 h0 _ 4 16 (mem27 a20 z0 z1 z2 a13 a14 a21) 196 #[.val (.int p1), .val (.int p2), .val (.int p3), .val (.int p4), .val (.int (3 : Int32)), .val (.int z0), .val (.int z1), .val (.int z2), .val (.ref a13), .val (.int (1 : Int32))] [(.int z159)]
            refine go_iload 198 rfl at_196 rfl ?_
            refine go_icmp 205 201 rfl (by decide) rfl at_198 rfl (fun (hc198 : z159.toInt ≠ (1 : Int)) => absurd hc198 (by omega)) (fun (hc198 : ¬ (z159.toInt ≠ (1 : Int))) => ?_)
            refine go_iconst (1 : Int32) 202 rfl at_201 rfl ?_
            refine go_goto 206 (by decide) rfl at_202 ?_
            exact go_ireturn at_206 rfl (Or.inr (Or.inl rfl)) rfl rfl (by decide) (by decide) rfl
theorem d3_8 : decode jdk_42_method_149_code 8 = .ok (.aload_n 0, 1) := by decide +kernel
theorem d3_9 : decode jdk_42_method_149_code 9 = .ok (.ldc 7, 2) := by decide +kernel
theorem d3_11 : decode jdk_42_method_149_code 11 = .ok (.getfield 9, 3) := by decide +kernel
theorem d3_14 : decode jdk_42_method_149_code 14 = .ok (.putfield 9, 3) := by decide +kernel
theorem d3_17 : decode jdk_42_method_149_code 17 = .ok (.aload_n 0, 1) := by decide +kernel
theorem d3_18 : decode jdk_42_method_149_code 18 = .ok (.ldc 7, 2) := by decide +kernel
theorem d3_20 : decode jdk_42_method_149_code 20 = .ok (.getfield 15, 3) := by decide +kernel
theorem d3_23 : decode jdk_42_method_149_code 23 = .ok (.putfield 15, 3) := by decide +kernel
theorem d3_26 : decode jdk_42_method_149_code 26 = .ok (.return_, 1) := by decide +kernel
def B3_w : Bdy := (⟨"java/lang/String", "<init>", "([CIILjava/lang/Void;)V"⟩, jdk_42_method_149_code, 6, none, ({ frames := 1, cells := 4, slots := 8, locals := 12 } : Room))
set_option maxRecDepth 65536 in
set_option maxHeartbeats 4000000 in
theorem mw_2 (Z : State) (a0 : Array Value) (hw : ∀ d ∈ tables_1, d.before a0 Z = true) (h0 : Heap) (a1 a2 : Addr) :
    MetW (JJ Z h0) B3_w Z a0 h0 #[(.ref a1), (.ref a2), (.int (0 : Int32)), (.int (0 : Int32)), .null] [ob a1 "java/lang/String" [("java/lang/String", "value", "[B", .null), ("java/lang/String", "coder", "B", (.int (0 : Int32)))], ar a2 .char []] (fun v ds => v = none ∧ ∃ b1 : Addr, (OldE Z h0 b1 ∧ ds = [ob a1 "java/lang/String" [("java/lang/String", "value", "[B", (.ref b1)), ("java/lang/String", "coder", "B", (.int (0 : Int32)))]]) ∨ ds = [ob a1 "java/lang/String" [("java/lang/String", "value", "[B", (.ref b1)), ("java/lang/String", "coder", "B", (.int (0 : Int32)))], ar b1 .byte []]) := by
  refine MetW.of pn3 (ls := #[.val (.ref a1), .val (.ref a2), .val (.int (0 : Int32)), .val (.int (0 : Int32)), .val .null, .unset]) (fun m => by first | (simp [entryFrame, mkF, argsToLocals, Value.category, B3_w]; done) | rfl) ?_
  show GoW (JJ Z h0) B3_w Z a0 h0 _ 0 0 [ob a1 "java/lang/String" [("java/lang/String", "value", "[B", .null), ("java/lang/String", "coder", "B", (.int (0 : Int32)))], ar a2 .char []] 0 #[.val (.ref a1), .val (.ref a2), .val (.int (0 : Int32)), .val (.int (0 : Int32)), .val .null, .unset] []
  refine gw_aloadN 1 rfl d3_0 rfl rfl ?_
  refine gw_initObj 4 rfl d3_1 rfl (wd hw 15 rfl) (wd hw 16 rfl) (wd hw 17 rfl) rfl (by decide) (by decide) ?_
  refine gw_iloadN 5 rfl d3_4 rfl ?_
  refine gw_if 27 8 rfl (by decide) rfl d3_5 rfl (fun (hc5 : (0 : Int) ≠ 0) => absurd hc5 (by decide)) (fun (hc5 : ¬ ((0 : Int) ≠ 0)) => ?_)
  refine gw_aloadN 9 rfl d3_8 rfl rfl ?_
  refine GoW.sub (ds' := [ob a1 "java/lang/String" [("java/lang/String", "value", "[B", .null), ("java/lang/String", "coder", "B", (.int (0 : Int32)))]]) (.cons₂ _ (.cons _ .slnil)) ?_
  exact gw_empty (EL := EL1) (EW.cons (wd hw 18 rfl) (by simp) EW.nil) (List.mem_cons_self ..) ⟨rfl, rfl⟩ rfl d3_9 d3_11 d3_14 d3_17 d3_18 d3_20 d3_23 d3_26 rfl (wd hw 18 rfl) (fun d hd => hw d (sat d hd)) (wd hw 24 rfl) (wd hw 25 rfl) (wd hw 5 rfl) (wd hw 20 rfl) (wd hw 21 rfl) (by decide) (by decide) (fun b hb => ⟨rfl, b, Or.inl ⟨hb, rfl⟩⟩) (fun b => ⟨rfl, b, Or.inr rfl⟩)
def B2_w : Bdy := (⟨"java/lang/String", "<init>", "([C)V"⟩, jdk_42_method_3_code, 2, none, ({ frames := 2, cells := 4, slots := 8, locals := 29 } : Room))
set_option maxRecDepth 65536 in
set_option maxHeartbeats 4000000 in
theorem mw_1 (Z : State) (a0 : Array Value) (hw : ∀ d ∈ tables_1, d.before a0 Z = true) (h0 : Heap) (a1 a2 : Addr) :
    MetW (JJ Z h0) B2_w Z a0 h0 #[(.ref a1), (.ref a2)] [ob a1 "java/lang/String" [("java/lang/String", "value", "[B", .null), ("java/lang/String", "coder", "B", (.int (0 : Int32)))], ar a2 .char []] (fun v ds => v = none ∧ ∃ b1 : Addr, (OldE Z h0 b1 ∧ ds = [ob a1 "java/lang/String" [("java/lang/String", "value", "[B", (.ref b1)), ("java/lang/String", "coder", "B", (.int (0 : Int32)))]]) ∨ ds = [ob a1 "java/lang/String" [("java/lang/String", "value", "[B", (.ref b1)), ("java/lang/String", "coder", "B", (.int (0 : Int32)))], ar b1 .byte []]) := by
  refine MetW.of pn2 (ls := #[.val (.ref a1), .val (.ref a2)]) (fun m => by first | (simp [entryFrame, mkF, argsToLocals, Value.category, B2_w]; done) | rfl) ?_
  show GoW (JJ Z h0) B2_w Z a0 h0 _ 0 0 [ob a1 "java/lang/String" [("java/lang/String", "value", "[B", .null), ("java/lang/String", "coder", "B", (.int (0 : Int32)))], ar a2 .char []] 0 #[.val (.ref a1), .val (.ref a2)] []
  refine gw_aloadN 1 rfl d2_0 rfl rfl ?_
  refine gw_aloadN 2 rfl d2_1 rfl rfl ?_
  refine gw_iconst (0 : Int32) 3 rfl d2_2 rfl ?_
  refine gw_aloadN 4 rfl d2_3 rfl rfl ?_
  refine gw_alen 1 5 rfl d2_4 rfl rfl ?_
  show GoW (JJ Z h0) B2_w Z a0 h0 _ 0 0 [ob a1 "java/lang/String" [("java/lang/String", "value", "[B", .null), ("java/lang/String", "coder", "B", (.int (0 : Int32)))], ar a2 .char []] 5 #[.val (.ref a1), .val (.ref a2)] [(.int (0 : Int32)), (.int (0 : Int32)), (.ref a2), (.ref a1)]
  refine gw_aconstNull 6 rfl d2_5 ?_
  refine gw_wcallI (keepsC (EW.cons (wd hw 18 rfl) (by simp) EW.nil)) 9 rfl d2_6 rfl (wd hw 11 rfl) (wd hw 12 rfl) (wd hw 6 rfl) (wd hw 14 rfl) (by decide) (mw_2 Z a0 hw h0 a1 a2) (argsL := [(.ref a2), (.int (0 : Int32)), (.int (0 : Int32)), .null]) (rest := []) rfl (ret := none) (ps := [(.array .char), .int, .int, (.object "java/lang/Void")]) (by decide +kernel) rfl rfl 0 rfl (by decide) (by decide) (by decide) (by decide) ?_
  rintro _ _ ⟨rfl, b1, ⟨hb, rfl⟩ | rfl⟩
  · show GoW (fun _ => True) B2_w Z a0 h0 _ 4 8 [ob a1 "java/lang/String" [("java/lang/String", "value", "[B", (.ref b1)), ("java/lang/String", "coder", "B", (.int (0 : Int32)))]] 9 #[.val (.ref a1), .val (.ref a2)] []
    exact gw_return d2_9 rfl rfl (by decide) (by decide) ⟨rfl, b1, Or.inl ⟨hb, rfl⟩⟩
  · show GoW (fun _ => True) B2_w Z a0 h0 _ 4 8 [ob a1 "java/lang/String" [("java/lang/String", "value", "[B", (.ref b1)), ("java/lang/String", "coder", "B", (.int (0 : Int32)))], ar b1 .byte []] 9 #[.val (.ref a1), .val (.ref a2)] []
    exact gw_return d2_9 rfl rfl (by decide) (by decide) ⟨rfl, b1, Or.inr rfl⟩
def B7_187 : Bdy := (⟨"java/lang/String", "coder", "()B"⟩, jdk_42_method_152_code, 1, (some .byte), ({ frames := 0, cells := 0, slots := 0, locals := 0 } : Room))
set_option maxRecDepth 65536 in
set_option maxHeartbeats 4000000 in
theorem mt187 (Z : State) (a0 : Array Value) (hw : ∀ d ∈ tables_1, d.before a0 Z = true) (h0 : Heap) (zc : Int32) (r99 : Value) (SS : Sts Z h0 zc r99) (b1 : Addr) (hb : OldE Z h0 b1) (a1 : Addr) :
    Met B7_187 Z a0 h0 #[(.ref a1)] [ob a1 "java/lang/String" [("java/lang/String", "value", "[B", (.ref b1)), ("java/lang/String", "coder", "B", (.int (0 : Int32)))]] (Ret (some (.int (0 : Int32))) [ob a1 "java/lang/String" [("java/lang/String", "value", "[B", (.ref b1)), ("java/lang/String", "coder", "B", (.int (0 : Int32)))]]) := by
  refine Met.of pn7 (ls := #[.val (.ref a1)]) (fun m => by first | (simp [entryFrame, mkF, argsToLocals, Value.category, B7_187]; done) | rfl) ?_
  show Go B7_187 Z a0 h0 _ 0 0 [ob a1 "java/lang/String" [("java/lang/String", "value", "[B", (.ref b1)), ("java/lang/String", "coder", "B", (.int (0 : Int32)))]] 0 #[.val (.ref a1)] []
  refine go_getS 3 rfl d7_0 (wd hw 40 rfl) SS.1 ?_
  refine go_if 13 6 rfl (by decide) rfl d7_3 rfl (fun (hc3 : zc.toInt = 0) => absurd hc3 (by exact fun q => SS.2.1 (Int32.toInt_inj.mp q))) (fun (hc3 : ¬ (zc.toInt = 0)) => ?_)
  refine go_aloadN 7 rfl d7_6 rfl rfl ?_
  refine go_get 0 1 10 rfl d7_7 rfl rfl rfl (wd hw 25 rfl) ?_
  refine go_goto 14 (by decide) rfl d7_10 ?_
  exact go_ireturn d7_14 rfl (Or.inr (Or.inr (Or.inl rfl))) rfl rfl (by decide) (by decide) ⟨rfl, rfl⟩
def B6_186 : Bdy := (⟨"java/lang/String", "length", "()I"⟩, jdk_42_method_54_code, 1, (some .int), ({ frames := 1, cells := 0, slots := 0, locals := 13 } : Room))
set_option maxRecDepth 65536 in
set_option maxHeartbeats 4000000 in
theorem mt186 (Z : State) (a0 : Array Value) (hw : ∀ d ∈ tables_1, d.before a0 Z = true) (h0 : Heap) (zc : Int32) (r99 : Value) (SS : Sts Z h0 zc r99) (b1 : Addr) (hb : OldE Z h0 b1) (a1 : Addr) :
    Met B6_186 Z a0 h0 #[(.ref a1)] [ob a1 "java/lang/String" [("java/lang/String", "value", "[B", (.ref b1)), ("java/lang/String", "coder", "B", (.int (0 : Int32)))]] (Ret (some (.int (0 : Int32))) [ob a1 "java/lang/String" [("java/lang/String", "value", "[B", (.ref b1)), ("java/lang/String", "coder", "B", (.int (0 : Int32)))]]) := by
  refine Met.of pn6 (ls := #[.val (.ref a1)]) (fun m => by first | (simp [entryFrame, mkF, argsToLocals, Value.category, B6_186]; done) | rfl) ?_
  show Go B6_186 Z a0 h0 _ 0 0 [ob a1 "java/lang/String" [("java/lang/String", "value", "[B", (.ref b1)), ("java/lang/String", "coder", "B", (.int (0 : Int32)))]] 0 #[.val (.ref a1)] []
  refine go_aloadN 1 rfl d6_0 rfl rfl ?_
  refine go_get 0 0 4 rfl d6_1 rfl rfl rfl (wd hw 24 rfl) ?_
  refine go_alenG (z := (0 : Int32)) 5 rfl d6_4 rfl (fun h M => by obtain ⟨c, A, e⟩ := hb; exact ⟨c, A.ext M.1, by rw [e]; rfl⟩) ?_
  refine go_aloadN 6 rfl d6_5 rfl rfl ?_
  refine go_callV 9 rfl d6_6 (wd hw 35 rfl) (wd hw 36 rfl) (wd hw 38 rfl) (wd hw 37 rfl) (wd hw 6 rfl) (wd hw 39 rfl) (by decide) (Mo.exa (i := 0) rfl) (mt187 Z a0 hw h0 zc r99 SS b1 hb a1) (argsL := []) (rest := [(.int (0 : Int32))]) rfl (ps := []) (by decide +kernel) rfl rfl 1 rfl (by decide) (by decide) (by decide) (by decide) ?_
  rintro _ _ ⟨rfl, rfl⟩
  show Go B6_186 Z a0 h0 _ 0 0 [ob a1 "java/lang/String" [("java/lang/String", "value", "[B", (.ref b1)), ("java/lang/String", "coder", "B", (.int (0 : Int32)))]] 9 #[.val (.ref a1)] [(.int (0 : Int32)), (.int (0 : Int32))]
  refine go_ishr 10 rfl d6_9 rfl ?_
  show Go B6_186 Z a0 h0 _ 0 0 [ob a1 "java/lang/String" [("java/lang/String", "value", "[B", (.ref b1)), ("java/lang/String", "coder", "B", (.int (0 : Int32)))]] 10 #[.val (.ref a1)] [(.int (0 : Int32))]
  exact go_ireturn d6_10 rfl (Or.inl rfl) rfl rfl (by decide) (by decide) ⟨rfl, rfl⟩
def B5_185 : Bdy := (⟨"com/example/tool_port/toolport/http/HttpSyntax", "isFieldValue", "(Ljava/lang/String;)Z"⟩, prog_33_method_3_code, 2, (some .boolean), ({ frames := 2, cells := 0, slots := 0, locals := 26 } : Room))
set_option maxRecDepth 65536 in
set_option maxHeartbeats 4000000 in
theorem mt185 (Z : State) (a0 : Array Value) (hw : ∀ d ∈ tables_1, d.before a0 Z = true) (h0 : Heap) (zc : Int32) (r99 : Value) (SS : Sts Z h0 zc r99) (b1 : Addr) (hb : OldE Z h0 b1) (a1 : Addr) :
    Met B5_185 Z a0 h0 #[(.ref a1)] [ob a1 "java/lang/String" [("java/lang/String", "value", "[B", (.ref b1)), ("java/lang/String", "coder", "B", (.int (0 : Int32)))]] (Ret (some (.int (1 : Int32))) [ob a1 "java/lang/String" [("java/lang/String", "value", "[B", (.ref b1)), ("java/lang/String", "coder", "B", (.int (0 : Int32)))]]) := by
  refine Met.of pn5 (ls := #[.val (.ref a1), .unset]) (fun m => by first | (simp [entryFrame, mkF, argsToLocals, Value.category, B5_185]; done) | rfl) ?_
  show Go B5_185 Z a0 h0 _ 0 0 [ob a1 "java/lang/String" [("java/lang/String", "value", "[B", (.ref b1)), ("java/lang/String", "coder", "B", (.int (0 : Int32)))]] 0 #[.val (.ref a1), .unset] []
  refine go_iconst (0 : Int32) 1 rfl d5_0 rfl ?_
  refine go_istoreN #[.val (.ref a1), .val (.int (0 : Int32))] 2 rfl d5_1 rfl rfl ?_
  refine go_iloadN 3 rfl d5_2 rfl ?_
  refine go_aloadN 4 rfl d5_3 rfl rfl ?_
  refine go_callV 7 rfl d5_4 (wd hw 30 rfl) (wd hw 31 rfl) (wd hw 33 rfl) (wd hw 32 rfl) (wd hw 6 rfl) (wd hw 34 rfl) (by decide) (Mo.exa (i := 0) rfl) (mt186 Z a0 hw h0 zc r99 SS b1 hb a1) (argsL := []) (rest := [(.int (0 : Int32))]) rfl (ps := []) (by decide +kernel) rfl rfl 1 rfl (by decide) (by decide) (by decide) (by decide) ?_
  rintro _ _ ⟨rfl, rfl⟩
  show Go B5_185 Z a0 h0 _ 0 0 [ob a1 "java/lang/String" [("java/lang/String", "value", "[B", (.ref b1)), ("java/lang/String", "coder", "B", (.int (0 : Int32)))]] 7 #[.val (.ref a1), .val (.int (0 : Int32))] [(.int (0 : Int32)), (.int (0 : Int32))]
  refine go_icmp 29 10 rfl (by decide) rfl d5_7 rfl (fun (hc7 : (0 : Int) ≤ (0 : Int)) => ?_) (fun (hc7 : ¬ ((0 : Int) ≤ (0 : Int))) => absurd hc7 (by decide))
  refine go_iconst (1 : Int32) 30 rfl d5_29 rfl ?_
  exact go_ireturn d5_30 rfl (Or.inr (Or.inl rfl)) rfl rfl (by decide) (by decide) ⟨rfl, rfl⟩
def B7_190 : Bdy := (⟨"java/lang/String", "coder", "()B"⟩, jdk_42_method_152_code, 1, (some .byte), ({ frames := 0, cells := 0, slots := 0, locals := 0 } : Room))
set_option maxRecDepth 65536 in
set_option maxHeartbeats 4000000 in
theorem mt190 (Z : State) (a0 : Array Value) (hw : ∀ d ∈ tables_1, d.before a0 Z = true) (h0 : Heap) (zc : Int32) (r99 : Value) (SS : Sts Z h0 zc r99) (b1 : Addr) (a1 : Addr) :
    Met B7_190 Z a0 h0 #[(.ref a1)] [ob a1 "java/lang/String" [("java/lang/String", "value", "[B", (.ref b1)), ("java/lang/String", "coder", "B", (.int (0 : Int32)))], ar b1 .byte []] (Ret (some (.int (0 : Int32))) [ob a1 "java/lang/String" [("java/lang/String", "value", "[B", (.ref b1)), ("java/lang/String", "coder", "B", (.int (0 : Int32)))], ar b1 .byte []]) := by
  refine Met.of pn7 (ls := #[.val (.ref a1)]) (fun m => by first | (simp [entryFrame, mkF, argsToLocals, Value.category, B7_190]; done) | rfl) ?_
  show Go B7_190 Z a0 h0 _ 0 0 [ob a1 "java/lang/String" [("java/lang/String", "value", "[B", (.ref b1)), ("java/lang/String", "coder", "B", (.int (0 : Int32)))], ar b1 .byte []] 0 #[.val (.ref a1)] []
  refine go_getS 3 rfl d7_0 (wd hw 40 rfl) SS.1 ?_
  refine go_if 13 6 rfl (by decide) rfl d7_3 rfl (fun (hc3 : zc.toInt = 0) => absurd hc3 (by exact fun q => SS.2.1 (Int32.toInt_inj.mp q))) (fun (hc3 : ¬ (zc.toInt = 0)) => ?_)
  refine go_aloadN 7 rfl d7_6 rfl rfl ?_
  refine go_get 0 1 10 rfl d7_7 rfl rfl rfl (wd hw 25 rfl) ?_
  refine go_goto 14 (by decide) rfl d7_10 ?_
  exact go_ireturn d7_14 rfl (Or.inr (Or.inr (Or.inl rfl))) rfl rfl (by decide) (by decide) ⟨rfl, rfl⟩
def B6_189 : Bdy := (⟨"java/lang/String", "length", "()I"⟩, jdk_42_method_54_code, 1, (some .int), ({ frames := 1, cells := 0, slots := 0, locals := 13 } : Room))
set_option maxRecDepth 65536 in
set_option maxHeartbeats 4000000 in
theorem mt189 (Z : State) (a0 : Array Value) (hw : ∀ d ∈ tables_1, d.before a0 Z = true) (h0 : Heap) (zc : Int32) (r99 : Value) (SS : Sts Z h0 zc r99) (b1 : Addr) (a1 : Addr) :
    Met B6_189 Z a0 h0 #[(.ref a1)] [ob a1 "java/lang/String" [("java/lang/String", "value", "[B", (.ref b1)), ("java/lang/String", "coder", "B", (.int (0 : Int32)))], ar b1 .byte []] (Ret (some (.int (0 : Int32))) [ob a1 "java/lang/String" [("java/lang/String", "value", "[B", (.ref b1)), ("java/lang/String", "coder", "B", (.int (0 : Int32)))], ar b1 .byte []]) := by
  refine Met.of pn6 (ls := #[.val (.ref a1)]) (fun m => by first | (simp [entryFrame, mkF, argsToLocals, Value.category, B6_189]; done) | rfl) ?_
  show Go B6_189 Z a0 h0 _ 0 0 [ob a1 "java/lang/String" [("java/lang/String", "value", "[B", (.ref b1)), ("java/lang/String", "coder", "B", (.int (0 : Int32)))], ar b1 .byte []] 0 #[.val (.ref a1)] []
  refine go_aloadN 1 rfl d6_0 rfl rfl ?_
  refine go_get 0 0 4 rfl d6_1 rfl rfl rfl (wd hw 24 rfl) ?_
  refine go_alen 1 5 rfl d6_4 rfl rfl ?_
  show Go B6_189 Z a0 h0 _ 0 0 [ob a1 "java/lang/String" [("java/lang/String", "value", "[B", (.ref b1)), ("java/lang/String", "coder", "B", (.int (0 : Int32)))], ar b1 .byte []] 5 #[.val (.ref a1)] [(.int (0 : Int32))]
  refine go_aloadN 6 rfl d6_5 rfl rfl ?_
  refine go_callV 9 rfl d6_6 (wd hw 35 rfl) (wd hw 36 rfl) (wd hw 38 rfl) (wd hw 37 rfl) (wd hw 6 rfl) (wd hw 39 rfl) (by decide) (Mo.exa (i := 0) rfl) (mt190 Z a0 hw h0 zc r99 SS b1 a1) (argsL := []) (rest := [(.int (0 : Int32))]) rfl (ps := []) (by decide +kernel) rfl rfl 1 rfl (by decide) (by decide) (by decide) (by decide) ?_
  rintro _ _ ⟨rfl, rfl⟩
  show Go B6_189 Z a0 h0 _ 0 0 [ob a1 "java/lang/String" [("java/lang/String", "value", "[B", (.ref b1)), ("java/lang/String", "coder", "B", (.int (0 : Int32)))], ar b1 .byte []] 9 #[.val (.ref a1)] [(.int (0 : Int32)), (.int (0 : Int32))]
  refine go_ishr 10 rfl d6_9 rfl ?_
  show Go B6_189 Z a0 h0 _ 0 0 [ob a1 "java/lang/String" [("java/lang/String", "value", "[B", (.ref b1)), ("java/lang/String", "coder", "B", (.int (0 : Int32)))], ar b1 .byte []] 10 #[.val (.ref a1)] [(.int (0 : Int32))]
  exact go_ireturn d6_10 rfl (Or.inl rfl) rfl rfl (by decide) (by decide) ⟨rfl, rfl⟩
def B5_188 : Bdy := (⟨"com/example/tool_port/toolport/http/HttpSyntax", "isFieldValue", "(Ljava/lang/String;)Z"⟩, prog_33_method_3_code, 2, (some .boolean), ({ frames := 2, cells := 0, slots := 0, locals := 26 } : Room))
set_option maxRecDepth 65536 in
set_option maxHeartbeats 4000000 in
theorem mt188 (Z : State) (a0 : Array Value) (hw : ∀ d ∈ tables_1, d.before a0 Z = true) (h0 : Heap) (zc : Int32) (r99 : Value) (SS : Sts Z h0 zc r99) (b1 : Addr) (a1 : Addr) :
    Met B5_188 Z a0 h0 #[(.ref a1)] [ob a1 "java/lang/String" [("java/lang/String", "value", "[B", (.ref b1)), ("java/lang/String", "coder", "B", (.int (0 : Int32)))], ar b1 .byte []] (Ret (some (.int (1 : Int32))) [ob a1 "java/lang/String" [("java/lang/String", "value", "[B", (.ref b1)), ("java/lang/String", "coder", "B", (.int (0 : Int32)))], ar b1 .byte []]) := by
  refine Met.of pn5 (ls := #[.val (.ref a1), .unset]) (fun m => by first | (simp [entryFrame, mkF, argsToLocals, Value.category, B5_188]; done) | rfl) ?_
  show Go B5_188 Z a0 h0 _ 0 0 [ob a1 "java/lang/String" [("java/lang/String", "value", "[B", (.ref b1)), ("java/lang/String", "coder", "B", (.int (0 : Int32)))], ar b1 .byte []] 0 #[.val (.ref a1), .unset] []
  refine go_iconst (0 : Int32) 1 rfl d5_0 rfl ?_
  refine go_istoreN #[.val (.ref a1), .val (.int (0 : Int32))] 2 rfl d5_1 rfl rfl ?_
  refine go_iloadN 3 rfl d5_2 rfl ?_
  refine go_aloadN 4 rfl d5_3 rfl rfl ?_
  refine go_callV 7 rfl d5_4 (wd hw 30 rfl) (wd hw 31 rfl) (wd hw 33 rfl) (wd hw 32 rfl) (wd hw 6 rfl) (wd hw 34 rfl) (by decide) (Mo.exa (i := 0) rfl) (mt189 Z a0 hw h0 zc r99 SS b1 a1) (argsL := []) (rest := [(.int (0 : Int32))]) rfl (ps := []) (by decide +kernel) rfl rfl 1 rfl (by decide) (by decide) (by decide) (by decide) ?_
  rintro _ _ ⟨rfl, rfl⟩
  show Go B5_188 Z a0 h0 _ 0 0 [ob a1 "java/lang/String" [("java/lang/String", "value", "[B", (.ref b1)), ("java/lang/String", "coder", "B", (.int (0 : Int32)))], ar b1 .byte []] 7 #[.val (.ref a1), .val (.int (0 : Int32))] [(.int (0 : Int32)), (.int (0 : Int32))]
  refine go_icmp 29 10 rfl (by decide) rfl d5_7 rfl (fun (hc7 : (0 : Int) ≤ (0 : Int)) => ?_) (fun (hc7 : ¬ ((0 : Int) ≤ (0 : Int))) => absurd hc7 (by decide))
  refine go_iconst (1 : Int32) 30 rfl d5_29 rfl ?_
  exact go_ireturn d5_30 rfl (Or.inr (Or.inl rfl)) rfl rfl (by decide) (by decide) ⟨rfl, rfl⟩
set_option maxRecDepth 65536 in
set_option maxHeartbeats 4000000 in
theorem law_w (Z : State) (a0 : Array Value) (hw : ∀ d ∈ tables_1, d.before a0 Z = true) (h0 : Heap) (zc : Int32) (r99 : Value) (SS : Sts Z h0 zc r99) (p1 p2 p3 p4 : Int32) (h4 : (p1 &&& (3 : Int32)) = 0) :
    MetW (JJ Z h0) B0 Z a0 h0 #[(.int p1), (.int p2), (.int p3), (.int p4)] [] (fun v _ => v = some (.int 1)) := by
  refine MetW.of pn0 (ls := #[.val (.int p1), .val (.int p2), .val (.int p3), .val (.int p4), .unset, .unset, .unset, .unset, .unset, .unset]) (fun m => by first | (simp [entryFrame, mkF, argsToLocals, Value.category, B0, maxLocals]; done) | rfl) ?_
  show GoW (JJ Z h0) B0 Z a0 h0 _ 0 0 [] 0 #[.val (.int p1), .val (.int p2), .val (.int p3), .val (.int p4), .unset, .unset, .unset, .unset, .unset, .unset] []
  refine gw_iloadN 1 rfl at_0 rfl ?_
  refine gw_iconst (3 : Int32) 2 rfl at_1 rfl ?_
  refine gw_iand 3 rfl at_2 rfl ?_
  refine gw_istore #[.val (.int p1), .val (.int p2), .val (.int p3), .val (.int p4), .val (.int (p1 &&& (3 : Int32))), .unset, .unset, .unset, .unset, .unset] 5 rfl at_3 rfl rfl ?_
  refine gw_iloadN 6 rfl at_5 rfl ?_
  refine gw_callS 9 rfl at_6 (wd hw 0 rfl) (wd hw 1 rfl) (wd hw 2 rfl) (wd hw 3 rfl) (by decide) (m_draw Z a0 hw h0 [] p2) (argsL := [(.int p2)]) (rest := []) rfl (ps := [.int]) (by decide +kernel) rfl rfl 0 rfl (by decide) (by decide) (by decide) (by decide) ?_
  rintro _ _ ⟨z0, rfl, rfl, r0⟩
  show GoW (JJ Z h0) B0 Z a0 h0 _ 0 0 [] 9 #[.val (.int p1), .val (.int p2), .val (.int p3), .val (.int p4), .val (.int (p1 &&& (3 : Int32))), .unset, .unset, .unset, .unset, .unset] [(.int z0)]
  refine gw_istore #[.val (.int p1), .val (.int p2), .val (.int p3), .val (.int p4), .val (.int (p1 &&& (3 : Int32))), .val (.int z0), .unset, .unset, .unset, .unset] 11 rfl at_9 rfl rfl ?_
  refine gw_iloadN 12 rfl at_11 rfl ?_
  refine gw_callS 15 rfl at_12 (wd hw 0 rfl) (wd hw 1 rfl) (wd hw 2 rfl) (wd hw 3 rfl) (by decide) (m_draw Z a0 hw h0 [] p3) (argsL := [(.int p3)]) (rest := []) rfl (ps := [.int]) (by decide +kernel) rfl rfl 0 rfl (by decide) (by decide) (by decide) (by decide) ?_
  rintro _ _ ⟨z1, rfl, rfl, r1⟩
  show GoW (JJ Z h0) B0 Z a0 h0 _ 0 0 [] 15 #[.val (.int p1), .val (.int p2), .val (.int p3), .val (.int p4), .val (.int (p1 &&& (3 : Int32))), .val (.int z0), .unset, .unset, .unset, .unset] [(.int z1)]
  refine gw_istore #[.val (.int p1), .val (.int p2), .val (.int p3), .val (.int p4), .val (.int (p1 &&& (3 : Int32))), .val (.int z0), .val (.int z1), .unset, .unset, .unset] 17 rfl at_15 rfl rfl ?_
  refine gw_iloadN 18 rfl at_17 rfl ?_
  refine gw_callS 21 rfl at_18 (wd hw 0 rfl) (wd hw 1 rfl) (wd hw 2 rfl) (wd hw 3 rfl) (by decide) (m_draw Z a0 hw h0 [] p4) (argsL := [(.int p4)]) (rest := []) rfl (ps := [.int]) (by decide +kernel) rfl rfl 0 rfl (by decide) (by decide) (by decide) (by decide) ?_
  rintro _ _ ⟨z2, rfl, rfl, r2⟩
  show GoW (JJ Z h0) B0 Z a0 h0 _ 0 0 [] 21 #[.val (.int p1), .val (.int p2), .val (.int p3), .val (.int p4), .val (.int (p1 &&& (3 : Int32))), .val (.int z0), .val (.int z1), .unset, .unset, .unset] [(.int z2)]
  refine gw_istore #[.val (.int p1), .val (.int p2), .val (.int p3), .val (.int p4), .val (.int (p1 &&& (3 : Int32))), .val (.int z0), .val (.int z1), .val (.int z2), .unset, .unset] 23 rfl at_21 rfl rfl ?_
  rw [h4]
  show GoW (JJ Z h0) B0 Z a0 h0 _ 0 0 [] 23 #[.val (.int p1), .val (.int p2), .val (.int p3), .val (.int p4), .val (.int (0 : Int32)), .val (.int z0), .val (.int z1), .val (.int z2), .unset, .unset] []
  refine gw_iload 25 rfl at_23 rfl ?_
  refine gw_if 46 28 rfl (by decide) rfl at_25 rfl (fun (hc25 : (0 : Int) ≠ 0) => absurd hc25 (by decide)) (fun (hc25 : ¬ ((0 : Int) ≠ 0)) => ?_)
  refine gw_new 31 rfl at_28 (wd hw 4 rfl) (wd hw 5 rfl) (wd hw 6 rfl) (by decide) (by decide) [("java/lang/String", "value", "[B", .null), ("java/lang/String", "coder", "B", (.int (0 : Int32)))] ⟨⟨Or.inr (wd hw 20 rfl), _, rfl, rfl⟩, ⟨⟨Or.inr (wd hw 21 rfl), _, rfl, rfl⟩, trivial⟩⟩ (by decide) (fun a1 => ?_)
  show GoW (JJ Z h0) B0 Z a0 h0 _ 1 4 [ob a1 "java/lang/String" [("java/lang/String", "value", "[B", .null), ("java/lang/String", "coder", "B", (.int (0 : Int32)))]] 31 #[.val (.int p1), .val (.int p2), .val (.int p3), .val (.int p4), .val (.int (0 : Int32)), .val (.int z0), .val (.int z1), .val (.int z2), .unset, .unset] [(.ref a1)]
  refine gw_dup 32 rfl at_31 rfl rfl ?_
  refine gw_iconst (0 : Int32) 33 rfl at_32 rfl ?_
  refine gw_newarr 35 rfl at_33 rfl (wd hw 7 rfl) (by decide) 0 (by decide) (by decide) (by decide) (by decide) (fun a2 => ?_)
  show GoW (JJ Z h0) B0 Z a0 h0 _ 2 4 [ob a1 "java/lang/String" [("java/lang/String", "value", "[B", .null), ("java/lang/String", "coder", "B", (.int (0 : Int32)))], ar a2 .char []] 35 #[.val (.int p1), .val (.int p2), .val (.int p3), .val (.int p4), .val (.int (0 : Int32)), .val (.int z0), .val (.int z1), .val (.int z2), .unset, .unset] [(.ref a2), (.ref a1), (.ref a1)]
  refine gw_wcallI (keepsC (EW.cons (wd hw 18 rfl) (by simp) EW.nil)) 38 rfl at_35 rfl (wd hw 8 rfl) (wd hw 9 rfl) (wd hw 6 rfl) (wd hw 10 rfl) (by decide) (mw_1 Z a0 hw h0 a1 a2) (argsL := [(.ref a2)]) (rest := [(.ref a1)]) rfl (ret := none) (ps := [(.array .char)]) (by decide +kernel) rfl rfl 1 rfl (by decide) (by decide) (by decide) (by decide) ?_
  rintro _ _ ⟨rfl, b1, ⟨hb, rfl⟩ | rfl⟩
  · show GoW (fun _ => True) B0 Z a0 h0 _ 6 12 [ob a1 "java/lang/String" [("java/lang/String", "value", "[B", (.ref b1)), ("java/lang/String", "coder", "B", (.int (0 : Int32)))]] 38 #[.val (.int p1), .val (.int p2), .val (.int p3), .val (.int p4), .val (.int (0 : Int32)), .val (.int z0), .val (.int z1), .val (.int z2), .unset, .unset] [(.ref a1)]
    refine gw_astore #[.val (.int p1), .val (.int p2), .val (.int p3), .val (.int p4), .val (.int (0 : Int32)), .val (.int z0), .val (.int z1), .val (.int z2), .val (.ref a1), .unset] 40 rfl at_38 rfl rfl rfl ?_
    refine gw_iconst (1 : Int32) 41 rfl at_40 rfl ?_
    refine gw_istore #[.val (.int p1), .val (.int p2), .val (.int p3), .val (.int p4), .val (.int (0 : Int32)), .val (.int z0), .val (.int z1), .val (.int z2), .val (.ref a1), .val (.int (1 : Int32))] 43 rfl at_41 rfl rfl ?_
    refine gw_goto 191 (by decide) rfl at_43 ?_
    refine gw_aload 193 rfl at_191 rfl rfl ?_
    refine gw_callS 196 rfl at_193 (wd hw 26 rfl) (wd hw 27 rfl) (wd hw 28 rfl) (wd hw 29 rfl) (by decide) (mt185 Z a0 hw h0 zc r99 SS b1 hb a1) (argsL := [(.ref a1)]) (rest := []) rfl (ps := [(.object "java/lang/String")]) (by decide +kernel) rfl rfl 0 rfl (by decide) (by decide) (by decide) (by decide) ?_
    rintro _ _ ⟨rfl, rfl⟩
    show GoW (fun _ => True) B0 Z a0 h0 _ 6 12 [ob a1 "java/lang/String" [("java/lang/String", "value", "[B", (.ref b1)), ("java/lang/String", "coder", "B", (.int (0 : Int32)))]] 196 #[.val (.int p1), .val (.int p2), .val (.int p3), .val (.int p4), .val (.int (0 : Int32)), .val (.int z0), .val (.int z1), .val (.int z2), .val (.ref a1), .val (.int (1 : Int32))] [(.int (1 : Int32))]
    refine gw_iload 198 rfl at_196 rfl ?_
    refine gw_icmp 205 201 rfl (by decide) rfl at_198 rfl (fun (hc198 : (1 : Int) ≠ (1 : Int)) => absurd hc198 (by decide)) (fun (hc198 : ¬ ((1 : Int) ≠ (1 : Int))) => ?_)
    refine gw_iconst (1 : Int32) 202 rfl at_201 rfl ?_
    refine gw_goto 206 (by decide) rfl at_202 ?_
    exact gw_ireturn at_206 rfl (Or.inr (Or.inl rfl)) rfl rfl (by decide) (by decide) rfl
  · show GoW (fun _ => True) B0 Z a0 h0 _ 6 12 [ob a1 "java/lang/String" [("java/lang/String", "value", "[B", (.ref b1)), ("java/lang/String", "coder", "B", (.int (0 : Int32)))], ar b1 .byte []] 38 #[.val (.int p1), .val (.int p2), .val (.int p3), .val (.int p4), .val (.int (0 : Int32)), .val (.int z0), .val (.int z1), .val (.int z2), .unset, .unset] [(.ref a1)]
    refine gw_astore #[.val (.int p1), .val (.int p2), .val (.int p3), .val (.int p4), .val (.int (0 : Int32)), .val (.int z0), .val (.int z1), .val (.int z2), .val (.ref a1), .unset] 40 rfl at_38 rfl rfl rfl ?_
    refine gw_iconst (1 : Int32) 41 rfl at_40 rfl ?_
    refine gw_istore #[.val (.int p1), .val (.int p2), .val (.int p3), .val (.int p4), .val (.int (0 : Int32)), .val (.int z0), .val (.int z1), .val (.int z2), .val (.ref a1), .val (.int (1 : Int32))] 43 rfl at_41 rfl rfl ?_
    refine gw_goto 191 (by decide) rfl at_43 ?_
    refine gw_aload 193 rfl at_191 rfl rfl ?_
    refine gw_callS 196 rfl at_193 (wd hw 26 rfl) (wd hw 27 rfl) (wd hw 28 rfl) (wd hw 29 rfl) (by decide) (mt188 Z a0 hw h0 zc r99 SS b1 a1) (argsL := [(.ref a1)]) (rest := []) rfl (ps := [(.object "java/lang/String")]) (by decide +kernel) rfl rfl 0 rfl (by decide) (by decide) (by decide) (by decide) ?_
    rintro _ _ ⟨rfl, rfl⟩
    show GoW (fun _ => True) B0 Z a0 h0 _ 6 12 [ob a1 "java/lang/String" [("java/lang/String", "value", "[B", (.ref b1)), ("java/lang/String", "coder", "B", (.int (0 : Int32)))], ar b1 .byte []] 196 #[.val (.int p1), .val (.int p2), .val (.int p3), .val (.int p4), .val (.int (0 : Int32)), .val (.int z0), .val (.int z1), .val (.int z2), .val (.ref a1), .val (.int (1 : Int32))] [(.int (1 : Int32))]
    refine gw_iload 198 rfl at_196 rfl ?_
    refine gw_icmp 205 201 rfl (by decide) rfl at_198 rfl (fun (hc198 : (1 : Int) ≠ (1 : Int)) => absurd hc198 (by decide)) (fun (hc198 : ¬ ((1 : Int) ≠ (1 : Int))) => ?_)
    refine gw_iconst (1 : Int32) 202 rfl at_201 rfl ?_
    refine gw_goto 206 (by decide) rfl at_202 ?_
    exact gw_ireturn at_206 rfl (Or.inr (Or.inl rfl)) rfl rfl (by decide) (by decide) rfl
theorem law_met (Z : State) (a0 : Array Value) (hw : ∀ d ∈ tables_1, d.before a0 Z = true) (h0 : Heap) (p1 p2 p3 p4 : Int32) (zc : Int32) (r99 : Value) (SS : Sts Z h0 zc r99) : MetW (JJ Z h0) B0 Z a0 h0 #[(.int p1), (.int p2), (.int p3), (.int p4)] [] (fun v _ => v = some (.int 1)) := by
  by_cases h4 : (p1 &&& (3 : Int32)) = 0
  · exact law_w Z a0 hw h0 zc r99 SS p1 p2 p3 p4 h4
  · exact Met.wide (law_n Z a0 hw h0 zc r99 SS p1 p2 p3 p4 h4)
set_option maxRecDepth 65536 in
set_option maxHeartbeats 4000000 in
theorem comes_1 {Post : Tables → Env → Array Value → State → Outcome → State → Prop} (hpost : ∀ tb e args s v u, (limb_1_1.after args s (.returned v) u = true ∧ limb_1_2.after args s (.returned v) u = true ∧ True) → ReturnedEndW s (.returned v) u (Jvm.fieldLocs frame_1_writes args s ++ Jvm.arrayLocs frame_1_arrays args s ++ Jvm.staticLocs frame_1_statics s) 24 1152 → Post tb e args s (.returned v) u) :
    ArmFor flags0 classFile x code maxLocals ret World_1 tables_1 room_1 Calls_1 rest_1 Pre_1 Post := by
  intro l hfl _ _ p e ha hc hk s m args below hf hA hF happ hP
  obtain ⟨hcalls, hrest, hpre⟩ := hP
  obtain ⟨-, -, -, hnamed, -, -, -, hat⟩ := (Spec.applies_iff hf).mp happ
  obtain ⟨hg, hn⟩ := and_e (Cond.before_iff.mp (show (Jvm.Cond.and given_1 narrow_1).before args s = true from hpre))
  obtain ⟨g0, r0⟩ := and_e hg
  obtain ⟨g1, r1⟩ := and_e r0
  obtain ⟨g2, r2⟩ := and_e r1
  obtain ⟨g3, r3⟩ := and_e r2
  obtain ⟨w0, w1, w2, w3, rfl⟩ : ∃ w0 w1 w2 w3 : Value, args = #[w0, w1, w2, w3] := by
    have hs : args.size = 4 := by simpa [Cond.value, given_1] using g0
    obtain ⟨L⟩ := args
    match L, hs with
    | [w0, w1, w2, w3], _ => exact ⟨w0, w1, w2, w3, rfl⟩
  have hw := fun d (hd : d ∈ tables_1) => atoms_spec (ws := Jvm.Cond.code x code maxLocals ret :: tables_1) hat d (List.mem_cons_of_mem _ hd)
  have hfit : Fit s := fun {y c} hc i hi => by
    obtain ⟨ha, rfl⟩ := Array.getElem?_eq_some_iff.mp hc
    have q := List.all_eq_true.mp ((Array.all_eq_true_iff_forall_mem.mp hF) _ (Array.getElem_mem ha)) i (List.mem_range.mpr hi)
    simpa [Array.getElem?_eq_getElem hi] using q
  obtain ⟨i0, e0⟩ := is_v g1
  obtain rfl : w0 = (.int i0) := Option.some.inj e0
  obtain ⟨i1, e1⟩ := is_v g2
  obtain rfl : w1 = (.int i1) := Option.some.inj e1
  obtain ⟨i2, e2⟩ := is_v g3
  obtain rfl : w2 = (.int i2) := Option.some.inj e2
  obtain ⟨i3, e3⟩ := is_v r3
  obtain rfl : w3 = (.int i3) := Option.some.inj e3
  obtain ⟨hsets, hown0⟩ := atoms_of _ (rest_1_c_eq ▸ (show rest_1_c.before _ s = true from hrest))
  have st := fun i d (hd : jdkStatics_1[i]? = some d) => hsets d (List.mem_of_getElem? hd)
  have sn3 := not_v (Cond.before_iff.mp (st 2 _ rfl))
  obtain ⟨zc, ezc⟩ := is_v (Cond.before_iff.mp (st 1 _ rfl))
  obtain ⟨fm, efm, hfm⟩ := isR_v (Cond.before_iff.mp (st 8 _ rfl))
  have SS : Sts s s.heap zc fm := ⟨Sta.start ezc (Or.inl (st 0 _ rfl)), gotF (Cond.eq_ints ezc (Term.int_eval (0))) sn3, Sta.start efm (Or.inl (st 7 _ rfl)), hfm, Sta.start (eqI_v (Cond.before_iff.mp (st 12 _ rfl))) (Or.inl (st 11 _ rfl)), Sta.start (eqI_v (Cond.before_iff.mp (st 15 _ rfl))) (Or.inl (st 14 _ rfl)), Sta.start (eqI_v (Cond.before_iff.mp (st 18 _ rfl))) (Or.inl (st 17 _ rfl))⟩
  have hCH : JJ s s.heap s.vm := CHv.start (EW.cons (hw _ (List.mem_of_getElem? (i := 18) rfl)) (by simp) EW.nil) (fun p hp => hcalls.1 p hp) (st 2 _ rfl) (hw _ (List.mem_of_getElem? (i := 19) rfl)) (hw _ (List.mem_of_getElem? (i := 5) rfl))
  obtain ⟨n, o, q1, q2, q3, v, L, rfl, ⟨N, ds', M', -, rfl⟩, hq⟩ := law_met s _ hw s.heap i0 i1 i2 i3 zc fm SS l tables_1 s.heap (Mo.start s _ s.heap) p e ha hc hk s m _ below hf ((Spec.applies_iff_loose hf).mp happ).1 ⟨rfl, State.Warmed39.refl s, rfl, hCH⟩ trivial
  refine ⟨n, _, q1, q2, q3, hpost _ _ _ _ _ _ ⟨Cond.after_iff.mpr rfl, Cond.after_iff.mpr (eq_i res_at (Term.int_eval (1)) rfl), trivial⟩ ⟨hq.1, hq.2.1, hq.2.2.1, (hq.2.2.2.sift fun y hy => Or.inr (N y hy)).mono (by decide) (by decide)⟩⟩
theorem main_1_1 : Claimed_1_1 := comes_1 fun _ _ _ _ _ _ h hF => ⟨h.1, hF⟩
theorem main_1_2 : Claimed_1_2 := comes_1 fun _ _ _ _ _ _ h hF => ⟨h.2.1, hF⟩

end Jvm.Pilot.@@N@@
namespace Jvm.Pilot.@@N@@
open Jvm Jvm.ClassFile Sem Op Lib Jvm.Free Jvm.Stand Jvm.Pilot.@@N@@.Jvm.D
/-! MADE BY PROGRAM (witnessworld.py) out of the Statement's table words and the real class files: 20 classes; the members and pool entries that the words name. The judged class is class 1, her method 1. -/
namespace start1
open Jvm.ClassFile
def u (s : String) : CpInfo := .utf8 (stringToUtf16 s)
/-- a pool by its gaps: so many unusable entries, then the entry; so many at the end -/
def gap : Nat → List CpInfo → List CpInfo
  | 0, r => r
  | n + 1, r => .unusable :: gap n r
def poolList (es : List (Nat × CpInfo)) (last : Nat) : List CpInfo := es.foldr (fun e r => gap e.1 (e.2 :: r)) (gap last [])
def pool (es : List (Nat × CpInfo)) (last : Nat) : Array CpInfo := ⟨poolList es last⟩
def fileOf (pool : Array CpInfo) (this : Nat) (attrs : Array Attribute := #[]) (ms : Array MethodInfo := #[]) (fl : Nat := 33) (sup : Nat := 0) (ifs : Array Nat := #[]) (fds : Array FieldInfo := #[]) : ClassFile where
  minorVersion := 0
  majorVersion := 65
  constantPool := pool
  accessFlags := fl
  thisClass := this
  superClass := sup
  interfaces := ifs
  fields := fds
  methods := ms
  attributes := attrs
def plain (name : String) (sup : Option ClassId) : Class where
  name := name
  kind := .ordinary
  loader := none
  accessFlags := 33
  super := sup
  interfaces := #[]
  cf := none
  fields := #[]
  methods := #[]
  instanceTypes := #[]
  staticTypes := #[]
  resolved := #[]
  callSites := []
  init := .initialized
  statics := none
  mirror := none

def pool0 : Array CpInfo := pool [(5, u "<init>"), (0, u "()V"), (1, .class_ 10), (1, u "java/lang/Object")] 113

def k0c0 : Code := { maxStack := 0, maxLocals := 1, code := object_method_1_code, exceptionTable := #[], attributes := #[] }
def k0m0 : Method := { name := "<init>", desc := "()V", sig := { parameters := [], returnType := none }, accessFlags := 1, code := some k0c0 }
/-- java/lang/Object -/
def k0 : Class := { plain "java/lang/Object" none with
  accessFlags := 33
  interfaces := #[]
  cf := some (fileOf pool0 8 #[] #[{ accessFlags := 1, nameIndex := 5, descriptorIndex := 6, attributes := #[] }] 33 0 #[] #[])
  fields := #[]
  methods := #[k0m0]
  instanceTypes := #[]
  staticTypes := #[]
  resolved := Array.replicate 124 none
  statics := none }

def pool1 : Array CpInfo := pool [(2, .class_ 4), (1, u "java/lang/Object"), (0, u "<init>"), (0, u "()V"), (0, .methodref 8 9), (0, .class_ 10), (0, .nameAndType 11 12), (0, u "com/example/tool_port/toolport/http/HttpSyntaxIsFieldValuePinLaw"), (0, u "draw"), (0, u "(I)C"), (0, .class_ 14), (0, u "java/lang/String"), (0, .methodref 13 16), (0, .nameAndType 5 17), (0, u "([C)V"), (0, .methodref 8 19), (0, .nameAndType 20 21), (0, u "ok"), (0, u "(C)Z"), (0, .methodref 23 24), (0, .class_ 25), (0, .nameAndType 26 27), (0, u "com/example/tool_port/toolport/http/HttpSyntax"), (0, u "isFieldValue"), (0, u "(Ljava/lang/String;)Z"), (0, .integer 65535), (2, u "law"), (0, u "(IIII)Z")] 3

def k1m0 : Method := { name := "<init>", desc := "()V", sig := { parameters := [], returnType := none }, accessFlags := 1, code := none }
def k1c1 : Code := { maxStack := 6, maxLocals := 10, code := code, exceptionTable := #[], attributes := #[] }
def k1m1 : Method := { name := "law", desc := "(IIII)Z", sig := { parameters := [.int, .int, .int, .int], returnType := some .boolean }, accessFlags := 9, code := some k1c1 }
def k1c2 : Code := { maxStack := 2, maxLocals := 1, code := method_3_code, exceptionTable := #[], attributes := #[] }
def k1m2 : Method := { name := "draw", desc := "(I)C", sig := { parameters := [.int], returnType := some .char }, accessFlags := 10, code := some k1c2 }
def k1c3 : Code := { maxStack := 2, maxLocals := 2, code := method_4_code, exceptionTable := #[], attributes := #[] }
def k1m3 : Method := { name := "ok", desc := "(C)Z", sig := { parameters := [.char], returnType := some .boolean }, accessFlags := 10, code := some k1c3 }
/-- com/example/tool_port/toolport/http/HttpSyntaxIsFieldValuePinLaw -/
def k1 : Class := { plain "com/example/tool_port/toolport/http/HttpSyntaxIsFieldValuePinLaw" (some 0) with
  accessFlags := 49
  interfaces := #[]
  cf := some (fileOf pool1 8 #[] #[{ accessFlags := 1, nameIndex := 5, descriptorIndex := 6, attributes := #[] }, { accessFlags := 9, nameIndex := 31, descriptorIndex := 32, attributes := #[] }, { accessFlags := 10, nameIndex := 11, descriptorIndex := 12, attributes := #[] }, { accessFlags := 10, nameIndex := 20, descriptorIndex := 21, attributes := #[] }] 49 2 #[] #[])
  fields := #[]
  methods := #[k1m0, k1m1, k1m2, k1m3]
  instanceTypes := #[]
  staticTypes := #[]
  resolved := Array.replicate 36 none
  statics := none }

def pool2 : Array CpInfo := pool [(1, .class_ 2), (0, u "java/io/Serializable"), (0, .class_ 4), (0, u "java/lang/Object")] 2

/-- java/io/Serializable -/
def k2 : Class := { plain "java/io/Serializable" (some 0) with
  accessFlags := 1537
  interfaces := #[]
  cf := some (fileOf pool2 1 #[] #[] 1537 3 #[] #[])
  fields := #[]
  methods := #[]
  instanceTypes := #[]
  staticTypes := #[]
  resolved := Array.replicate 7 none
  statics := none }

def pool3 : Array CpInfo := pool [(1, .class_ 2), (0, u "java/lang/Comparable"), (0, .class_ 4), (0, u "java/lang/Object")] 7

/-- java/lang/Comparable -/
def k3 : Class := { plain "java/lang/Comparable" (some 0) with
  accessFlags := 1537
  interfaces := #[]
  cf := some (fileOf pool3 1 #[] #[] 1537 3 #[] #[])
  fields := #[]
  methods := #[]
  instanceTypes := #[]
  staticTypes := #[]
  resolved := Array.replicate 12 none
  statics := none }

def pool4 : Array CpInfo := pool [(2, .class_ 4), (1, u "java/lang/CharSequence"), (42, .class_ 48), (0, u "java/lang/CharSequence$1CodePointIterator"), (10, .class_ 60), (0, u "java/lang/CharSequence$1CharIterator"), (5, .class_ 67), (0, u "java/lang/Object")] 63

/-- java/lang/CharSequence -/
def k4 : Class := { plain "java/lang/CharSequence" (some 0) with
  accessFlags := 1537
  interfaces := #[]
  cf := some (fileOf pool4 2 #[.nestMembers #[47, 59]] #[] 1537 66 #[] #[])
  fields := #[]
  methods := #[]
  instanceTypes := #[]
  staticTypes := #[]
  resolved := Array.replicate 131 none
  statics := none }

def pool5 : Array CpInfo := pool [(1, .class_ 2), (0, u "java/lang/constant/Constable"), (0, .class_ 4), (0, u "java/lang/Object")] 6

/-- java/lang/constant/Constable -/
def k5 : Class := { plain "java/lang/constant/Constable" (some 0) with
  accessFlags := 1537
  interfaces := #[]
  cf := some (fileOf pool5 1 #[] #[] 1537 3 #[] #[])
  fields := #[]
  methods := #[]
  instanceTypes := #[]
  staticTypes := #[]
  resolved := Array.replicate 11 none
  statics := none }

def pool6 : Array CpInfo := pool [(1, .class_ 2), (0, u "java/lang/constant/ConstantDesc"), (0, .class_ 4), (0, u "java/lang/Object")] 32

/-- java/lang/constant/ConstantDesc -/
def k6 : Class := { plain "java/lang/constant/ConstantDesc" (some 0) with
  accessFlags := 1537
  interfaces := #[]
  cf := some (fileOf pool6 1 #[] #[] 1537 3 #[] #[])
  fields := #[]
  methods := #[]
  instanceTypes := #[]
  staticTypes := #[]
  resolved := Array.replicate 37 none
  statics := none }

def pool7 : Array CpInfo := pool [(1, .methodref 2 3), (0, .class_ 4), (0, .nameAndType 5 6), (0, u "java/lang/Object"), (0, u "<init>"), (0, u "()V"), (0, .string 8), (0, u ""), (0, .fieldref 10 11), (0, .class_ 12), (0, .nameAndType 13 14), (0, u "java/lang/String"), (0, u "value"), (0, u "[B"), (0, .fieldref 10 16), (0, .nameAndType 17 18), (0, u "coder"), (0, u "B"), (2, u "hash"), (0, u "I"), (2, u "hashIsZero"), (0, u "Z"), (0, .methodref 10 28), (0, .nameAndType 5 29), (0, u "([CIILjava/lang/Void;)V"), (8, .fieldref 10 39), (0, .nameAndType 40 26), (0, u "COMPACT_STRINGS"), (1, .class_ 44), (1, u "java/lang/StringUTF16"), (0, u "compress"), (1, .methodref 42 48), (0, .nameAndType 49 50), (0, u "coderFromArrayLen"), (0, u "([BI)B"), (56, .class_ 109), (1, u "java/lang/StringLatin1"), (32, u "()Z"), (34, .methodref 42 178), (0, .nameAndType 45 179), (0, u "([CII)[B"), (154, u "()I"), (0, .methodref 10 336), (0, .nameAndType 17 337), (0, u "()B"), (25, u "([BI)C"), (27, u "(II)V"), (35, u "(I)C"), (64, .methodref 10 493), (0, .nameAndType 494 142), (0, u "isLatin1"), (0, .methodref 107 496), (0, .nameAndType 497 363), (0, u "charAt"), (0, .methodref 42 496), (2, u "checkIndex"), (5, u "length"), (67, .class_ 576), (0, u "java/lang/CharSequence"), (22, u "CASE_INSENSITIVE_ORDER"), (0, u "Ljava/util/Comparator;"), (409, u "([C)V"), (42, .fieldref 1054 1055), (0, .class_ 1056), (0, .nameAndType 1057 1058), (0, u "jdk/internal/util/Preconditions"), (0, u "SIOOBE_FORMATTER"), (0, u "Ljava/util/function/BiFunction;"), (0, .methodref 1054 1060), (0, .nameAndType 501 1061), (0, u "(IILjava/util/function/BiFunction;)I"), (39, u "serialPersistentFields"), (0, u "[Ljava/io/ObjectStreamField;"), (0, .class_ 1104), (0, u "java/lang/String$CaseInsensitiveComparator"), (1, .class_ 1107), (0, u "java/io/Serializable"), (0, .class_ 1109), (0, u "java/lang/Comparable"), (0, .class_ 1111), (0, u "java/lang/constant/Constable"), (0, .class_ 1113), (0, u "java/lang/constant/ConstantDesc"), (2, u "serialVersionUID"), (0, u "J"), (3, u "REPL"), (0, u "C"), (2, u "LATIN1"), (1, u "UTF16")] 323

def k7m0 : Method := { name := "<init>", desc := "()V", sig := { parameters := [], returnType := none }, accessFlags := 1, code := none }
def k7c1 : Code := { maxStack := 5, maxLocals := 2, code := jdk_42_method_3_code, exceptionTable := #[], attributes := #[] }
def k7m1 : Method := { name := "<init>", desc := "([C)V", sig := { parameters := [(.array .char)], returnType := none }, accessFlags := 1, code := some k7c1 }
def k7c2 : Code := { maxStack := 2, maxLocals := 1, code := jdk_42_method_54_code, exceptionTable := #[], attributes := #[] }
def k7m2 : Method := { name := "length", desc := "()I", sig := { parameters := [], returnType := some .int }, accessFlags := 1, code := some k7c2 }
def k7c3 : Code := { maxStack := 2, maxLocals := 2, code := jdk_42_method_56_code, exceptionTable := #[], attributes := #[] }
def k7m3 : Method := { name := "charAt", desc := "(I)C", sig := { parameters := [.int], returnType := some .char }, accessFlags := 1, code := some k7c3 }
def k7c4 : Code := { maxStack := 4, maxLocals := 6, code := jdk_42_method_149_code, exceptionTable := #[], attributes := #[] }
def k7m4 : Method := { name := "<init>", desc := "([CIILjava/lang/Void;)V", sig := { parameters := [(.array .char), .int, .int, (.object "java/lang/Void")], returnType := none }, accessFlags := 2, code := some k7c4 }
def k7c5 : Code := { maxStack := 1, maxLocals := 1, code := jdk_42_method_152_code, exceptionTable := #[], attributes := #[] }
def k7m5 : Method := { name := "coder", desc := "()B", sig := { parameters := [], returnType := some .byte }, accessFlags := 0, code := some k7c5 }
def k7c6 : Code := { maxStack := 1, maxLocals := 1, code := jdk_42_method_154_code, exceptionTable := #[], attributes := #[] }
def k7m6 : Method := { name := "isLatin1", desc := "()Z", sig := { parameters := [], returnType := some .boolean }, accessFlags := 0, code := some k7c6 }
def k7c7 : Code := { maxStack := 3, maxLocals := 2, code := jdk_42_method_155_code, exceptionTable := #[], attributes := #[] }
def k7m7 : Method := { name := "checkIndex", desc := "(II)V", sig := { parameters := [.int, .int], returnType := none }, accessFlags := 8, code := some k7c7 }
/-- java/lang/String -/
def k7 : Class := { plain "java/lang/String" (some 0) with
  accessFlags := 49
  interfaces := #[2, 3, 4, 5, 6]
  cf := some (fileOf pool7 10 #[.nestMembers #[1103]] #[{ accessFlags := 1, nameIndex := 5, descriptorIndex := 6, attributes := #[] }, { accessFlags := 1, nameIndex := 5, descriptorIndex := 1010, attributes := #[] }, { accessFlags := 1, nameIndex := 507, descriptorIndex := 334, attributes := #[] }, { accessFlags := 1, nameIndex := 497, descriptorIndex := 427, attributes := #[] }, { accessFlags := 2, nameIndex := 5, descriptorIndex := 29, attributes := #[] }, { accessFlags := 0, nameIndex := 17, descriptorIndex := 337, attributes := #[] }, { accessFlags := 0, nameIndex := 494, descriptorIndex := 142, attributes := #[] }, { accessFlags := 8, nameIndex := 501, descriptorIndex := 391, attributes := #[] }] 49 2 #[1106, 1108, 575, 1110, 1112] #[{ accessFlags := 18, nameIndex := 13, descriptorIndex := 14, attributes := #[] }, { accessFlags := 18, nameIndex := 17, descriptorIndex := 18, attributes := #[] }, { accessFlags := 2, nameIndex := 21, descriptorIndex := 22, attributes := #[] }, { accessFlags := 2, nameIndex := 25, descriptorIndex := 26, attributes := #[] }, { accessFlags := 26, nameIndex := 1116, descriptorIndex := 1117, attributes := #[] }, { accessFlags := 24, nameIndex := 40, descriptorIndex := 26, attributes := #[] }, { accessFlags := 26, nameIndex := 1101, descriptorIndex := 1102, attributes := #[] }, { accessFlags := 26, nameIndex := 1121, descriptorIndex := 1122, attributes := #[] }, { accessFlags := 25, nameIndex := 599, descriptorIndex := 600, attributes := #[] }, { accessFlags := 24, nameIndex := 1125, descriptorIndex := 18, attributes := #[] }, { accessFlags := 24, nameIndex := 1127, descriptorIndex := 18, attributes := #[] }])
  fields := #[{ name := "value", type := (.array .byte), accessFlags := 18, slot := 0, constantValue := 0 }, { name := "coder", type := .byte, accessFlags := 18, slot := 1, constantValue := 0 }, { name := "hash", type := .int, accessFlags := 2, slot := 2, constantValue := 0 }, { name := "hashIsZero", type := .boolean, accessFlags := 2, slot := 3, constantValue := 0 }, { name := "serialVersionUID", type := .long, accessFlags := 26, slot := 0, constantValue := 0 }, { name := "COMPACT_STRINGS", type := .boolean, accessFlags := 24, slot := 1, constantValue := 0 }, { name := "serialPersistentFields", type := (.array (.object "java/io/ObjectStreamField")), accessFlags := 26, slot := 2, constantValue := 0 }, { name := "REPL", type := .char, accessFlags := 26, slot := 3, constantValue := 0 }, { name := "CASE_INSENSITIVE_ORDER", type := (.object "java/util/Comparator"), accessFlags := 25, slot := 4, constantValue := 0 }, { name := "LATIN1", type := .byte, accessFlags := 24, slot := 5, constantValue := 0 }, { name := "UTF16", type := .byte, accessFlags := 24, slot := 6, constantValue := 0 }]
  methods := #[k7m0, k7m1, k7m2, k7m3, k7m4, k7m5, k7m6, k7m7]
  instanceTypes := #[(.array .byte), .byte, .int, .boolean]
  staticTypes := #[.long, .boolean, (.array (.object "java/io/ObjectStreamField")), .char, (.object "java/util/Comparator"), .byte, .byte]
  resolved := Array.replicate 1451 none
  statics := some 0 }

def pool8 : Array CpInfo := pool [(2, .class_ 4), (1, u "java/lang/Object"), (0, u "<init>"), (0, u "()V"), (1, .class_ 10), (1, u "java/lang/String"), (2, .methodref 8 14), (0, .nameAndType 15 16), (0, u "length"), (0, u "()I"), (0, .methodref 8 18), (0, .nameAndType 19 20), (0, u "charAt"), (0, u "(I)C"), (1, .class_ 24), (1, u "com/example/tool_port/toolport/http/HttpSyntax"), (1, u "(I)Z"), (0, .methodref 22 28), (0, .nameAndType 29 26), (0, u "isFieldValueChar"), (2, u "TOKEN"), (0, u "[Z"), (12, u "TOKEN_SYMBOLS"), (0, u "Ljava/lang/String;"), (4, u "(Ljava/lang/String;)Z"), (1, u "isFieldValue")] 5

def k8m0 : Method := { name := "<init>", desc := "()V", sig := { parameters := [], returnType := none }, accessFlags := 2, code := none }
def k8c1 : Code := { maxStack := 2, maxLocals := 2, code := prog_33_method_3_code, exceptionTable := #[], attributes := #[] }
def k8m1 : Method := { name := "isFieldValue", desc := "(Ljava/lang/String;)Z", sig := { parameters := [(.object "java/lang/String")], returnType := some .boolean }, accessFlags := 9, code := some k8c1 }
def k8c2 : Code := { maxStack := 2, maxLocals := 1, code := prog_33_method_5_code, exceptionTable := #[], attributes := #[] }
def k8m2 : Method := { name := "isFieldValueChar", desc := "(I)Z", sig := { parameters := [.int], returnType := some .boolean }, accessFlags := 8, code := some k8c2 }
/-- com/example/tool_port/toolport/http/HttpSyntax -/
def k8 : Class := { plain "com/example/tool_port/toolport/http/HttpSyntax" (some 0) with
  accessFlags := 49
  interfaces := #[]
  cf := some (fileOf pool8 22 #[] #[{ accessFlags := 2, nameIndex := 5, descriptorIndex := 6, attributes := #[] }, { accessFlags := 9, nameIndex := 54, descriptorIndex := 52, attributes := #[] }, { accessFlags := 8, nameIndex := 29, descriptorIndex := 26, attributes := #[] }] 49 2 #[] #[{ accessFlags := 26, nameIndex := 46, descriptorIndex := 47, attributes := #[] }, { accessFlags := 26, nameIndex := 32, descriptorIndex := 33, attributes := #[] }])
  fields := #[{ name := "TOKEN_SYMBOLS", type := (.object "java/lang/String"), accessFlags := 26, slot := 0, constantValue := 0 }, { name := "TOKEN", type := (.array .boolean), accessFlags := 26, slot := 1, constantValue := 0 }]
  methods := #[k8m0, k8m1, k8m2]
  instanceTypes := #[]
  staticTypes := #[(.object "java/lang/String"), (.array .boolean)]
  resolved := Array.replicate 60 none
  statics := none }

def pool9 : Array CpInfo := pool [(3, .class_ 4), (0, u "java/lang/String"), (1, .class_ 8), (1, u "java/lang/Object"), (0, u "<init>"), (0, u "()V"), (0, .methodref 12 13), (0, .class_ 14), (0, .nameAndType 15 16), (0, u "java/lang/StringUTF16"), (0, u "newBytesLength"), (0, u "(I)I"), (3, .integer 1073741823), (23, .fieldref 12 45), (0, .nameAndType 46 47), (0, u "$assertionsDisabled"), (0, u "Z"), (0, .methodref 12 49), (0, .nameAndType 50 51), (0, u "length"), (0, u "([B)I"), (7, .fieldref 12 60), (0, .nameAndType 61 62), (0, u "HI_BYTE_SHIFT"), (0, u "I"), (0, .fieldref 12 64), (0, .nameAndType 65 62), (0, u "LO_BYTE_SHIFT"), (1, .methodref 12 68), (0, .nameAndType 69 70), (0, u "checkIndex"), (0, u "(I[B)V"), (0, .methodref 12 72), (0, .nameAndType 73 74), (0, u "getChar"), (0, u "([BI)C"), (32, .methodref 12 108), (0, .nameAndType 109 110), (0, u "newBytesFor"), (0, u "(I)[B"), (0, .methodref 12 112), (0, .nameAndType 113 114), (0, u "putChar"), (0, u "([BII)V"), (0, .methodref 12 116), (0, .nameAndType 117 118), (0, u "compress"), (0, u "([CI[BII)I"), (0, .methodref 12 120), (0, .nameAndType 121 122), (0, u "toBytes"), (0, u "([CII)[B"), (138, u "coderFromArrayLen"), (0, u "([BI)B"), (106, .class_ 371), (1, u "java/lang/StringUTF16$LinesSpliterator"), (20, u "charAt"), (21, .methodref 3 415), (0, .nameAndType 69 416), (0, u "(II)V"), (13, u "MAX_LENGTH"), (196, .class_ 628), (0, u "java/lang/StringUTF16$CodePointsSpliterator"), (0, .class_ 630), (0, u "java/lang/StringUTF16$CharsSpliterator")] 4

def k9m0 : Method := { name := "<init>", desc := "()V", sig := { parameters := [], returnType := none }, accessFlags := 0, code := none }
def k9c1 : Code := { maxStack := 1, maxLocals := 1, code := jdk_52_method_2_code, exceptionTable := #[], attributes := #[] }
def k9m1 : Method := { name := "newBytesFor", desc := "(I)[B", sig := { parameters := [.int], returnType := some (.array .byte) }, accessFlags := 9, code := some k9c1 }
def k9c2 : Code := { maxStack := 4, maxLocals := 1, code := jdk_52_method_3_code, exceptionTable := #[], attributes := #[] }
def k9m2 : Method := { name := "newBytesLength", desc := "(I)I", sig := { parameters := [.int], returnType := some .int }, accessFlags := 9, code := some k9c2 }
def k9c3 : Code := { maxStack := 4, maxLocals := 3, code := jdk_52_method_4_code, exceptionTable := #[], attributes := #[] }
def k9m3 : Method := { name := "putChar", desc := "([BII)V", sig := { parameters := [(.array .byte), .int, .int], returnType := none }, accessFlags := 8, code := some k9c3 }
def k9c4 : Code := { maxStack := 3, maxLocals := 2, code := jdk_52_method_5_code, exceptionTable := #[], attributes := #[] }
def k9m4 : Method := { name := "getChar", desc := "([BI)C", sig := { parameters := [(.array .byte), .int], returnType := some .char }, accessFlags := 8, code := some k9c4 }
def k9c5 : Code := { maxStack := 2, maxLocals := 1, code := jdk_52_method_6_code, exceptionTable := #[], attributes := #[] }
def k9m5 : Method := { name := "length", desc := "([B)I", sig := { parameters := [(.array .byte)], returnType := some .int }, accessFlags := 9, code := some k9c5 }
def k9c6 : Code := { maxStack := 4, maxLocals := 5, code := jdk_52_method_14_code, exceptionTable := #[], attributes := #[] }
def k9m6 : Method := { name := "toBytes", desc := "([CII)[B", sig := { parameters := [(.array .char), .int, .int], returnType := some (.array .byte) }, accessFlags := 9, code := some k9c6 }
def k9c7 : Code := { maxStack := 2, maxLocals := 2, code := jdk_52_method_15_code, exceptionTable := #[], attributes := #[] }
def k9m7 : Method := { name := "coderFromArrayLen", desc := "([BI)B", sig := { parameters := [(.array .byte), .int], returnType := some .byte }, accessFlags := 8, code := some k9c7 }
def k9c8 : Code := { maxStack := 5, maxLocals := 6, code := jdk_52_method_16_code, exceptionTable := #[], attributes := #[] }
def k9m8 : Method := { name := "compress", desc := "([CII)[B", sig := { parameters := [(.array .char), .int, .int], returnType := some (.array .byte) }, accessFlags := 9, code := some k9c8 }
def k9c9 : Code := { maxStack := 3, maxLocals := 7, code := jdk_52_method_21_code, exceptionTable := #[], attributes := #[] }
def k9m9 : Method := { name := "compress", desc := "([CI[BII)I", sig := { parameters := [(.array .char), .int, (.array .byte), .int, .int], returnType := some .int }, accessFlags := 9, code := some k9c9 }
def k9c10 : Code := { maxStack := 2, maxLocals := 2, code := jdk_52_method_83_code, exceptionTable := #[], attributes := #[] }
def k9m10 : Method := { name := "charAt", desc := "([BI)C", sig := { parameters := [(.array .byte), .int], returnType := some .char }, accessFlags := 9, code := some k9c10 }
def k9c11 : Code := { maxStack := 2, maxLocals := 2, code := jdk_52_method_91_code, exceptionTable := #[], attributes := #[] }
def k9m11 : Method := { name := "checkIndex", desc := "(I[B)V", sig := { parameters := [.int, (.array .byte)], returnType := none }, accessFlags := 9, code := some k9c11 }
/-- java/lang/StringUTF16 -/
def k9 : Class := { plain "java/lang/StringUTF16" (some 0) with
  accessFlags := 48
  interfaces := #[]
  cf := some (fileOf pool9 12 #[.nestMembers #[627, 629, 369]] #[{ accessFlags := 0, nameIndex := 9, descriptorIndex := 10, attributes := #[] }, { accessFlags := 9, nameIndex := 109, descriptorIndex := 110, attributes := #[] }, { accessFlags := 9, nameIndex := 15, descriptorIndex := 16, attributes := #[] }, { accessFlags := 8, nameIndex := 113, descriptorIndex := 114, attributes := #[] }, { accessFlags := 8, nameIndex := 73, descriptorIndex := 74, attributes := #[] }, { accessFlags := 9, nameIndex := 50, descriptorIndex := 51, attributes := #[] }, { accessFlags := 9, nameIndex := 121, descriptorIndex := 122, attributes := #[] }, { accessFlags := 8, nameIndex := 261, descriptorIndex := 262, attributes := #[] }, { accessFlags := 9, nameIndex := 117, descriptorIndex := 122, attributes := #[] }, { accessFlags := 9, nameIndex := 117, descriptorIndex := 118, attributes := #[] }, { accessFlags := 9, nameIndex := 392, descriptorIndex := 74, attributes := #[] }, { accessFlags := 9, nameIndex := 69, descriptorIndex := 70, attributes := #[] }] 48 6 #[] #[{ accessFlags := 26, nameIndex := 61, descriptorIndex := 62, attributes := #[] }, { accessFlags := 26, nameIndex := 65, descriptorIndex := 62, attributes := #[] }, { accessFlags := 24, nameIndex := 430, descriptorIndex := 62, attributes := #[] }, { accessFlags := 4120, nameIndex := 46, descriptorIndex := 47, attributes := #[] }])
  fields := #[{ name := "HI_BYTE_SHIFT", type := .int, accessFlags := 26, slot := 0, constantValue := 0 }, { name := "LO_BYTE_SHIFT", type := .int, accessFlags := 26, slot := 1, constantValue := 0 }, { name := "MAX_LENGTH", type := .int, accessFlags := 24, slot := 2, constantValue := 0 }, { name := "$assertionsDisabled", type := .boolean, accessFlags := 4120, slot := 3, constantValue := 0 }]
  methods := #[k9m0, k9m1, k9m2, k9m3, k9m4, k9m5, k9m6, k9m7, k9m8, k9m9, k9m10, k9m11]
  instanceTypes := #[]
  staticTypes := #[.int, .int, .int, .boolean]
  resolved := Array.replicate 635 none
  statics := some 1 }

def pool10 : Array CpInfo := pool [(1, .class_ 2), (0, u "java/lang/String"), (1, .class_ 6), (1, u "java/lang/Object"), (0, u "<init>"), (0, u "()V"), (0, .methodref 1 10), (0, .nameAndType 11 12), (0, u "checkIndex"), (0, u "(II)V"), (1, .class_ 16), (1, u "java/lang/StringLatin1"), (36, u "([BI)C"), (67, u "$assertionsDisabled"), (0, u "Z"), (98, .class_ 223), (1, u "java/lang/StringLatin1$LinesSpliterator"), (28, u "charAt"), (137, .class_ 391), (0, u "java/lang/StringLatin1$CharsSpliterator")] 3

def k10m0 : Method := { name := "<init>", desc := "()V", sig := { parameters := [], returnType := none }, accessFlags := 0, code := none }
def k10c1 : Code := { maxStack := 2, maxLocals := 2, code := jdk_43_method_2_code, exceptionTable := #[], attributes := #[] }
def k10m1 : Method := { name := "charAt", desc := "([BI)C", sig := { parameters := [(.array .byte), .int], returnType := some .char }, accessFlags := 9, code := some k10c1 }
/-- java/lang/StringLatin1 -/
def k10 : Class := { plain "java/lang/StringLatin1" (some 0) with
  accessFlags := 48
  interfaces := #[]
  cf := some (fileOf pool10 14 #[.nestMembers #[390, 221]] #[{ accessFlags := 0, nameIndex := 7, descriptorIndex := 8, attributes := #[] }, { accessFlags := 9, nameIndex := 252, descriptorIndex := 53, attributes := #[] }] 48 4 #[] #[{ accessFlags := 4120, nameIndex := 121, descriptorIndex := 122, attributes := #[] }])
  fields := #[{ name := "$assertionsDisabled", type := .boolean, accessFlags := 4120, slot := 0, constantValue := 0 }]
  methods := #[k10m0, k10m1]
  instanceTypes := #[]
  staticTypes := #[.boolean]
  resolved := Array.replicate 395 none
  statics := none }

def pool11 : Array CpInfo := pool [(2, .class_ 4), (1, u "java/lang/Object"), (0, u "<init>"), (0, u "()V"), (17, .class_ 26), (1, u "jdk/internal/util/Preconditions"), (6, u "checkIndex"), (21, .class_ 56), (0, u "jdk/internal/util/Preconditions$4"), (57, .class_ 115), (0, u "jdk/internal/util/Preconditions$1"), (7, u "SIOOBE_FORMATTER"), (0, u "Ljava/util/function/BiFunction;"), (0, .class_ 126), (0, u "jdk/internal/util/Preconditions$2"), (3, u "AIOOBE_FORMATTER"), (0, .class_ 132), (0, u "jdk/internal/util/Preconditions$3"), (3, u "IOOBE_FORMATTER"), (41, u "(IILjava/util/function/BiFunction;)I")] 15

def k11m0 : Method := { name := "<init>", desc := "()V", sig := { parameters := [], returnType := none }, accessFlags := 1, code := none }
def k11c1 : Code := { maxStack := 3, maxLocals := 3, code := jdk_41_method_11_code, exceptionTable := #[], attributes := #[] }
def k11m1 : Method := { name := "checkIndex", desc := "(IILjava/util/function/BiFunction;)I", sig := { parameters := [.int, .int, (.object "java/util/function/BiFunction")], returnType := some .int }, accessFlags := 9, code := some k11c1 }
/-- jdk/internal/util/Preconditions -/
def k11 : Class := { plain "jdk/internal/util/Preconditions" (some 0) with
  accessFlags := 33
  interfaces := #[]
  cf := some (fileOf pool11 24 #[.nestMembers #[55, 131, 125, 114]] #[{ accessFlags := 1, nameIndex := 5, descriptorIndex := 6, attributes := #[] }, { accessFlags := 9, nameIndex := 33, descriptorIndex := 178, attributes := #[] }] 33 2 #[] #[{ accessFlags := 25, nameIndex := 123, descriptorIndex := 124, attributes := #[] }, { accessFlags := 25, nameIndex := 130, descriptorIndex := 124, attributes := #[] }, { accessFlags := 25, nameIndex := 136, descriptorIndex := 124, attributes := #[] }])
  fields := #[{ name := "SIOOBE_FORMATTER", type := (.object "java/util/function/BiFunction"), accessFlags := 25, slot := 0, constantValue := 0 }, { name := "AIOOBE_FORMATTER", type := (.object "java/util/function/BiFunction"), accessFlags := 25, slot := 1, constantValue := 0 }, { name := "IOOBE_FORMATTER", type := (.object "java/util/function/BiFunction"), accessFlags := 25, slot := 2, constantValue := 0 }]
  methods := #[k11m0, k11m1]
  instanceTypes := #[]
  staticTypes := #[(.object "java/util/function/BiFunction"), (.object "java/util/function/BiFunction"), (.object "java/util/function/BiFunction")]
  resolved := Array.replicate 194 none
  statics := some 2 }

def pool12 : Array CpInfo := pool [(9, u "<init>"), (6, .class_ 18), (1, u "java/lang/Object"), (0, u "()V"), (1, .class_ 23), (1, u "jdk/internal/util/ArraysSupport"), (0, u "LOG2_ARRAY_LONG_INDEX_SCALE"), (0, u "I"), (2, u "U"), (0, u "Ljdk/internal/misc/Unsafe;"), (8, u "BIG_ENDIAN"), (0, u "Z"), (8, u "LOG2_BYTE_BIT_SIZE"), (4, u "LOG2_ARRAY_INT_INDEX_SCALE"), (54, u "JLA"), (0, u "Ljdk/internal/access/JavaLangAccess;"), (11, u "LOG2_ARRAY_BOOLEAN_INDEX_SCALE"), (9, u "LOG2_ARRAY_BYTE_INDEX_SCALE"), (5, u "LOG2_ARRAY_CHAR_INDEX_SCALE"), (5, u "LOG2_ARRAY_SHORT_INDEX_SCALE"), (18, u "LOG2_ARRAY_FLOAT_INDEX_SCALE"), (24, u "LOG2_ARRAY_DOUBLE_INDEX_SCALE"), (89, u "T_BOOLEAN"), (2, u "T_CHAR"), (1, u "T_FLOAT"), (1, u "T_DOUBLE"), (1, u "T_BYTE"), (1, u "T_SHORT"), (1, u "T_INT"), (1, u "T_LONG"), (1, u "SOFT_MAX_ARRAY_LENGTH")] 83

def k12m0 : Method := { name := "<init>", desc := "()V", sig := { parameters := [], returnType := none }, accessFlags := 2, code := none }
/-- jdk/internal/util/ArraysSupport -/
def k12 : Class := { plain "jdk/internal/util/ArraysSupport" (some 0) with
  accessFlags := 33
  interfaces := #[]
  cf := some (fileOf pool12 21 #[] #[{ accessFlags := 2, nameIndex := 9, descriptorIndex := 19, attributes := #[] }] 33 16 #[] #[{ accessFlags := 24, nameIndex := 28, descriptorIndex := 29, attributes := #[] }, { accessFlags := 26, nameIndex := 38, descriptorIndex := 39, attributes := #[] }, { accessFlags := 25, nameIndex := 121, descriptorIndex := 25, attributes := #[] }, { accessFlags := 25, nameIndex := 131, descriptorIndex := 25, attributes := #[] }, { accessFlags := 25, nameIndex := 137, descriptorIndex := 25, attributes := #[] }, { accessFlags := 25, nameIndex := 143, descriptorIndex := 25, attributes := #[] }, { accessFlags := 25, nameIndex := 53, descriptorIndex := 25, attributes := #[] }, { accessFlags := 25, nameIndex := 24, descriptorIndex := 25, attributes := #[] }, { accessFlags := 25, nameIndex := 162, descriptorIndex := 25, attributes := #[] }, { accessFlags := 25, nameIndex := 187, descriptorIndex := 25, attributes := #[] }, { accessFlags := 26, nameIndex := 48, descriptorIndex := 25, attributes := #[] }, { accessFlags := 25, nameIndex := 277, descriptorIndex := 25, attributes := #[] }, { accessFlags := 25, nameIndex := 280, descriptorIndex := 25, attributes := #[] }, { accessFlags := 25, nameIndex := 282, descriptorIndex := 25, attributes := #[] }, { accessFlags := 25, nameIndex := 284, descriptorIndex := 25, attributes := #[] }, { accessFlags := 25, nameIndex := 286, descriptorIndex := 25, attributes := #[] }, { accessFlags := 25, nameIndex := 288, descriptorIndex := 25, attributes := #[] }, { accessFlags := 25, nameIndex := 290, descriptorIndex := 25, attributes := #[] }, { accessFlags := 25, nameIndex := 292, descriptorIndex := 25, attributes := #[] }, { accessFlags := 26, nameIndex := 108, descriptorIndex := 109, attributes := #[] }, { accessFlags := 25, nameIndex := 294, descriptorIndex := 25, attributes := #[] }])
  fields := #[{ name := "U", type := (.object "jdk/internal/misc/Unsafe"), accessFlags := 24, slot := 0, constantValue := 0 }, { name := "BIG_ENDIAN", type := .boolean, accessFlags := 26, slot := 1, constantValue := 0 }, { name := "LOG2_ARRAY_BOOLEAN_INDEX_SCALE", type := .int, accessFlags := 25, slot := 2, constantValue := 0 }, { name := "LOG2_ARRAY_BYTE_INDEX_SCALE", type := .int, accessFlags := 25, slot := 3, constantValue := 0 }, { name := "LOG2_ARRAY_CHAR_INDEX_SCALE", type := .int, accessFlags := 25, slot := 4, constantValue := 0 }, { name := "LOG2_ARRAY_SHORT_INDEX_SCALE", type := .int, accessFlags := 25, slot := 5, constantValue := 0 }, { name := "LOG2_ARRAY_INT_INDEX_SCALE", type := .int, accessFlags := 25, slot := 6, constantValue := 0 }, { name := "LOG2_ARRAY_LONG_INDEX_SCALE", type := .int, accessFlags := 25, slot := 7, constantValue := 0 }, { name := "LOG2_ARRAY_FLOAT_INDEX_SCALE", type := .int, accessFlags := 25, slot := 8, constantValue := 0 }, { name := "LOG2_ARRAY_DOUBLE_INDEX_SCALE", type := .int, accessFlags := 25, slot := 9, constantValue := 0 }, { name := "LOG2_BYTE_BIT_SIZE", type := .int, accessFlags := 26, slot := 10, constantValue := 0 }, { name := "T_BOOLEAN", type := .int, accessFlags := 25, slot := 11, constantValue := 0 }, { name := "T_CHAR", type := .int, accessFlags := 25, slot := 12, constantValue := 0 }, { name := "T_FLOAT", type := .int, accessFlags := 25, slot := 13, constantValue := 0 }, { name := "T_DOUBLE", type := .int, accessFlags := 25, slot := 14, constantValue := 0 }, { name := "T_BYTE", type := .int, accessFlags := 25, slot := 15, constantValue := 0 }, { name := "T_SHORT", type := .int, accessFlags := 25, slot := 16, constantValue := 0 }, { name := "T_INT", type := .int, accessFlags := 25, slot := 17, constantValue := 0 }, { name := "T_LONG", type := .int, accessFlags := 25, slot := 18, constantValue := 0 }, { name := "JLA", type := (.object "jdk/internal/access/JavaLangAccess"), accessFlags := 26, slot := 19, constantValue := 0 }, { name := "SOFT_MAX_ARRAY_LENGTH", type := .int, accessFlags := 25, slot := 20, constantValue := 0 }]
  methods := #[k12m0]
  instanceTypes := #[]
  staticTypes := #[(.object "jdk/internal/misc/Unsafe"), .boolean, .int, .int, .int, .int, .int, .int, .int, .int, .int, .int, .int, .int, .int, .int, .int, .int, .int, (.object "jdk/internal/access/JavaLangAccess"), .int]
  resolved := Array.replicate 378 none
  statics := none }

def pool13 : Array CpInfo := pool [(1, u "java/lang/Cloneable"), (0, .class_ 1), (0, u "java/lang/Object"), (0, .class_ 3)] 3

/-- java/lang/Cloneable -/
def k13 : Class := { plain "java/lang/Cloneable" (some 0) with
  accessFlags := 1537
  interfaces := #[]
  cf := some (fileOf pool13 2 #[] #[] 1537 4 #[] #[])
  fields := #[]
  methods := #[]
  instanceTypes := #[]
  staticTypes := #[]
  resolved := Array.replicate 8 none
  statics := none }

/-- the primitive byte -/
def k14 : Class := { plain "byte" none with kind := .primitive 'B', accessFlags := 0x411 }
/-- [B -/
def k15 : Class := { plain "[B" (some 0) with kind := .array 14 .byte, interfaces := #[13, 2], accessFlags := 1041 }

/-- the primitive char -/
def k16 : Class := { plain "char" none with kind := .primitive 'C', accessFlags := 0x411 }
/-- [C -/
def k17 : Class := { plain "[C" (some 0) with kind := .array 16 .char, interfaces := #[13, 2], accessFlags := 1041 }

/-- the primitive int -/
def k18 : Class := { plain "int" none with kind := .primitive 'I', accessFlags := 0x411 }
/-- [I -/
def k19 : Class := { plain "[I" (some 0) with kind := .array 18 .int, interfaces := #[13, 2], accessFlags := 1041 }

def heap : Heap := #[{ cls := 7, slots := #[.long 0, .int 1, .null, .int 0, .null, .int 0, .int 0], vm := .statics 7 },
  { cls := 9, slots := #[.int 0, .int 8, .int 0, .int 1], vm := .statics 9 },
  { cls := 11, slots := #[.null, .null, .null], vm := .statics 11 }]
def classes : Array Class := #[k0, k1, k2, k3, k4, k5, k6, k7, k8, k9, k10, k11, k12, k13, k14, k15, k16, k17, k18, k19]
def interned : List (Array UInt16 × Addr) := []
def slotsUsed : Nat := 14
def theMethod : MethodId := ⟨1, 1⟩
def args0 : Array Value := #[.int 1, .int 65, .int 66, .int 67]
def aboutOver (below : List Frame) : State where
  vm := { classes := classes, interned := interned.toArray }
  heap := heap
  slotsUsed := slotsUsed
  threads := #[{ frames := .invoking theMethod args0 :: below }]
def below0 : List Frame := [.native { method := ⟨0, 0⟩, args := #[] }]
def about1 : State := aboutOver below0
def p0 : Program := .bare "" "" ""
def e0 : Env := launch0.env 0 0 0
theorem w_frames : about1.frames = Frame.invoking theMethod args0 :: below0 := rfl
set_option maxRecDepth 65536 in
theorem w_args : argsFit about1.vm theMethod args0 = true := by decide +kernel
set_option maxRecDepth 65536 in
theorem w_heap : heapFits about1 = true := by decide +kernel
set_option maxRecDepth 65536 in
theorem w_runnable : about1.curStatus? = some .runnable := by decide +kernel
set_option maxRecDepth 65536 in
theorem w_alone : about1.alone = true := by decide +kernel
set_option maxRecDepth 65536 in
theorem w_named : about1.methodNamed? x = some theMethod := by decide +kernel
set_option maxRecDepth 65536 in
theorem w_hears : about1.hears theMethod below0 = true := by decide +kernel
set_option maxRecDepth 65536 in
theorem w_ripe : about1.ripe theMethod args0 below0 = true := by decide +kernel
theorem w_running : about1.status = .running := rfl
set_option maxRecDepth 65536 in
theorem w_room : about1.hasRoom e0.platform room_1 = true :=
  launch0.hasRoom_least _ room_1 (by decide +kernel) (by decide +kernel) (by decide +kernel) (by decide +kernel) (by decide +kernel) (by decide +kernel)
theorem allAtoms_all (ts : List Jvm.Cond) (a : Array Jvm.Value) (st : Jvm.State) : (allAtoms ts).before a st = ts.all (fun c => c.before a st) := by
  induction ts with
  | nil => rfl
  | cons c t ih =>
    show (Jvm.Cond.and c (allAtoms t)).before a st = _
    rw [Jvm.Cond.before_and, ih, List.all_cons]
def words1 : List Jvm.Cond := Jvm.Cond.code x code maxLocals ret :: tables_1
/-- a 'code' word, met by the world's own term for the bytes: nothing is compared byte by byte -/
theorem code_word {y : MethodName} {bytes : ByteArray} {mx : Nat} {rt : Option FieldType} {a : Array Value} {s : State} {m : MethodId} {meth : Method} {c : Code} (h1 : s.methodNamed? y = some m) (h2 : s.vm.method? m = some meth) (h3 : meth.code = some c) (h4 : c.code = bytes)
    (h5 : (c.maxLocals == mx && c.exceptionTable.isEmpty && decide (c.maxStack ≤ mostOperands) && decide (meth.sig.returnType = rt) && !meth.locks && decide (parseMethodDescriptor y.desc = some meth.sig)) = true) : (Jvm.Cond.code y bytes mx rt).before a s = true := by
  simp only [Bool.and_eq_true, beq_iff_eq, Bool.not_eq_true', decide_eq_true_eq] at h5
  obtain ⟨⟨⟨⟨⟨g1, g2⟩, g3⟩, g4⟩, g5⟩, g6⟩ := h5
  simp [Cond.before, Cond.holds, Cond.value, h1, h2, h3, h4, g1, g2, g3, g4, g5, g6]
def isCode : Jvm.Cond → Bool
  | .code _ _ _ _ => true
  | _ => false
theorem all_split {L : List Jvm.Cond} {P : Jvm.Cond → Bool} (h1 : L.all (fun c => isCode c || P c) = true) (h2 : ∀ c ∈ L.filter isCode, P c = true) : L.all P = true := by
  refine List.all_eq_true.mpr fun c hc => ?_
  have h := List.all_eq_true.mp h1 c hc
  rcases Bool.eq_false_or_eq_true (isCode c) with hi | hi
  · exact h2 c (List.mem_filter.mpr ⟨hc, hi⟩)
  · simpa [hi] using h
set_option maxRecDepth 65536 in
theorem w_c0 : (Jvm.Cond.code x code maxLocals ret).before args0 about1 = true := code_word (m := ⟨1, 1⟩) (meth := k1m1) (c := k1c1) (by decide +kernel) rfl rfl rfl (by decide +kernel)
set_option maxRecDepth 65536 in
theorem w_c1 : (Jvm.Cond.code ({ cls := "com/example/tool_port/toolport/http/HttpSyntaxIsFieldValuePinLaw", name := "draw", desc := "(I)C" } : Jvm.MethodName) method_3_code (1 : Nat) (Option.some Jvm.ClassFile.FieldType.char)).before args0 about1 = true := code_word (m := ⟨1, 2⟩) (meth := k1m2) (c := k1c2) (by decide +kernel) rfl rfl rfl (by decide +kernel)
set_option maxRecDepth 65536 in
theorem w_c2 : (Jvm.Cond.code ({ cls := "java/lang/String", name := "<init>", desc := "([C)V" } : Jvm.MethodName) jdk_42_method_3_code (2 : Nat) (Option.none : Option Jvm.ClassFile.FieldType)).before args0 about1 = true := code_word (m := ⟨7, 1⟩) (meth := k7m1) (c := k7c1) (by decide +kernel) rfl rfl rfl (by decide +kernel)
set_option maxRecDepth 65536 in
theorem w_c3 : (Jvm.Cond.code ({ cls := "java/lang/String", name := "<init>", desc := "([CIILjava/lang/Void;)V" } : Jvm.MethodName) jdk_42_method_149_code (6 : Nat) (Option.none : Option Jvm.ClassFile.FieldType)).before args0 about1 = true := code_word (m := ⟨7, 4⟩) (meth := k7m4) (c := k7c4) (by decide +kernel) rfl rfl rfl (by decide +kernel)
set_option maxRecDepth 65536 in
theorem w_c4 : (Jvm.Cond.code ({ cls := "java/lang/Object", name := "<init>", desc := "()V" } : Jvm.MethodName) object_method_1_code (1 : Nat) (Option.none : Option Jvm.ClassFile.FieldType)).before args0 about1 = true := code_word (m := ⟨0, 0⟩) (meth := k0m0) (c := k0c0) (by decide +kernel) rfl rfl rfl (by decide +kernel)
set_option maxRecDepth 65536 in
theorem w_c5 : (Jvm.Cond.code ({ cls := "com/example/tool_port/toolport/http/HttpSyntax", name := "isFieldValue", desc := "(Ljava/lang/String;)Z" } : Jvm.MethodName) prog_33_method_3_code (2 : Nat) (Option.some Jvm.ClassFile.FieldType.boolean)).before args0 about1 = true := code_word (m := ⟨8, 1⟩) (meth := k8m1) (c := k8c1) (by decide +kernel) rfl rfl rfl (by decide +kernel)
set_option maxRecDepth 65536 in
theorem w_c6 : (Jvm.Cond.code ({ cls := "java/lang/String", name := "length", desc := "()I" } : Jvm.MethodName) jdk_42_method_54_code (1 : Nat) (Option.some Jvm.ClassFile.FieldType.int)).before args0 about1 = true := code_word (m := ⟨7, 2⟩) (meth := k7m2) (c := k7c2) (by decide +kernel) rfl rfl rfl (by decide +kernel)
set_option maxRecDepth 65536 in
theorem w_c7 : (Jvm.Cond.code ({ cls := "java/lang/String", name := "coder", desc := "()B" } : Jvm.MethodName) jdk_42_method_152_code (1 : Nat) (Option.some Jvm.ClassFile.FieldType.byte)).before args0 about1 = true := code_word (m := ⟨7, 5⟩) (meth := k7m5) (c := k7c5) (by decide +kernel) rfl rfl rfl (by decide +kernel)
set_option maxRecDepth 65536 in
theorem w_c8 : (Jvm.Cond.code ({ cls := "java/lang/StringUTF16", name := "compress", desc := "([CII)[B" } : Jvm.MethodName) jdk_52_method_16_code (6 : Nat) (Option.some (Jvm.ClassFile.FieldType.array Jvm.ClassFile.FieldType.byte))).before args0 about1 = true := code_word (m := ⟨9, 8⟩) (meth := k9m8) (c := k9c8) (by decide +kernel) rfl rfl rfl (by decide +kernel)
set_option maxRecDepth 65536 in
theorem w_c9 : (Jvm.Cond.code ({ cls := "java/lang/StringUTF16", name := "compress", desc := "([CI[BII)I" } : Jvm.MethodName) jdk_52_method_21_code (7 : Nat) (Option.some Jvm.ClassFile.FieldType.int)).before args0 about1 = true := code_word (m := ⟨9, 9⟩) (meth := k9m9) (c := k9c9) (by decide +kernel) rfl rfl rfl (by decide +kernel)
set_option maxRecDepth 65536 in
theorem w_c10 : (Jvm.Cond.code ({ cls := "java/lang/StringUTF16", name := "coderFromArrayLen", desc := "([BI)B" } : Jvm.MethodName) jdk_52_method_15_code (2 : Nat) (Option.some Jvm.ClassFile.FieldType.byte)).before args0 about1 = true := code_word (m := ⟨9, 7⟩) (meth := k9m7) (c := k9c7) (by decide +kernel) rfl rfl rfl (by decide +kernel)
set_option maxRecDepth 65536 in
theorem w_c11 : (Jvm.Cond.code ({ cls := "com/example/tool_port/toolport/http/HttpSyntaxIsFieldValuePinLaw", name := "ok", desc := "(C)Z" } : Jvm.MethodName) method_4_code (2 : Nat) (Option.some Jvm.ClassFile.FieldType.boolean)).before args0 about1 = true := code_word (m := ⟨1, 3⟩) (meth := k1m3) (c := k1c3) (by decide +kernel) rfl rfl rfl (by decide +kernel)
set_option maxRecDepth 65536 in
theorem w_c12 : (Jvm.Cond.code ({ cls := "java/lang/String", name := "charAt", desc := "(I)C" } : Jvm.MethodName) jdk_42_method_56_code (2 : Nat) (Option.some Jvm.ClassFile.FieldType.char)).before args0 about1 = true := code_word (m := ⟨7, 3⟩) (meth := k7m3) (c := k7c3) (by decide +kernel) rfl rfl rfl (by decide +kernel)
set_option maxRecDepth 65536 in
theorem w_c13 : (Jvm.Cond.code ({ cls := "java/lang/String", name := "isLatin1", desc := "()Z" } : Jvm.MethodName) jdk_42_method_154_code (1 : Nat) (Option.some Jvm.ClassFile.FieldType.boolean)).before args0 about1 = true := code_word (m := ⟨7, 6⟩) (meth := k7m6) (c := k7c6) (by decide +kernel) rfl rfl rfl (by decide +kernel)
set_option maxRecDepth 65536 in
theorem w_c14 : (Jvm.Cond.code ({ cls := "java/lang/StringLatin1", name := "charAt", desc := "([BI)C" } : Jvm.MethodName) jdk_43_method_2_code (2 : Nat) (Option.some Jvm.ClassFile.FieldType.char)).before args0 about1 = true := code_word (m := ⟨10, 1⟩) (meth := k10m1) (c := k10c1) (by decide +kernel) rfl rfl rfl (by decide +kernel)
set_option maxRecDepth 65536 in
theorem w_c15 : (Jvm.Cond.code ({ cls := "java/lang/String", name := "checkIndex", desc := "(II)V" } : Jvm.MethodName) jdk_42_method_155_code (2 : Nat) (Option.none : Option Jvm.ClassFile.FieldType)).before args0 about1 = true := code_word (m := ⟨7, 7⟩) (meth := k7m7) (c := k7c7) (by decide +kernel) rfl rfl rfl (by decide +kernel)
set_option maxRecDepth 65536 in
theorem w_c16 : (Jvm.Cond.code ({ cls := "jdk/internal/util/Preconditions", name := "checkIndex", desc := "(IILjava/util/function/BiFunction;)I" } : Jvm.MethodName) jdk_41_method_11_code (3 : Nat) (Option.some Jvm.ClassFile.FieldType.int)).before args0 about1 = true := code_word (m := ⟨11, 1⟩) (meth := k11m1) (c := k11c1) (by decide +kernel) rfl rfl rfl (by decide +kernel)
set_option maxRecDepth 65536 in
theorem w_c17 : (Jvm.Cond.code ({ cls := "com/example/tool_port/toolport/http/HttpSyntax", name := "isFieldValueChar", desc := "(I)Z" } : Jvm.MethodName) prog_33_method_5_code (1 : Nat) (Option.some Jvm.ClassFile.FieldType.boolean)).before args0 about1 = true := code_word (m := ⟨8, 2⟩) (meth := k8m2) (c := k8c2) (by decide +kernel) rfl rfl rfl (by decide +kernel)
set_option maxRecDepth 65536 in
theorem w_c18 : (Jvm.Cond.code ({ cls := "java/lang/StringUTF16", name := "toBytes", desc := "([CII)[B" } : Jvm.MethodName) jdk_52_method_14_code (5 : Nat) (Option.some (Jvm.ClassFile.FieldType.array Jvm.ClassFile.FieldType.byte))).before args0 about1 = true := code_word (m := ⟨9, 6⟩) (meth := k9m6) (c := k9c6) (by decide +kernel) rfl rfl rfl (by decide +kernel)
set_option maxRecDepth 65536 in
theorem w_c19 : (Jvm.Cond.code ({ cls := "java/lang/StringUTF16", name := "newBytesFor", desc := "(I)[B" } : Jvm.MethodName) jdk_52_method_2_code (1 : Nat) (Option.some (Jvm.ClassFile.FieldType.array Jvm.ClassFile.FieldType.byte))).before args0 about1 = true := code_word (m := ⟨9, 1⟩) (meth := k9m1) (c := k9c1) (by decide +kernel) rfl rfl rfl (by decide +kernel)
set_option maxRecDepth 65536 in
theorem w_c20 : (Jvm.Cond.code ({ cls := "java/lang/StringUTF16", name := "newBytesLength", desc := "(I)I" } : Jvm.MethodName) jdk_52_method_3_code (1 : Nat) (Option.some Jvm.ClassFile.FieldType.int)).before args0 about1 = true := code_word (m := ⟨9, 2⟩) (meth := k9m2) (c := k9c2) (by decide +kernel) rfl rfl rfl (by decide +kernel)
set_option maxRecDepth 65536 in
theorem w_c21 : (Jvm.Cond.code ({ cls := "java/lang/StringUTF16", name := "putChar", desc := "([BII)V" } : Jvm.MethodName) jdk_52_method_4_code (3 : Nat) (Option.none : Option Jvm.ClassFile.FieldType)).before args0 about1 = true := code_word (m := ⟨9, 3⟩) (meth := k9m3) (c := k9c3) (by decide +kernel) rfl rfl rfl (by decide +kernel)
set_option maxRecDepth 65536 in
theorem w_c22 : (Jvm.Cond.code ({ cls := "java/lang/StringUTF16", name := "getChar", desc := "([BI)C" } : Jvm.MethodName) jdk_52_method_5_code (2 : Nat) (Option.some Jvm.ClassFile.FieldType.char)).before args0 about1 = true := code_word (m := ⟨9, 4⟩) (meth := k9m4) (c := k9c4) (by decide +kernel) rfl rfl rfl (by decide +kernel)
set_option maxRecDepth 65536 in
theorem w_c23 : (Jvm.Cond.code ({ cls := "java/lang/StringUTF16", name := "charAt", desc := "([BI)C" } : Jvm.MethodName) jdk_52_method_83_code (2 : Nat) (Option.some Jvm.ClassFile.FieldType.char)).before args0 about1 = true := code_word (m := ⟨9, 10⟩) (meth := k9m10) (c := k9c10) (by decide +kernel) rfl rfl rfl (by decide +kernel)
set_option maxRecDepth 65536 in
theorem w_c24 : (Jvm.Cond.code ({ cls := "java/lang/StringUTF16", name := "checkIndex", desc := "(I[B)V" } : Jvm.MethodName) jdk_52_method_91_code (2 : Nat) (Option.none : Option Jvm.ClassFile.FieldType)).before args0 about1 = true := code_word (m := ⟨9, 11⟩) (meth := k9m11) (c := k9c11) (by decide +kernel) rfl rfl rfl (by decide +kernel)
set_option maxRecDepth 65536 in
theorem w_c25 : (Jvm.Cond.code ({ cls := "java/lang/StringUTF16", name := "length", desc := "([B)I" } : Jvm.MethodName) jdk_52_method_6_code (1 : Nat) (Option.some Jvm.ClassFile.FieldType.int)).before args0 about1 = true := code_word (m := ⟨9, 5⟩) (meth := k9m5) (c := k9c5) (by decide +kernel) rfl rfl rfl (by decide +kernel)
def codes1 : List Jvm.Cond := [Jvm.Cond.code x code maxLocals ret, Jvm.Cond.code ({ cls := "com/example/tool_port/toolport/http/HttpSyntaxIsFieldValuePinLaw", name := "draw", desc := "(I)C" } : Jvm.MethodName) method_3_code (1 : Nat) (Option.some Jvm.ClassFile.FieldType.char), Jvm.Cond.code ({ cls := "java/lang/String", name := "<init>", desc := "([C)V" } : Jvm.MethodName) jdk_42_method_3_code (2 : Nat) (Option.none : Option Jvm.ClassFile.FieldType), Jvm.Cond.code ({ cls := "java/lang/String", name := "<init>", desc := "([CIILjava/lang/Void;)V" } : Jvm.MethodName) jdk_42_method_149_code (6 : Nat) (Option.none : Option Jvm.ClassFile.FieldType), Jvm.Cond.code ({ cls := "java/lang/Object", name := "<init>", desc := "()V" } : Jvm.MethodName) object_method_1_code (1 : Nat) (Option.none : Option Jvm.ClassFile.FieldType), Jvm.Cond.code ({ cls := "com/example/tool_port/toolport/http/HttpSyntax", name := "isFieldValue", desc := "(Ljava/lang/String;)Z" } : Jvm.MethodName) prog_33_method_3_code (2 : Nat) (Option.some Jvm.ClassFile.FieldType.boolean), Jvm.Cond.code ({ cls := "java/lang/String", name := "length", desc := "()I" } : Jvm.MethodName) jdk_42_method_54_code (1 : Nat) (Option.some Jvm.ClassFile.FieldType.int), Jvm.Cond.code ({ cls := "java/lang/String", name := "coder", desc := "()B" } : Jvm.MethodName) jdk_42_method_152_code (1 : Nat) (Option.some Jvm.ClassFile.FieldType.byte), Jvm.Cond.code ({ cls := "java/lang/StringUTF16", name := "compress", desc := "([CII)[B" } : Jvm.MethodName) jdk_52_method_16_code (6 : Nat) (Option.some (Jvm.ClassFile.FieldType.array Jvm.ClassFile.FieldType.byte)), Jvm.Cond.code ({ cls := "java/lang/StringUTF16", name := "compress", desc := "([CI[BII)I" } : Jvm.MethodName) jdk_52_method_21_code (7 : Nat) (Option.some Jvm.ClassFile.FieldType.int), Jvm.Cond.code ({ cls := "java/lang/StringUTF16", name := "coderFromArrayLen", desc := "([BI)B" } : Jvm.MethodName) jdk_52_method_15_code (2 : Nat) (Option.some Jvm.ClassFile.FieldType.byte), Jvm.Cond.code ({ cls := "com/example/tool_port/toolport/http/HttpSyntaxIsFieldValuePinLaw", name := "ok", desc := "(C)Z" } : Jvm.MethodName) method_4_code (2 : Nat) (Option.some Jvm.ClassFile.FieldType.boolean), Jvm.Cond.code ({ cls := "java/lang/String", name := "charAt", desc := "(I)C" } : Jvm.MethodName) jdk_42_method_56_code (2 : Nat) (Option.some Jvm.ClassFile.FieldType.char), Jvm.Cond.code ({ cls := "java/lang/String", name := "isLatin1", desc := "()Z" } : Jvm.MethodName) jdk_42_method_154_code (1 : Nat) (Option.some Jvm.ClassFile.FieldType.boolean), Jvm.Cond.code ({ cls := "java/lang/StringLatin1", name := "charAt", desc := "([BI)C" } : Jvm.MethodName) jdk_43_method_2_code (2 : Nat) (Option.some Jvm.ClassFile.FieldType.char), Jvm.Cond.code ({ cls := "java/lang/String", name := "checkIndex", desc := "(II)V" } : Jvm.MethodName) jdk_42_method_155_code (2 : Nat) (Option.none : Option Jvm.ClassFile.FieldType), Jvm.Cond.code ({ cls := "jdk/internal/util/Preconditions", name := "checkIndex", desc := "(IILjava/util/function/BiFunction;)I" } : Jvm.MethodName) jdk_41_method_11_code (3 : Nat) (Option.some Jvm.ClassFile.FieldType.int), Jvm.Cond.code ({ cls := "com/example/tool_port/toolport/http/HttpSyntax", name := "isFieldValueChar", desc := "(I)Z" } : Jvm.MethodName) prog_33_method_5_code (1 : Nat) (Option.some Jvm.ClassFile.FieldType.boolean), Jvm.Cond.code ({ cls := "java/lang/StringUTF16", name := "toBytes", desc := "([CII)[B" } : Jvm.MethodName) jdk_52_method_14_code (5 : Nat) (Option.some (Jvm.ClassFile.FieldType.array Jvm.ClassFile.FieldType.byte)), Jvm.Cond.code ({ cls := "java/lang/StringUTF16", name := "newBytesFor", desc := "(I)[B" } : Jvm.MethodName) jdk_52_method_2_code (1 : Nat) (Option.some (Jvm.ClassFile.FieldType.array Jvm.ClassFile.FieldType.byte)), Jvm.Cond.code ({ cls := "java/lang/StringUTF16", name := "newBytesLength", desc := "(I)I" } : Jvm.MethodName) jdk_52_method_3_code (1 : Nat) (Option.some Jvm.ClassFile.FieldType.int), Jvm.Cond.code ({ cls := "java/lang/StringUTF16", name := "putChar", desc := "([BII)V" } : Jvm.MethodName) jdk_52_method_4_code (3 : Nat) (Option.none : Option Jvm.ClassFile.FieldType), Jvm.Cond.code ({ cls := "java/lang/StringUTF16", name := "getChar", desc := "([BI)C" } : Jvm.MethodName) jdk_52_method_5_code (2 : Nat) (Option.some Jvm.ClassFile.FieldType.char), Jvm.Cond.code ({ cls := "java/lang/StringUTF16", name := "charAt", desc := "([BI)C" } : Jvm.MethodName) jdk_52_method_83_code (2 : Nat) (Option.some Jvm.ClassFile.FieldType.char), Jvm.Cond.code ({ cls := "java/lang/StringUTF16", name := "checkIndex", desc := "(I[B)V" } : Jvm.MethodName) jdk_52_method_91_code (2 : Nat) (Option.none : Option Jvm.ClassFile.FieldType), Jvm.Cond.code ({ cls := "java/lang/StringUTF16", name := "length", desc := "([B)I" } : Jvm.MethodName) jdk_52_method_6_code (1 : Nat) (Option.some Jvm.ClassFile.FieldType.int)]
set_option maxRecDepth 65536 in
theorem codes_eq : words1.filter isCode = codes1 := rfl
theorem w_codes : ∀ c ∈ words1.filter isCode, c.before args0 about1 = true := by
  rw [codes_eq]
  intro c hc
  simp only [codes1, List.mem_cons, List.not_mem_nil, or_false] at hc
  rcases hc with rfl | rfl | rfl | rfl | rfl | rfl | rfl | rfl | rfl | rfl | rfl | rfl | rfl | rfl | rfl | rfl | rfl | rfl | rfl | rfl | rfl | rfl | rfl | rfl | rfl | rfl
  · exact w_c0
  · exact w_c1
  · exact w_c2
  · exact w_c3
  · exact w_c4
  · exact w_c5
  · exact w_c6
  · exact w_c7
  · exact w_c8
  · exact w_c9
  · exact w_c10
  · exact w_c11
  · exact w_c12
  · exact w_c13
  · exact w_c14
  · exact w_c15
  · exact w_c16
  · exact w_c17
  · exact w_c18
  · exact w_c19
  · exact w_c20
  · exact w_c21
  · exact w_c22
  · exact w_c23
  · exact w_c24
  · exact w_c25
set_option maxRecDepth 65536 in
theorem w_t1 : (words1.take 24).all (fun c => isCode c || c.before args0 about1) = true := by decide +kernel
set_option maxRecDepth 65536 in
theorem w_t2 : ((words1.drop 24).take 24).all (fun c => isCode c || c.before args0 about1) = true := by decide +kernel
set_option maxRecDepth 65536 in
theorem w_t3 : (((words1.drop 24).drop 24).take 24).all (fun c => isCode c || c.before args0 about1) = true := by decide +kernel
set_option maxRecDepth 65536 in
theorem w_t4 : ((((words1.drop 24).drop 24).drop 24).take 24).all (fun c => isCode c || c.before args0 about1) = true := by decide +kernel
set_option maxRecDepth 65536 in
theorem w_t5 : ((((words1.drop 24).drop 24).drop 24).drop 24).all (fun c => isCode c || c.before args0 about1) = true := by decide +kernel
theorem w_tables : (allAtoms (Jvm.Cond.code x code maxLocals ret :: tables_1)).before args0 about1 = true := by
  rw [allAtoms_all]
  show words1.all (fun c => c.before args0 about1) = true
  refine all_split ?_ w_codes
  rw [← List.take_append_drop 24 words1, List.all_append, w_t1, ← List.take_append_drop 24 (words1.drop 24), List.all_append, w_t2, ← List.take_append_drop 24 ((words1.drop 24).drop 24), List.all_append, w_t3, ← List.take_append_drop 24 (((words1.drop 24).drop 24).drop 24), List.all_append, w_t4, w_t5]
  rfl
set_option maxRecDepth 65536 in
theorem w_rest : rest_1_c.before args0 about1 = true := by decide +kernel
set_option maxRecDepth 65536 in
theorem w_case : (Jvm.Cond.and given_1 narrow_1).before args0 about1 = true := by decide +kernel
set_option maxRecDepth 65536 in
theorem w_consts : constsHeld consts_1 about1 := Jvm.Lit.constsHeldB_iff.mp (by decide +kernel)
theorem w_applies : (headSpec (Jvm.Cond.code x code maxLocals ret :: tables_1) room_1).applies x e0.platform about1 = true :=
  (Spec.applies_iff w_frames).mpr ⟨w_running, w_runnable, w_alone, w_named, w_hears, w_ripe, w_room, w_tables⟩
theorem atStart : AtStart classFile x code maxLocals ret World_1 tables_1 room_1 Calls_1 rest_1 Pre_1 launch0 p0 e0 about1 theMethod args0 below0 :=
  ⟨lists_1, trivial, launch0.admits_env _ _ _, launch0.least_env, fairChoices_fair.cas, fairChoices_fair.clock, w_frames, w_args, w_heap, w_applies, ⟨w_consts, trivial⟩, w_rest, w_case⟩
end start1
theorem witness_1 : WitnessClaimed_1 := ⟨start1.p0, start1.e0, start1.about1, start1.theMethod, start1.args0, start1.below0, start1.atStart⟩
end Jvm.Pilot.@@N@@
