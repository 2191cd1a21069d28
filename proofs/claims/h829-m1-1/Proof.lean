import JvmDerived
import JvmDerived.Pilot.@@N@@Statement
import JvmDerived.Pilot.@@N@@Code
set_option linter.unusedVariables false
set_option linter.unusedSimpArgs false

namespace Jvm.OwnW
open Sem ClassFile Op Lib Jvm.Stand Jvm.Free Jvm.LawKit Jvm.RoadKit
/-! THE LAYER: a walk's state is (cells, slots, what is known of the new cells, pc, locals, stack); 'Go' says that from there the body returns with Q. -/
abbrev Fds := List (String × String × String × Value)
abbrev Desc := (String × Fds) ⊕ (FieldType × List Value)
abbrev Mem := List (Addr × Desc)
abbrev Bdy := MethodName × ByteArray × Nat × Option FieldType × Room
abbrev ob (a : Addr) (C : String) (fs : Fds) : Addr × Desc := (a, .inl (C, fs))
abbrev ar (a : Addr) (ty : FieldType) (vs : List Value) : Addr × Desc := (a, .inr (ty, vs))
def Holds (Z : State) (a0 : Array Value) (h : Heap) (a : Addr) : Desc → Prop
  | .inl (C, fs) => Exa Z h a C ∧ (∀ f ∈ fs, Fld Z h a f.1 f.2.1 f.2.2.1 f.2.2.2 ∧ Laid Z a0 C f.1 f.2.1 f.2.2.1 ∧ ∃ ty, parseFieldDescriptor f.2.2.1 = some ty) ∧ (fs.map (·.2.1)).Nodup
  | .inr (ty, vs) => ∃ c : Cell, Arr Z h a c ty ∧ c.slots.toList = vs ∧ (∀ C, ty = .object C → Ovr Z c.cls C)
def Mo (Z : State) (a0 : Array Value) (h0 : Heap) (ds : Mem) (h : Heap) : Prop :=
  Ext h0 h ∧ (∀ q ∈ ds, h0.size ≤ q.1 ∧ Holds Z a0 h q.1 q.2) ∧ ds.Pairwise (fun q r => q.1 ≠ r.1)
section Facts
variable {Z : State} {a0 : Array Value} {h h' h0 : Heap} {a b : Addr} {D D' : Desc} {ds : Mem} {i : Nat} {sl : Nat} {v : Value}
theorem Holds.lt (H : Holds Z a0 h a D) : a < h.size := by
  rcases D with ⟨C, fs⟩ | ⟨ty, vs⟩
  · exact H.1.lt
  · obtain ⟨c, A, -⟩ := H; exact A.lt
theorem Holds.ext (E : Ext h h') (H : Holds Z a0 h a D) : Holds Z a0 h' a D := by
  rcases D with ⟨C, fs⟩ | ⟨ty, vs⟩
  · exact ⟨H.1.ext E, fun f hf => ⟨(H.2.1 f hf).1.ext E, (H.2.1 f hf).2⟩, H.2.2⟩
  · obtain ⟨c, A, r⟩ := H; exact ⟨c, A.ext E, r⟩
theorem Holds.other (W : Wr h h' a sl v) (H : Holds Z a0 h b D) (q : b ≠ a) : Holds Z a0 h' b D := by
  rcases D with ⟨C, fs⟩ | ⟨ty, vs⟩
  · exact ⟨H.1.wr W, fun f hf => ⟨(H.2.1 f hf).1.other W (Or.inl q), (H.2.1 f hf).2⟩, H.2.2⟩
  · obtain ⟨c, A, r⟩ := H; exact ⟨c, A.other W q, r⟩
theorem Holds.frame {as : List Addr} (K : ∀ (x : Addr) (c : Cell), h[x]? = some c → x ∉ as → h'[x]? = some c) (q : a ∉ as) (H : Holds Z a0 h a D) : Holds Z a0 h' a D := by
  rcases D with ⟨C, fs⟩ | ⟨ty, vs⟩
  · obtain ⟨⟨cell, k, h1, r⟩, F, nd⟩ := H
    refine ⟨⟨cell, k, K _ _ h1 q, r⟩, fun f hf => ?_, nd⟩
    obtain ⟨⟨cell, cf, k, i, f', g1, g⟩, L⟩ := F f hf
    exact ⟨⟨cell, cf, k, i, f', K _ _ g1 q, g⟩, L⟩
  · obtain ⟨c, A, r⟩ := H; exact ⟨c, ⟨K _ _ A.1 q, A.2⟩, r⟩
theorem Ext.refl (h : Heap) : Ext h h := ⟨Nat.le_refl _, fun _ _ q => q⟩
theorem Ext.trans {h1 h2 h3 : Heap} (E : Ext h1 h2) (F : Ext h2 h3) : Ext h1 h3 := ⟨Nat.le_trans E.1 F.1, fun x c q => F.2 x c (E.2 x c q)⟩
theorem Mo.start (Z : State) (a0 : Array Value) (h : Heap) : Mo Z a0 h [] h := ⟨Ext.refl h, fun _ q => (nomatch q), List.Pairwise.nil⟩
theorem Mo.ext (M : Mo Z a0 h0 ds h) (E : Ext h h') : Mo Z a0 h0 ds h' := ⟨Ext.trans M.1 E, fun q hq => ⟨(M.2.1 q hq).1, (M.2.1 q hq).2.ext E⟩, M.2.2⟩
theorem Mo.add (M : Mo Z a0 h0 ds h) (E : Ext h h') (H : Holds Z a0 h' h.size D) : Mo Z a0 h0 (ds ++ [(h.size, D)]) h' := by
  have M' := M.ext E
  refine ⟨M'.1, fun q hq => ?_, List.pairwise_append.mpr ⟨M.2.2, List.pairwise_singleton _ _, fun q hq r hr => ?_⟩⟩
  · rcases List.mem_append.mp hq with hq | hq
    · exact M'.2.1 q hq
    · cases List.mem_singleton.mp hq; exact ⟨M.1.1, H⟩
  · cases List.mem_singleton.mp hr
    exact Nat.ne_of_lt (M.2.1 q hq).2.lt
theorem Mo.at (M : Mo Z a0 h0 ds h) (hi : ds[i]? = some (a, D)) : Holds Z a0 h a D := (M.2.1 _ (List.mem_of_getElem? hi)).2
theorem Mo.new (M : Mo Z a0 h0 ds h) (hi : ds[i]? = some (a, D)) : h0.size ≤ a := (M.2.1 _ (List.mem_of_getElem? hi)).1
theorem Mo.ne (M : Mo Z a0 h0 ds h) {j : Nat} (hi : ds[i]? = some (a, D)) (hj : ds[j]? = some (b, D')) (q : i ≠ j) : a ≠ b := by
  obtain ⟨li, ei⟩ := List.getElem?_eq_some_iff.mp hi
  obtain ⟨lj, ej⟩ := List.getElem?_eq_some_iff.mp hj
  have P := List.pairwise_iff_getElem.mp M.2.2
  rcases Nat.lt_or_gt_of_ne q with q | q
  · have := P i j li lj q; rw [ei, ej] at this; exact this
  · have := P j i lj li q; rw [ei, ej] at this; exact this.symm
theorem Mo.exa {C : String} {fs : Fds} (hi : ds[i]? = some (a, .inl (C, fs))) : ∀ h, Mo Z a0 h0 ds h → Exa Z h a C := fun h M => (M.at hi).1
theorem Mo.wr (M : Mo Z a0 h0 ds h) (hi : ds[i]? = some (a, D)) (W : Wr h h' a sl v) (H : Holds Z a0 h' a D') : Mo Z a0 h0 (ds.set i (a, D')) h' := by
  have n0 := M.new hi
  refine ⟨⟨by rw [W.size]; exact M.1.1, fun x c q => ?_⟩, fun q hq => ?_, ?_⟩
  · obtain ⟨c', e1, -, -, -, e5, -⟩ := wr_at W (M.1.2 x c q)
    rw [← e5 (Nat.ne_of_lt (Nat.lt_of_lt_of_le (Array.getElem?_eq_some_iff.mp q).1 n0))]; exact e1
  · obtain ⟨j, hj⟩ := List.getElem?_of_mem hq
    by_cases e : i = j
    · subst e
      rw [List.getElem?_set_self (List.getElem?_eq_some_iff.mp hi).1] at hj
      cases hj; exact ⟨n0, H⟩
    · rw [List.getElem?_set_ne e] at hj
      exact ⟨M.new hj, (M.at hj).other W (M.ne hj hi (Ne.symm e))⟩
  · refine List.pairwise_iff_getElem.mpr fun j j' l1 l2 q => ?_
    rw [List.length_set] at l1 l2
    have P := List.pairwise_iff_getElem.mp M.2.2 j j' l1 l2 q
    obtain ⟨li, ei⟩ := List.getElem?_eq_some_iff.mp hi
    rw [List.getElem_set, List.getElem_set]
    split
    · rename_i e; subst e
      rw [if_neg (Nat.ne_of_lt q)]
      rw [ei] at P; exact P
    · split
      · rename_i e; subst e; rw [ei] at P; exact P
      · exact P
/-- what has been touched since hs: of its cells at most those in 'as' -/
def Tr (hs : Heap) (as : List Addr) (ds : Mem) (h : Heap) : Prop :=
  hs.size ≤ h.size ∧ (∀ (x : Addr) (c : Cell), hs[x]? = some c → x ∉ as → h[x]? = some c) ∧ ∀ q ∈ ds, q.1 ∈ as ∨ hs.size ≤ q.1
theorem Tr.start (h : Heap) (ds : Mem) : Tr h (ds.map (·.1)) ds h := ⟨Nat.le_refl _, fun _ _ q _ => q, fun q hq => Or.inl (List.mem_map.mpr ⟨q, hq, rfl⟩)⟩
section Trs
variable {hs : Heap} {as : List Addr}
theorem Tr.ext (R : Tr hs as ds h) (E : Ext h h') : Tr hs as ds h' := ⟨Nat.le_trans R.1 E.1, fun x c q r => E.2 x c (R.2.1 x c q r), R.2.2⟩
theorem Tr.add (R : Tr hs as ds h) (E : Ext h h') : Tr hs as (ds ++ [(h.size, D)]) h' := ⟨Nat.le_trans R.1 E.1, fun x c q r => E.2 x c (R.2.1 x c q r), fun q hq => by
  rcases List.mem_append.mp hq with hq | hq
  · exact R.2.2 q hq
  · cases List.mem_singleton.mp hq; exact Or.inr R.1⟩
theorem Tr.out (R : Tr hs as ds h) {q : Addr × Desc} (hq : q ∈ ds) {x : Addr} {c : Cell} (hx : hs[x]? = some c) (hn : x ∉ as) : x ≠ q.1 := fun e => by
  rcases R.2.2 q hq with r | r
  · exact hn (e ▸ r)
  · exact absurd (Array.getElem?_eq_some_iff.mp hx).1 (Nat.not_lt.mpr (e ▸ r))
theorem Tr.wr (R : Tr hs as ds h) (hi : ds[i]? = some (a, D)) (W : Wr h h' a sl v) : Tr hs as (ds.set i (a, D')) h' := by
  refine ⟨by rw [W.size]; exact R.1, fun x c q r => ?_, fun q hq => ?_⟩
  · obtain ⟨c', e1, -, -, -, e5, -⟩ := wr_at W (R.2.1 x c q r)
    rw [← e5 (R.out (List.mem_of_getElem? hi) q r)]; exact e1
  · obtain ⟨j, hj⟩ := List.getElem?_of_mem hq
    by_cases e : i = j
    · subst e
      rw [List.getElem?_set_self (List.getElem?_eq_some_iff.mp hi).1] at hj
      cases hj; exact R.2.2 (a, D) (List.mem_of_getElem? hi)
    · rw [List.getElem?_set_ne e] at hj; exact R.2.2 _ (List.mem_of_getElem? hj)
theorem Tr.call {ds' : Mem} (R : Tr hs as ds h) (R' : Tr h (ds.map (·.1)) ds' h') : Tr hs as ds' h' := by
  refine ⟨Nat.le_trans R.1 R'.1, fun x c q r => R'.2.1 x c (R.2.1 x c q r) fun m => ?_, fun q hq => ?_⟩
  · obtain ⟨e, he, rfl⟩ := List.mem_map.mp m; exact R.out he q r rfl
  · rcases R'.2.2 q hq with m | m
    · obtain ⟨e, he, e2⟩ := List.mem_map.mp m; rw [← e2]; exact R.2.2 e he
    · exact Or.inr (Nat.le_trans R.1 m)
end Trs
end Facts
def LaidL (Z : State) (a0 : Array Value) (C : String) : Fds → Prop
  | [] => True
  | f :: r => (Laid Z a0 C f.1 f.2.1 f.2.2.1 ∧ ∃ ty, parseFieldDescriptor f.2.2.1 = some ty ∧ defaultValue ty = f.2.2.2) ∧ LaidL Z a0 C r
theorem LaidL.mem {Z : State} {a0 : Array Value} {C : String} : ∀ {fs : Fds}, LaidL Z a0 C fs → ∀ f ∈ fs, Laid Z a0 C f.1 f.2.1 f.2.2.1 ∧ ∃ ty, parseFieldDescriptor f.2.2.1 = some ty ∧ defaultValue ty = f.2.2.2
  | [], _, _, hf => (nomatch hf)
  | g :: r, H, f, hf => by
    rcases List.mem_cons.mp hf with rfl | hf
    · exact H.1
    · exact LaidL.mem H.2 f hf
theorem wd {ws : List Jvm.Cond} {a0 : Array Value} {Z : State} (hw : ∀ d ∈ ws, d.before a0 Z = true) (i : Nat) {d : Jvm.Cond} (h : ws[i]? = some d) : d.before a0 Z = true := hw d (List.mem_of_getElem? h)
def Cx (B : Bdy) (Z : State) (p : Program) (s : State) (m : MethodId) (meth : Method) (c : Code) : Prop :=
  p.tables.exec = Jvm.exec ∧ Z.Warmed39 s.vm ∧ c.code = B.2.1 ∧ c.maxLocals = B.2.2.1 ∧ s.vm.findClass B.1.cls = some m.cls ∧ meth.sig.returnType = B.2.2.2.1 ∧ meth.locks = false ∧ meth.name = B.1.name
def Ends (B : Bdy) (Z : State) (a0 : Array Value) (h0 : Heap) (hs : Heap) (as : List Addr) (Q : Option Value → Mem → Prop) (p : Program) (e : Env) (below : List Frame) (s u : State) : Prop :=
  ∃ s₂ v L ds, Steps p.tables e below u s₂ ∧ s₂.status = .running ∧ Ended s₂ below (.returned v) ∧ Mo Z a0 h0 ds s₂.heap ∧ Tr hs as ds s₂.heap ∧ Q v ds ∧ Fr h0.size L ∧ FrameEnd s (.returned v) s₂ L B.2.2.2.2.cells B.2.2.2.2.slots
def Go (B : Bdy) (Z : State) (a0 : Array Value) (h0 : Heap) (Q : Option Value → Mem → Prop) (k n : Nat) (ds : Mem) (pc : Nat) (ls : Array Slot) (st : List Value) : Prop :=
  ∀ (p : Program) (l : Launch) (e : Env) (s : State) (m : MethodId) (args : Array Value) (below : List Frame) (meth : Method) (c : Code) (T : State) (locs : List Loc) (hs : Heap) (as : List Addr),
    Cx B Z p s m meth c → Stand p l e B.2.2.2.2 s m args below meth c T locs k n → Fr h0.size locs → Mo Z a0 h0 ds T.heap → Tr hs as ds T.heap → Ends B Z a0 h0 hs as Q p e below s (T.setTop (mkF m pc ls st))
/-- a callee's answer: this value, this memory -/
def Ret (v0 : Option Value) (ds0 : Mem) (v : Option Value) (ds : Mem) : Prop := v = v0 ∧ ds0 = ds
/-- a yes or no, the memory as it was -/
def Qz (P : Prop) (ds0 : Mem) (v : Option Value) (ds : Mem) : Prop := ∃ z : Int32, v = some (.int z) ∧ ds0 = ds ∧ (z.toInt = 1 ∧ P ∨ z.toInt = 0 ∧ ¬ P)
def MQ (Z : State) (a0 : Array Value) (h0 h : Heap) (as : List Addr) (Q : Option Value → Mem → Prop) (v : Option Value) (h' : Heap) (L : List Loc) : Prop := Fr h0.size L ∧ ∃ ds', Mo Z a0 h0 ds' h' ∧ Tr h as ds' h' ∧ Q v ds'
def Met (B : Bdy) (Z : State) (a0 : Array Value) (h0 : Heap) (as : Array Value) (ds : Mem) (Q : Option Value → Mem → Prop) : Prop :=
  ∀ (l : Launch) (ws : List Jvm.Cond) (h : Heap), Mo Z a0 h0 ds h → MetFree l B.1 (head1 (Jvm.Cond.code B.1 B.2.1 B.2.2.1 B.2.2.2.1 :: ws) B.2.2.2.2) (fun a U => a = as ∧ Z.Warmed39 U.vm ∧ U.heap = h) (fun _ _ _ _ _ => True)
    (fun _ U o U' => ∃ v L, o = .returned v ∧ MQ Z a0 h0 h (ds.map (·.1)) Q v U'.heap L ∧ FrameEnd U o U' L B.2.2.2.2.cells B.2.2.2.2.slots)
section Start
variable {args : Array Value} {s : State} {t : Term}
theorem eqI_v {k : Int32} {idx : List Nat} (h : (Jvm.Cond.eq t (.int k)).value args s none s idx = some true) : t.eval args s none idx s = some (.int k) := by
  have e : (Term.int k).eval args s none idx s = some (.int k) := rfl
  simp only [Cond.value, e] at h
  cases ht : t.eval args s none idx s with
  | none => simp [ht] at h
  | some x => cases x <;> simp [ht] at h ⊢; exact h
theorem eqJ_v {k : Int64} {idx : List Nat} (h : (Jvm.Cond.eq t (.long k)).value args s none s idx = some true) : t.eval args s none idx s = some (.long k) := by
  have e : (Term.long k).eval args s none idx s = some (.long k) := rfl
  simp only [Cond.value, e] at h
  cases ht : t.eval args s none idx s with
  | none => simp [ht] at h
  | some x => cases x <;> simp [ht] at h ⊢; exact h
theorem elem_ix {a : Addr} {cl : Cell} {i : Nat} (ev : ∀ idx, t.eval args s none idx s = some (.ref a)) (ha : s.arrayAt? a = some cl) (hi : i < 2 ^ 31) : (Term.elem t (.index 0)).eval args s none [i] s = cl.slots[i]? := by
  have q : i.toInt32.toInt = i := len_toInt hi
  have q2 : i.toInt32.toNatClampNeg = i := by simp only [Int32.toNatClampNeg, q]; rfl
  rw [elem_f (ev _) (j := i.toInt32) rfl ha (by rw [Int32.lt_iff_toInt_lt, q]; exact Int.not_lt.mpr (Int.natCast_nonneg i)), q2]
theorem eq_ix {a : Addr} {cl : Cell} {i : Nat} {v : Int32} (ev : ∀ idx, t.eval args s none idx s = some (.ref a)) (ha : s.arrayAt? a = some cl) (hi : i < 2 ^ 31) (h : (Jvm.Cond.eq (.elem t (.index 0)) (.int v)).value args s none s [i] = some true) : cl.slots[i]? = some (.int v) :=
  (elem_ix ev ha hi).symm.trans (eqI_v h)
theorem or_ix {G X : Jvm.Cond} {P : Prop} [Decidable P] {i : Nat} (h : (Jvm.Cond.or G X).value args s none s [i] = some true) (hG : G.value args s none s [i] = some (decide P)) (hp : ¬ P) : X.value args s none s [i] = some true := by
  rwa [Cond.or_of_right (nay hG hp)] at h
theorem le_ix {i : Nat} {k : Int32} : (Jvm.Cond.le (.int k) (.index 0)).value args s none s [i] = some (decide (k ≤ i.toInt32)) := by simp [Cond.value, Term.eval]
theorem lt_ix {i : Nat} {k : Int32} : (Jvm.Cond.lt (.index 0) (.int k)).value args s none s [i] = some (decide (i.toInt32 < k)) := by simp [Cond.value, Term.eval]
theorem one_ix {a : Addr} {cl : Cell} {k v : Int32} {i : Nat} (ev : t.eval args s none [] s = some (.ref a)) (hc : s.heap[a]? = some cl) (hi : k.toNatClampNeg = i) (h : (Jvm.Cond.eq (.elem t (.int k)) (.int v)).value args s none s [] = some true) : cl.slots[i]? = some (.int v) := by
  have q := (elem_in (eqI_v h) ev rfl hc).2
  rwa [hi] at q
theorem oneJ_ix {a : Addr} {cl : Cell} {k : Int32} {v : Int64} {i : Nat} (ev : t.eval args s none [] s = some (.ref a)) (hc : s.heap[a]? = some cl) (hi : k.toNatClampNeg = i) (h : (Jvm.Cond.eq (.elem t (.int k)) (.long v)).value args s none s [] = some true) : cl.slots[i]? = some (.long v) := by
  have q := (elem_in (eqJ_v h) ev rfl hc).2
  rwa [hi] at q
theorem len_ix {a : Addr} {cl : Cell} {k : Int32} (ev : t.eval args s none [] s = some (.ref a)) (ha : s.arrayAt? a = some cl) (hk : ¬ k < 0) (h : (Jvm.Cond.eq (.length t) (.int k)).value args s none s [] = some true) : cl.slots.size = k.toNatClampNeg ∧ cl.slots.size < 2 ^ 31 := by
  have q := eqI_v h
  simp only [Term.eval, ev, ha, Option.bind_eq_bind, Option.bind_some] at q
  split at q
  · rename_i hl
    have e : cl.slots.size.toInt32 = k := by simpa using q
    have l : cl.slots.size < 2 ^ 31 := by simpa using hl
    refine ⟨?_, l⟩
    rw [← e]; simp only [Int32.toNatClampNeg, len_toInt l]; rfl
  · simp at q
end Start
theorem cat1 {v : Value} (h : v.isRef = true) : v.category = 1 := by rcases ref_cases h with rfl | ⟨x, rfl⟩ <;> rfl
section Core
variable {B : Bdy} {Z : State} {a0 : Array Value} {h0 : Heap} {Q : Option Value → Mem → Prop} {k n : Nat} {ds : Mem} {pc : Nat} {ls : Array Slot} {st : List Value}
theorem Ends.back {hs : Heap} {as : List Addr} {p : Program} {e : Env} {below : List Frame} {s u u' : State} (F : Ends B Z a0 h0 hs as Q p e below s u') (hst : ∀ t, Steps p.tables e below u' t → Steps p.tables e below u t) : Ends B Z a0 h0 hs as Q p e below s u := by
  obtain ⟨s₂, v, L, ds, h1, r⟩ := F; exact ⟨s₂, v, L, ds, hst _ h1, r⟩
theorem Go.step {pc' : Nat} {ls' : Array Slot} {st' : List Value} (H : Go B Z a0 h0 Q k n ds pc' ls' st')
    (hs : ∀ {p : Program} {l : Launch} {e : Env} {s : State} {m : MethodId} {args : Array Value} {below : List Frame} {meth : Method} {c : Code} {T : State} {locs : List Loc}, Cx B Z p s m meth c → Stand p l e B.2.2.2.2 s m args below meth c T locs k n → Mo Z a0 h0 ds T.heap → ∀ t, Steps p.tables e below (T.setTop (mkF m pc' ls' st')) t → Steps p.tables e below (T.setTop (mkF m pc ls st)) t) :
    Go B Z a0 h0 Q k n ds pc ls st := fun p l e s m args below meth c T locs h1 as C X N M R => (H p l e s m args below meth c T locs h1 as C X N M R).back (hs C X M)
theorem Go.mono {Q' : Option Value → Mem → Prop} (H : Go B Z a0 h0 Q k n ds pc ls st) (hq : ∀ v ds', Q v ds' → Q' v ds') : Go B Z a0 h0 Q' k n ds pc ls st := fun p l e s m args below meth c T locs hs as C X N M R => by
  obtain ⟨s₂, v, L, ds', h1, h2, h3, h4, h4', h5, r⟩ := H p l e s m args below meth c T locs hs as C X N M R
  exact ⟨s₂, v, L, ds', h1, h2, h3, h4, h4', hq _ _ h5, r⟩
/-- what holds of every heap that the memory describes may be used -/
theorem Go.know {P : Prop} (hP : ∀ h, Mo Z a0 h0 ds h → P) (H : P → Go B Z a0 h0 Q k n ds pc ls st) : Go B Z a0 h0 Q k n ds pc ls st := fun p l e s m args below meth c T locs hs as C X N M R => H (hP _ M) p l e s m args below meth c T locs hs as C X N M R
theorem Go.more {k' n' : Nat} (H : Go B Z a0 h0 Q k' n' ds pc ls st) (hk : k ≤ k') (hn : n ≤ n') : Go B Z a0 h0 Q k n ds pc ls st := fun p l e s m args below meth c T locs hs as C X N M R => H p l e s m args below meth c T locs hs as C (X.more hk hn) N M R
theorem Go.sub {ds' : Mem} (hs : List.Sublist ds' ds) (H : Go B Z a0 h0 Q k n ds' pc ls st) : Go B Z a0 h0 Q k n ds pc ls st := fun p l e s m args below meth c T locs h1 as C X N M R =>
  H p l e s m args below meth c T locs h1 as C X N ⟨M.1, fun q hq => M.2.1 q (hs.subset hq), M.2.2.sublist hs⟩ ⟨R.1, R.2.1, fun q hq => R.2.2 q (hs.subset hq)⟩
theorem Mo.perm {ds' : Mem} {h : Heap} (hp : List.Perm ds' ds) (M : Mo Z a0 h0 ds h) : Mo Z a0 h0 ds' h := ⟨M.1, fun q hq => M.2.1 q (hp.mem_iff.mp hq), (hp.pairwise_iff (fun {a b} q => Ne.symm q)).mpr M.2.2⟩
theorem Go.perm {ds' : Mem} (hp : List.Perm ds' ds) (H : Go B Z a0 h0 Q k n ds' pc ls st) : Go B Z a0 h0 Q k n ds pc ls st := fun p l e s m args below meth c T locs hs as C X N M R =>
  H p l e s m args below meth c T locs hs as C X N (M.perm hp) ⟨R.1, R.2.1, fun q hq => R.2.2 q (hp.mem_iff.mp hq)⟩
/-- entry i to the front -/
theorem Go.front (i : Nat) (hi : i < ds.length) (H : Go B Z a0 h0 Q k n (ds[i] :: ds.eraseIdx i) pc ls st) : Go B Z a0 h0 Q k n ds pc ls st := Go.perm (by
  have e : ds = ds.take i ++ ds[i] :: ds.drop (i + 1) := by rw [List.getElem_cons_drop, List.take_append_drop]
  rw [List.eraseIdx_eq_take_drop_succ]
  exact (List.perm_middle.symm).trans (by rw [← e])) H
theorem Met.of {as : Array Value} (hp : plainFor B.1 = true) (he : ∀ m, entryFrame m as B.2.2.1 = mkF m 0 ls []) (H : Go B Z a0 h0 Q 0 0 ds 0 ls []) : Met B Z a0 h0 as ds Q := by
  intro l ws h M
  refine MetFree.of_bodySF hp hisR ?_
  intro p e s m args below meth c s₁ Bd hml hP _
  obtain ⟨rfl, hZ, hh⟩ := hP
  have hown : s.vm.findClass B.1.cls = some m.cls := findClass_of_methodNamed Bd.named
  have hnm := (name_of_methodNamed Bd.named Bd.method).1
  have e0 : s₁.heap = h := by rw [← hh, Bd.state]; rfl
  obtain ⟨s₂, v, L, ds', h1, h2, h3, h4, h4', h5, h6, h7⟩ := H p l e s m args below meth c s₁ [] h (ds.map (·.1)) ⟨Bd.exec, hZ, Bd.bytes, hml, hown, Bd.returns, Bd.notSynchronized, hnm⟩ (Stand.of_body Bd) (Fr.nil _) (by rw [e0]; exact M) (by rw [e0]; exact Tr.start h ds)
  exact ⟨s₂, _, castTop (he m) h1, h2, h3, v, L, rfl, ⟨h6, ds', h4, h4', h5⟩, h7⟩
theorem Met.mono {as : Array Value} {Q' : Option Value → Mem → Prop} (H : Met B Z a0 h0 as ds Q) (hq : ∀ v ds', Q v ds' → Q' v ds') : Met B Z a0 h0 as ds Q' := by
  intro l ws h M p e h1 h2 h3 s m args below h4 h5 h6 h7
  obtain ⟨n, o, g1, g2, g3, v, L, g4, ⟨g5, ds', g6, g6', g7⟩, g8⟩ := H l ws h M p e h1 h2 h3 s m args below h4 h5 h6 h7
  exact ⟨n, o, g1, g2, g3, v, L, g4, ⟨g5, ds', g6, g6', hq _ _ g7⟩, g8⟩
/-- the frame rule: what the callee doesn't know it leaves as it is -/
theorem Met.frame {as : Array Value} (rest : Mem) (H : Met B Z a0 h0 as ds Q) : Met B Z a0 h0 as (ds ++ rest) (fun v D => ∃ ds', Q v ds' ∧ D = ds' ++ rest) := by
  intro l ws h M p e h1 h2 h3 s m args below h4 h5 h6 h7
  have M1 : Mo Z a0 h0 ds h := ⟨M.1, fun q hq => M.2.1 q (List.mem_append_left _ hq), (List.pairwise_append.mp M.2.2).1⟩
  obtain ⟨n, o, g1, g2, g3, v, L, g4, ⟨g5, ds', g6, g6', g7⟩, g8⟩ := H l ws h M1 p e h1 h2 h3 s m args below h4 h5 h6 h7
  have nin : ∀ q ∈ rest, q.1 ∉ ds.map (·.1) := fun q hq m => by
    obtain ⟨r, hr, e⟩ := List.mem_map.mp m
    exact (List.pairwise_append.mp M.2.2).2.2 r hr q hq e
  refine ⟨n, o, g1, g2, g3, v, L, g4, ⟨g5, ds' ++ rest, ⟨g6.1, fun q hq => ?_, List.pairwise_append.mpr ⟨g6.2.2, (List.pairwise_append.mp M.2.2).2.1, fun q hq r hr => ?_⟩⟩, ⟨g6'.1, fun x c q r => g6'.2.1 x c q fun m => r ?_, fun q hq => ?_⟩, ds', g7, rfl⟩, g8⟩
  · rcases List.mem_append.mp hq with hq | hq
    · exact g6.2.1 q hq
    · obtain ⟨m1, m2⟩ := M.2.1 q (List.mem_append_right _ hq)
      exact ⟨m1, m2.frame g6'.2.1 (nin q hq)⟩
  · intro e
    rcases g6'.2.2 q hq with m | m
    · exact nin r hr (e ▸ m)
    · exact absurd (M.2.1 r (List.mem_append_right _ hr)).2.lt (Nat.not_lt.mpr (e ▸ m))
  · rw [List.map_append]; exact List.mem_append_left _ m
  · rcases List.mem_append.mp hq with hq | hq
    · rcases g6'.2.2 q hq with m | m
      · exact Or.inl (by rw [List.map_append]; exact List.mem_append_left _ m)
      · exact Or.inr m
    · exact Or.inl (List.mem_map.mpr ⟨q, List.mem_append_right _ hq, rfl⟩)
theorem Met.know {as : Array Value} {P : Prop} (hP : ∀ h, Mo Z a0 h0 ds h → P) (H : P → Met B Z a0 h0 as ds Q) : Met B Z a0 h0 as ds Q := fun l ws h M => H (hP h M) l ws h M
/-! the returns -/
theorem go_end {v : Option Value} (hk : k ≤ B.2.2.2.2.cells) (hn : n ≤ B.2.2.2.2.slots) (hv : B.2.2.2.1 = none → v = none) (HQ : Q v ds)
    (hs : ∀ {p : Program} {l : Launch} {e : Env} {s : State} {m : MethodId} {args : Array Value} {below : List Frame} {meth : Method} {c : Code} {T : State} {locs : List Loc}, Cx B Z p s m meth c → Stand p l e B.2.2.2.2 s m args below meth c T locs k n → ∀ {fs : List Frame}, (∀ (f : JFrame) (acts : List Action), f.method = m → f.locked = none → f.entered = [] → (doReturn e (T.setTop f) acts v).1 = T.setFrames fs) → Steps p.tables e below (T.setTop (mkF m pc ls st)) (T.setFrames fs)) :
    Go B Z a0 h0 Q k n ds pc ls st := by
  intro p l e s m args below meth c T locs h1 as C X N M R
  obtain ⟨fs, hr, hrun, hended, hW, hsame⟩ := X.leave (v := v) (fun q => hv (C.2.2.2.2.2.1.symm.trans q)) C.2.2.2.2.2.2.1
  exact ⟨_, v, locs, ds, hs C X hr, hrun, hended, M, R, HQ, N, ⟨_, rfl⟩, hW, hsame.mono hk hn⟩
theorem go_return (hd : decode B.2.1 pc = .ok (.return_, 1)) (hret : B.2.2.2.1 = none) (hst : st = []) (hk : k ≤ B.2.2.2.2.cells) (hn : n ≤ B.2.2.2.2.slots) (HQ : Q none ds) : Go B Z a0 h0 Q k n ds pc ls st := by
  subst hst
  exact go_end hk hn (fun _ => rfl) HQ fun C X _ hr => X.returnOut C.1 (C.2.2.2.2.2.1.trans hret) (hb C.2.2.1 hd) hr
theorem go_ireturn {z : Int32} {rest : List Value} {t : FieldType} (hd : decode B.2.1 pc = .ok (.ireturn, 1)) (hret : B.2.2.2.1 = some t) (ht : t = .int ∨ t = .boolean ∨ t = .byte ∨ t = .char ∨ t = .short) (hst : st = .int z :: rest) (hz : narrow t (.int z) = .int z) (hk : k ≤ B.2.2.2.2.cells) (hn : n ≤ B.2.2.2.2.slots) (HQ : Q (some (.int z)) ds) : Go B Z a0 h0 Q k n ds pc ls st := by
  subst hst
  exact go_end hk hn (fun q => by rw [hret] at q; cases q) HQ fun C X _ hr => retOut X C.1 (C.2.2.2.2.2.1.trans hret) hz (Or.inl ⟨rfl, ht, _, rfl⟩) (hb C.2.2.1 hd) hr
theorem go_lreturn {z : Int64} {rest : List Value} (hd : decode B.2.1 pc = .ok (.lreturn, 1)) (hret : B.2.2.2.1 = some .long) (hst : st = .long z :: rest) (hk : k ≤ B.2.2.2.2.cells) (hn : n ≤ B.2.2.2.2.slots) (HQ : Q (some (.long z)) ds) : Go B Z a0 h0 Q k n ds pc ls st := by
  subst hst
  exact go_end hk hn (fun q => by rw [hret] at q; cases q) HQ fun C X _ hr => retOut X C.1 (C.2.2.2.2.2.1.trans hret) rfl (Or.inr (Or.inl ⟨rfl, rfl, _, rfl⟩)) (hb C.2.2.1 hd) hr
theorem go_areturn {w : Value} {rest : List Value} {t : FieldType} (hd : decode B.2.1 pc = .ok (.areturn, 1)) (hret : B.2.2.2.1 = some t) (ht : t.isReference = true) (hw : w.isRef = true) (hst : st = w :: rest) (hk : k ≤ B.2.2.2.2.cells) (hn : n ≤ B.2.2.2.2.slots) (HQ : Q (some w) ds) : Go B Z a0 h0 Q k n ds pc ls st := by
  subst hst
  have hz : narrow t w = w := by rcases ref_cases hw with rfl | ⟨x, rfl⟩ <;> cases t <;> rfl
  exact go_end hk hn (fun q => by rw [hret] at q; cases q) HQ fun C X _ hr => retOut X C.1 (C.2.2.2.2.2.1.trans hret) hz (Or.inr (Or.inr (Or.inr (Or.inr ⟨rfl, ht, hw⟩)))) (hb C.2.2.1 hd) hr
/-! branches -/
def cmpP : ClassFile.Cond → Int32 → Int32 → Prop
  | .eq, x, y => x.toInt = y.toInt
  | .ne, x, y => x.toInt ≠ y.toInt
  | .lt, x, y => x.toInt < y.toInt
  | .ge, x, y => y.toInt ≤ x.toInt
  | .gt, x, y => y.toInt < x.toInt
  | .le, x, y => x.toInt ≤ y.toInt
def cmpZ : ClassFile.Cond → Int32 → Prop
  | .eq, x => x.toInt = 0
  | .ne, x => x.toInt ≠ 0
  | .lt, x => x.toInt < 0
  | .ge, x => 0 ≤ x.toInt
  | .gt, x => 0 < x.toInt
  | .le, x => x.toInt ≤ 0
theorem cmpP_iff (cd : ClassFile.Cond) (x y : Int32) : if_icmp.holds cd x y = true ↔ cmpP cd x y := by
  cases cd <;> simp [if_icmp.holds, cmpP, Int32.lt_iff_toInt_lt, Int32.le_iff_toInt_le, Int32.toInt_inj]
theorem cmpZ_iff (cd : ClassFile.Cond) (x : Int32) : ifCond.holds cd x = true ↔ cmpZ cd x := by
  have h0 : (0 : Int32).toInt = 0 := rfl
  cases cd <;> simp only [ifCond.holds, cmpZ, Int32.lt_iff_toInt_lt, Int32.le_iff_toInt_le, ← Int32.toInt_inj, h0, decide_eq_true_eq, beq_iff_eq, bne_iff_ne, ne_eq, gt_iff_lt, ge_iff_le]
theorem go_if {cd : ClassFile.Cond} {x : Int32} {rest : List Value} {o : Int} (q1 q2 : Nat) (hp : pc + 3 = q2) (ho : 0 ≤ (pc : Int) + o) (hq : ((pc : Int) + o).toNat = q1) (hd : decode B.2.1 pc = .ok (.ifCond cd o, 3)) (hst : st = .int x :: rest)
    (H1 : cmpZ cd x → Go B Z a0 h0 Q k n ds q1 ls rest) (H2 : ¬ cmpZ cd x → Go B Z a0 h0 Q k n ds q2 ls rest) : Go B Z a0 h0 Q k n ds pc ls st := by
  subst hst hp
  cases hc : ifCond.holds cd x
  · exact (H2 fun q => by rw [(cmpZ_iff cd x).mpr q] at hc; cases hc).step fun C X _ t hr => XS.ifNo X.here C.1 rfl (hb C.2.2.1 hd) rfl hc hr
  · exact (H1 ((cmpZ_iff cd x).mp hc)).step fun C X _ t hr => XS.ifYes X.here C.1 rfl rfl (hb C.2.2.1 hd) rfl hc ho hq hr
theorem go_icmp {cd : ClassFile.Cond} {x y : Int32} {rest : List Value} {o : Int} (q1 q2 : Nat) (hp : pc + 3 = q2) (ho : 0 ≤ (pc : Int) + o) (hq : ((pc : Int) + o).toNat = q1) (hd : decode B.2.1 pc = .ok (.if_icmp cd o, 3)) (hst : st = .int y :: .int x :: rest)
    (H1 : cmpP cd x y → Go B Z a0 h0 Q k n ds q1 ls rest) (H2 : ¬ cmpP cd x y → Go B Z a0 h0 Q k n ds q2 ls rest) : Go B Z a0 h0 Q k n ds pc ls st := by
  subst hst hp
  cases hc : if_icmp.holds cd x y
  · exact (H2 fun q => by rw [(cmpP_iff cd x y).mpr q] at hc; cases hc).step fun C X _ t hr => XS.icmpNo X.here C.1 rfl (hb C.2.2.1 hd) rfl hc hr
  · exact (H1 ((cmpP_iff cd x y).mp hc)).step fun C X _ t hr => XS.icmpYes X.here C.1 rfl rfl (hb C.2.2.1 hd) rfl hc ho hq hr
def acP : ACond → Value → Value → Prop
  | .eq, x, y => x = y
  | .ne, x, y => x ≠ y
theorem acP_iff (cd : ACond) (x y : Value) : acV cd (decide (x = y)) = true ↔ acP cd x y := by cases cd <;> simp [acV, acP]
theorem go_acmp {cd : ACond} {x y : Value} {rest : List Value} {o : Int} (q1 q2 : Nat) (hp : pc + 3 = q2) (ho : 0 ≤ (pc : Int) + o) (hq : ((pc : Int) + o).toNat = q1) (hd : decode B.2.1 pc = .ok (.if_acmp cd o, 3)) (hst : st = y :: x :: rest) (hx : x.isRef = true) (hy : y.isRef = true)
    (H1 : acP cd x y → Go B Z a0 h0 Q k n ds q1 ls rest) (H2 : ¬ acP cd x y → Go B Z a0 h0 Q k n ds q2 ls rest) : Go B Z a0 h0 Q k n ds pc ls st := by
  subst hst hp
  cases hc : acV cd (decide (x = y))
  · exact (H2 fun q => by rw [(acP_iff cd x y).mpr q] at hc; cases hc).step fun C X _ t hr => RoadKit.acmp X C.1 rfl hx hy rfl (hb C.2.2.1 hd) rfl rfl ho (by rw [hc]; rfl) hr
  · exact (H1 ((acP_iff cd x y).mp hc)).step fun C X _ t hr => RoadKit.acmp X C.1 rfl hx hy rfl (hb C.2.2.1 hd) rfl rfl ho (by rw [hc]; exact hq.symm) hr
theorem go_ifnullY {rest : List Value} {o : Int} (q1 : Nat) (ho : 0 ≤ (pc : Int) + o) (hq : ((pc : Int) + o).toNat = q1) (hd : decode B.2.1 pc = .ok (.ifnull o, 3)) (hst : st = .null :: rest) (H : Go B Z a0 h0 Q k n ds q1 ls rest) : Go B Z a0 h0 Q k n ds pc ls st := by
  subst hst; exact H.step fun C X _ t hr => XS.ifnullYes X.here C.1 rfl rfl (hb C.2.2.1 hd) rfl ho hq hr
theorem go_ifnullN {b : Addr} {rest : List Value} {o : Int} (q2 : Nat) (hp : pc + 3 = q2) (hd : decode B.2.1 pc = .ok (.ifnull o, 3)) (hst : st = .ref b :: rest) (H : Go B Z a0 h0 Q k n ds q2 ls rest) : Go B Z a0 h0 Q k n ds pc ls st := by
  subst hst hp; exact H.step fun C X _ t hr => XS.ifnullNo X.here C.1 rfl (hb C.2.2.1 hd) rfl hr
theorem go_ifnonnullY {b : Addr} {rest : List Value} {o : Int} (q1 : Nat) (ho : 0 ≤ (pc : Int) + o) (hq : ((pc : Int) + o).toNat = q1) (hd : decode B.2.1 pc = .ok (.ifnonnull o, 3)) (hst : st = .ref b :: rest) (H : Go B Z a0 h0 Q k n ds q1 ls rest) : Go B Z a0 h0 Q k n ds pc ls st := by
  subst hst; exact H.step fun C X _ t hr => XS.ifnonnullYes X.here C.1 rfl rfl (hb C.2.2.1 hd) rfl ho hq hr
theorem go_ifnonnullN {rest : List Value} {o : Int} (q2 : Nat) (hp : pc + 3 = q2) (hd : decode B.2.1 pc = .ok (.ifnonnull o, 3)) (hst : st = .null :: rest) (H : Go B Z a0 h0 Q k n ds q2 ls rest) : Go B Z a0 h0 Q k n ds pc ls st := by
  subst hst hp; exact H.step fun C X _ t hr => XS.ifnonnullNo X.here C.1 rfl (hb C.2.2.1 hd) rfl hr
theorem go_goto {o : Int} (q : Nat) (ho : 0 ≤ (pc : Int) + o) (hq : ((pc : Int) + o).toNat = q) (hd : decode B.2.1 pc = .ok (.goto o, 3)) (H : Go B Z a0 h0 Q k n ds q ls st) : Go B Z a0 h0 Q k n ds pc ls st :=
  H.step fun C X _ t hr => XS.goto X.here C.1 rfl rfl (hb C.2.2.1 hd) ho hq hr
/-! constants of the pool -/
theorem go_ldc {idx : Nat} {v : Int32} (q : Nat) (hp : pc + 2 = q) (hd : decode B.2.1 pc = .ok (.ldc idx, 2)) (w : (Jvm.Cond.constant B.1.cls idx v).before a0 Z = true) (H : Go B Z a0 h0 Q k n ds q ls (.int v :: st)) : Go B Z a0 h0 Q k n ds pc ls st := by
  subst hp; exact H.step fun C X _ t hr => X.ldcInt C.1 C.2.2.2.2.1 (mvT C.2.1 w) (g := mkF _ pc ls st) rfl (hb C.2.2.1 hd) t hr
theorem go_ldc2 {idx : Nat} {v : Int64} (q : Nat) (hp : pc + 3 = q) (hd : decode B.2.1 pc = .ok (.ldc2_w idx, 3)) (w : (Jvm.Cond.constantLong B.1.cls idx v).before a0 Z = true) (H : Go B Z a0 h0 Q k n ds q ls (.long v :: st)) : Go B Z a0 h0 Q k n ds pc ls st := by
  subst hp; exact H.step fun C X _ t hr => X.ldc2Long C.1 C.2.2.2.2.1 (mvT C.2.1 w) (g := mkF _ pc ls st) rfl (hb C.2.2.1 hd) t hr
/-! the heap -/
theorem go_new {C : String} {idx sz : Nat} (q : Nat) (hp : pc + 3 = q) (hd : decode B.2.1 pc = .ok (.new idx, 3)) (w : (Jvm.Cond.classLink B.1.cls idx C).before a0 Z = true) (wi : (Jvm.Cond.instantiable C sz).before a0 Z = true) (wz : (Jvm.Cond.initialized C).before a0 Z = true)
    (hk : k + 1 ≤ B.2.2.2.2.cells) (hn : n + sz ≤ B.2.2.2.2.slots) (fs : Fds) (hfs : LaidL Z a0 C fs) (hnd : (fs.map (·.2.1)).Nodup) (H : ∀ a, Go B Z a0 h0 Q (k + 1) (n + sz) (ds ++ [ob a C fs]) q ls (.ref a :: st)) : Go B Z a0 h0 Q k n ds pc ls st := by
  subst hp
  intro p l e s m args below meth c T locs hs as Cc X N M R
  obtain ⟨T', h', X', e', E', A', D', -, st'⟩ := newO X Cc.1 Cc.2.1 Cc.2.2.2.2.1 w wi wz rfl (g := mkF m pc ls st) rfl (hb Cc.2.2.1 hd) hk hn
  refine (H T.heap.size p l e s m args below meth c T' locs hs as Cc X' N ?_ (by rw [e']; exact R.add E')).back st'
  rw [e']
  refine M.add E' ⟨A', fun f hf => ?_, hnd⟩
  obtain ⟨L, ty, h1, h2⟩ := hfs.mem f hf
  exact ⟨h2 ▸ D' L h1, L, ty, h1⟩
theorem go_newarr {aty : ArrayType} {x : Int32} {rest : List Value} (q : Nat) (hp : pc + 2 = q) (hd : decode B.2.1 pc = .ok (.newarray aty, 2)) (hst : st = .int x :: rest) (w : (Jvm.Cond.arrayClass (newarray.typeOf aty)).before a0 Z = true) (hx : ¬ x < 0) (cap : Nat) (hcap : x.toNatClampNeg ≤ cap) (hbb : cap * 8 ≤ 536870912)
    (hk : k + 1 ≤ B.2.2.2.2.cells) (hn : n + cap ≤ B.2.2.2.2.slots) (H : ∀ a, Go B Z a0 h0 Q (k + 1) (n + cap) (ds ++ [ar a (newarray.typeOf aty) (List.replicate x.toNatClampNeg (defaultValue (newarray.typeOf aty)))]) q ls (.ref a :: rest)) : Go B Z a0 h0 Q k n ds pc ls st := by
  subst hp hst
  intro p l e s m args below meth c T locs hs as Cc X N M R
  obtain ⟨T', h', cA, X', e', E', A', st'⟩ := newP X Cc.1 Cc.2.1 w rfl (g := mkF m pc ls (.int x :: rest)) rfl (hb Cc.2.2.1 hd) rfl hx hcap hbb hk hn
  refine (H T.heap.size p l e s m args below meth c T' locs hs as Cc X' N ?_ (by rw [e']; exact R.add E')).back st'
  rw [e']
  exact M.add E' ⟨_, A', by simp [newA], fun C q => by cases aty <;> cases q⟩
theorem go_anewarr {C : String} {idx : Nat} {x : Int32} {rest : List Value} (q : Nat) (hp : pc + 3 = q) (hd : decode B.2.1 pc = .ok (.anewarray idx, 3)) (hst : st = .int x :: rest) (w : (Jvm.Cond.classLink B.1.cls idx C).before a0 Z = true) (w2 : (Jvm.Cond.arrayOver (.object C)).before a0 Z = true) (hx : ¬ x < 0) (cap : Nat) (hcap : x.toNatClampNeg ≤ cap) (hbb : cap * 8 ≤ 536870912)
    (hk : k + 1 ≤ B.2.2.2.2.cells) (hn : n + cap ≤ B.2.2.2.2.slots) (H : ∀ a, Go B Z a0 h0 Q (k + 1) (n + cap) (ds ++ [ar a (.object C) (List.replicate x.toNatClampNeg .null)]) q ls (.ref a :: rest)) : Go B Z a0 h0 Q k n ds pc ls st := by
  subst hp hst
  intro p l e s m args below meth c T locs hs as Cc X N M R
  obtain ⟨T', h', cA, X', e', E', A', O', st'⟩ := newR X Cc.1 Cc.2.1 Cc.2.2.2.2.1 w w2 rfl (g := mkF m pc ls (.int x :: rest)) rfl (hb Cc.2.2.1 hd) rfl hx hcap hbb hk hn
  refine (H T.heap.size p l e s m args below meth c T' locs hs as Cc X' N ?_ (by rw [e']; exact R.add E')).back st'
  rw [e']
  exact M.add E' ⟨_, A', by simp [newA, defaultValue], fun C' q => by cases q; exact O'⟩
theorem go_getG {a : Addr} {O R0 nm d : String} {v : Value} {idx : Nat} {rest : List Value} (q : Nat) (hp : pc + 3 = q) (hd : decode B.2.1 pc = .ok (.getfield idx, 3)) (hst : st = .ref a :: rest) (w : (Jvm.Cond.fieldLink B.1.cls idx R0 nm d).before a0 Z = true) (via : Via Z R0 O nm d) (hF : ∀ h, Mo Z a0 h0 ds h → Fld Z h a O nm d v)
    (H : Go B Z a0 h0 Q k n ds q ls (v :: rest)) : Go B Z a0 h0 Q k n ds pc ls st := by
  subst hp hst
  intro p l e s m args below meth c T locs hs as Cc X N M R
  obtain ⟨T', X', e', st'⟩ := getF X Cc.1 Cc.2.1 Cc.2.2.2.2.1 (host := "") (Or.inl w) via rfl (hF _ M) (g := mkF m pc ls (.ref a :: rest)) rfl rfl (hb Cc.2.2.1 hd)
  exact (H p l e s m args below meth c T' locs hs as Cc X' N (by rw [e']; exact M) (by rw [e']; exact R)).back st'
theorem go_get {a : Addr} {C O nm d : String} {fs : Fds} {v : Value} {idx : Nat} {rest : List Value} (i j q : Nat) (hp : pc + 3 = q) (hd : decode B.2.1 pc = .ok (.getfield idx, 3)) (hst : st = .ref a :: rest) (hi : ds[i]? = some (ob a C fs)) (hj : fs[j]? = some (O, nm, d, v)) (w : (Jvm.Cond.fieldLink B.1.cls idx O nm d).before a0 Z = true)
    (H : Go B Z a0 h0 Q k n ds q ls (v :: rest)) : Go B Z a0 h0 Q k n ds pc ls st :=
  go_getG q hp hd hst w Via.refl (fun h M => ((M.at hi).2.1 _ (List.mem_of_getElem? hj)).1) H
theorem go_put {a : Addr} {C O nm d : String} {fs : Fds} {v old : Value} {idx kk : Nat} {rest : List Value} {ty : FieldType} (i j q : Nat) (hp : pc + 3 = q) (hd : decode B.2.1 pc = .ok (.putfield idx, 3)) (hst : st = v :: .ref a :: rest) (hi : ds[i]? = some (ob a C fs)) (hj : fs[j]? = some (O, nm, d, old))
    (w : (Jvm.Cond.fieldLink B.1.cls idx O nm d).before a0 Z = true) (L : (Jvm.Cond.lays C O nm d).before a0 Z = true ∨ ((Jvm.Cond.laysFinal C O nm d).before a0 Z = true ∧ B.1.cls = O ∧ B.1.name = "<init>")) (wi : (Jvm.Cond.instantiable C kk).before a0 Z = true)
    (hty : parseFieldDescriptor d = some ty) (hnn : narrow ty v = v) (hf : fits ty v = true) (H : Go B Z a0 h0 Q k n (ds.set i (ob a C (fs.set j (O, nm, d, v)))) q ls rest) : Go B Z a0 h0 Q k n ds pc ls st := by
  subst hp hst
  intro p l e s m args below meth c T locs hs as Cc X N M R
  have HA := M.at hi
  obtain ⟨F, La, -⟩ := HA.2.1 _ (List.mem_of_getElem? hj)
  have hown : s.vm.findClass B.1.cls = some m.cls := Cc.2.2.2.2.1
  obtain ⟨T', h', X', e', W', st'⟩ := putF X Cc.1 Cc.2.1 hown (host := "") (Or.inl w) Via.refl rfl F HA.1 (L.imp id fun q => ⟨q.1, q.2.1, Cc.2.2.2.2.2.2.2.trans q.2.2⟩) wi hty hnn hf (g := mkF m pc ls (v :: .ref a :: rest)) rfl rfl (hb Cc.2.2.1 hd)
  refine (H p l e s m args below meth c T' _ hs as Cc X' (Fr.snoc X' N (M.new hi)) ?_ (by rw [e']; exact R.wr hi W')).back st'
  rw [e']
  refine M.wr hi W' ⟨HA.1.wr W', fun f hf => ?_, ?_⟩
  · obtain ⟨j', hj'⟩ := List.getElem?_of_mem hf
    by_cases e : j = j'
    · subst e
      rw [List.getElem?_set_self (List.getElem?_eq_some_iff.mp hj).1] at hj'
      cases hj'; exact ⟨F.same W', La, ty, hty⟩
    · rw [List.getElem?_set_ne e] at hj'
      obtain ⟨F1, L1, ty1, ht1⟩ := HA.2.1 f (List.mem_of_getElem? hj')
      refine ⟨F1.other W' (Or.inr (slot_ne L1 La (fun q => ?_) ht1 hty)), L1, ty1, ht1⟩
      have P := List.pairwise_iff_getElem.mp HA.2.2
      obtain ⟨l1, e1⟩ := List.getElem?_eq_some_iff.mp hj
      obtain ⟨l2, e2⟩ := List.getElem?_eq_some_iff.mp hj'
      rcases Nat.lt_or_gt_of_ne e with r | r
      · have z := P j j' (by simpa using l1) (by simpa using l2) r
        simp only [List.getElem_map, e1, e2] at z; exact z q.symm
      · have z := P j' j (by simpa using l2) (by simpa using l1) r
        simp only [List.getElem_map, e1, e2] at z; exact z q
  · rw [List.map_set]
    have : (fs.map (·.2.1)).set j nm = fs.map (·.2.1) := by
      apply List.ext_getElem?
      intro t
      by_cases e : j = t
      · subst e; rw [List.getElem?_set_self (by simpa using (List.getElem?_eq_some_iff.mp hj).1)]; simp [hj]
      · rw [List.getElem?_set_ne e]
    show ((fs.map (·.2.1)).set j nm).Nodup
    rw [this]; exact HA.2.2
theorem go_getS {O nm d : String} {v : Value} {idx : Nat} (q : Nat) (hp : pc + 3 = q) (hd : decode B.2.1 pc = .ok (.getstatic idx, 3)) (w : (Jvm.Cond.fieldLink B.1.cls idx O nm d).before a0 Z = true) (F : Sta Z h0 O nm d v) (H : Go B Z a0 h0 Q k n ds q ls (v :: st)) : Go B Z a0 h0 Q k n ds pc ls st := by
  subst hp
  intro p l e s m args below meth c T locs hs as Cc X N M R
  obtain ⟨T', X', e', st'⟩ := getS X Cc.1 Cc.2.1 (host := "") Cc.2.2.2.2.1 w Via.refl rfl (F.ext M.1) (g := mkF m pc ls st) rfl (hb Cc.2.2.1 hd)
  exact (H p l e s m args below meth c T' locs hs as Cc X' N (by rw [e']; exact M) (by rw [e']; exact R)).back st'
/-! arrays -/
theorem Holds.arr {h : Heap} {a : Addr} {ty : FieldType} {vs : List Value} (H : Holds Z a0 h a (.inr (ty, vs))) : ∃ c : Cell, Arr Z h a c ty ∧ c.slots = vs.toArray ∧ (∀ C, ty = .object C → Ovr Z c.cls C) := by
  obtain ⟨c, A, e, r⟩ := H; exact ⟨c, A, by rw [← e], r⟩
theorem inb {c : Cell} {vs : List Value} {j : Int32} {v : Value} (e : c.slots = vs.toArray) (hj : ¬ j < 0) (hv : vs[j.toNatClampNeg]? = some v) : ¬ (j < 0 ∨ c.slots.size ≤ j.toNatClampNeg) ∧ c.slots[j.toNatClampNeg]? = some v := by
  have l1 := (List.getElem?_eq_some_iff.mp hv).1
  rw [e]; exact ⟨fun q => q.elim hj fun q => by simp at q; omega, by simpa using hv⟩
theorem go_alenG {a : Addr} {z : Int32} {ty : FieldType} {rest : List Value} (q : Nat) (hp : pc + 1 = q) (hd : decode B.2.1 pc = .ok (.arraylength, 1)) (hst : st = .ref a :: rest) (hA : ∀ h, Mo Z a0 h0 ds h → ∃ c : Cell, Arr Z h a c ty ∧ c.slots.size.toInt32 = z) (H : Go B Z a0 h0 Q k n ds q ls (.int z :: rest)) : Go B Z a0 h0 Q k n ds pc ls st := by
  subst hp hst
  refine H.step fun C X M t hr => ?_
  obtain ⟨cl, A, e⟩ := hA _ M
  exact X.arraylength C.1 A.1 (State.isArrayOf_alike C.2.1.alike A.2.1) (g := mkF _ pc ls (.ref a :: rest)) rfl rfl (hb C.2.2.1 hd) t (by rw [e]; exact hr)
theorem go_alen {a : Addr} {ty : FieldType} {vs : List Value} {rest : List Value} (i q : Nat) (hp : pc + 1 = q) (hd : decode B.2.1 pc = .ok (.arraylength, 1)) (hst : st = .ref a :: rest) (hi : ds[i]? = some (ar a ty vs)) (H : Go B Z a0 h0 Q k n ds q ls (.int vs.length.toInt32 :: rest)) : Go B Z a0 h0 Q k n ds pc ls st :=
  go_alenG q hp hd hst (fun h M => by obtain ⟨c, A, e, -⟩ := (M.at hi).arr; exact ⟨c, A, by rw [e]; simp⟩) H
def El (Z : State) (h : Heap) (a : Addr) (ty : FieldType) (j : Int32) (v : Value) : Prop := ∃ c : Cell, Arr Z h a c ty ∧ ¬ (j < 0 ∨ c.slots.size ≤ j.toNatClampNeg) ∧ c.slots[j.toNatClampNeg]? = some v
theorem El.ext {h h' : Heap} {a : Addr} {ty : FieldType} {j : Int32} {v : Value} (E : Ext h h') (F : El Z h a ty j v) : El Z h' a ty j v := by obtain ⟨c, A, r⟩ := F; exact ⟨c, A.ext E, r⟩
theorem Mo.el {a : Addr} {ty : FieldType} {vs : List Value} {i : Nat} {j : Int32} {v : Value} (hi : ds[i]? = some (ar a ty vs)) (hj : ¬ j < 0) (hv : vs[j.toNatClampNeg]? = some v) : ∀ h, Mo Z a0 h0 ds h → El Z h a ty j v := fun h M => by
  obtain ⟨c, A, e, -⟩ := (M.at hi).arr; exact ⟨c, A, inb e hj hv⟩
theorem go_iaload {a : Addr} {j : Int32} {v : Value} {rest : List Value} (q : Nat) (hp : pc + 1 = q) (hd : decode B.2.1 pc = .ok (.iaload, 1)) (hst : st = .int j :: .ref a :: rest) (hA : ∀ h, Mo Z a0 h0 ds h → El Z h a .int j v) (H : Go B Z a0 h0 Q k n ds q ls (v :: rest)) : Go B Z a0 h0 Q k n ds pc ls st := by
  subst hp hst
  refine H.step fun C X M t hr => ?_
  obtain ⟨cl, A, h1, h2⟩ := hA _ M
  exact X.iaload C.1 A.1 (State.isArrayOf_alike C.2.1.alike A.2.1) A.2.2 h1 h2 (g := mkF _ pc ls (.int j :: .ref a :: rest)) rfl rfl (hb C.2.2.1 hd) t hr
theorem go_laload {a : Addr} {j : Int32} {v : Value} {rest : List Value} (q : Nat) (hp : pc + 1 = q) (hd : decode B.2.1 pc = .ok (.laload, 1)) (hst : st = .int j :: .ref a :: rest) (hA : ∀ h, Mo Z a0 h0 ds h → El Z h a .long j v) (H : Go B Z a0 h0 Q k n ds q ls (v :: rest)) : Go B Z a0 h0 Q k n ds pc ls st := by
  subst hp hst
  refine H.step fun C X M t hr => ?_
  obtain ⟨cl, A, h1, h2⟩ := hA _ M
  exact X.laload C.1 A.1 (State.isArrayOf_alike C.2.1.alike A.2.1) A.2.2 h1 h2 (g := mkF _ pc ls (.int j :: .ref a :: rest)) rfl rfl (hb C.2.2.1 hd) t hr
theorem go_caload {a : Addr} {j : Int32} {v : Value} {rest : List Value} (q : Nat) (hp : pc + 1 = q) (hd : decode B.2.1 pc = .ok (.caload, 1)) (hst : st = .int j :: .ref a :: rest) (hA : ∀ h, Mo Z a0 h0 ds h → El Z h a .char j v) (H : Go B Z a0 h0 Q k n ds q ls (v :: rest)) : Go B Z a0 h0 Q k n ds pc ls st := by
  subst hp hst
  refine H.step fun C X M t hr => ?_
  obtain ⟨cl, A, h1, h2⟩ := hA _ M
  exact X.caload C.1 A.1 (State.isArrayOf_alike C.2.1.alike A.2.1) A.2.2 h1 h2 (g := mkF _ pc ls (.int j :: .ref a :: rest)) rfl rfl (hb C.2.2.1 hd) t hr
theorem go_saload {a : Addr} {j : Int32} {v : Value} {rest : List Value} (q : Nat) (hp : pc + 1 = q) (hd : decode B.2.1 pc = .ok (.saload, 1)) (hst : st = .int j :: .ref a :: rest) (hA : ∀ h, Mo Z a0 h0 ds h → El Z h a .short j v) (H : Go B Z a0 h0 Q k n ds q ls (v :: rest)) : Go B Z a0 h0 Q k n ds pc ls st := by
  subst hp hst
  refine H.step fun C X M t hr => ?_
  obtain ⟨cl, A, h1, h2⟩ := hA _ M
  exact X.saload C.1 A.1 (State.isArrayOf_alike C.2.1.alike A.2.1) A.2.2 h1 h2 (g := mkF _ pc ls (.int j :: .ref a :: rest)) rfl rfl (hb C.2.2.1 hd) t hr
theorem go_baload {a : Addr} {j : Int32} {v : Value} {rest : List Value} (q : Nat) (hp : pc + 1 = q) (hd : decode B.2.1 pc = .ok (.baload, 1)) (hst : st = .int j :: .ref a :: rest) (hA : ∀ h, Mo Z a0 h0 ds h → El Z h a .byte j v) (H : Go B Z a0 h0 Q k n ds q ls (v :: rest)) : Go B Z a0 h0 Q k n ds pc ls st := by
  subst hp hst
  refine H.step fun C X M t hr => ?_
  obtain ⟨cl, A, h1, h2⟩ := hA _ M
  exact X.baloadBytes C.1 A.1 (State.isArrayOf_alike C.2.1.alike A.2.1) A.2.2 h1 h2 (g := mkF _ pc ls (.int j :: .ref a :: rest)) rfl rfl (hb C.2.2.1 hd) t hr
theorem go_zaload {a : Addr} {j : Int32} {v : Value} {rest : List Value} (q : Nat) (hp : pc + 1 = q) (hd : decode B.2.1 pc = .ok (.baload, 1)) (hst : st = .int j :: .ref a :: rest) (hA : ∀ h, Mo Z a0 h0 ds h → El Z h a .boolean j v) (H : Go B Z a0 h0 Q k n ds q ls (v :: rest)) : Go B Z a0 h0 Q k n ds pc ls st := by
  subst hp hst
  refine H.step fun C X M t hr => ?_
  obtain ⟨cl, A, h1, h2⟩ := hA _ M
  exact X.baloadBooleans C.1 A.1 (State.isArrayOf_alike C.2.1.alike A.2.1) A.2.2 h1 h2 (g := mkF _ pc ls (.int j :: .ref a :: rest)) rfl rfl (hb C.2.2.1 hd) t hr
theorem go_aaload {a : Addr} {j : Int32} {v : Value} {ty : FieldType} {rest : List Value} (q : Nat) (hp : pc + 1 = q) (hd : decode B.2.1 pc = .ok (.aaload, 1)) (hst : st = .int j :: .ref a :: rest) (hty : ty.isReference = true) (hA : ∀ h, Mo Z a0 h0 ds h → El Z h a ty j v) (H : Go B Z a0 h0 Q k n ds q ls (v :: rest)) : Go B Z a0 h0 Q k n ds pc ls st := by
  subst hp hst
  refine H.step fun C X M t hr => ?_
  obtain ⟨cl, A, h1, h2⟩ := hA _ M
  exact X.aaload C.1 A.1 (State.isArrayOf_alike C.2.1.alike A.2.1) hty A.2.2 h1 h2 (g := mkF _ pc ls (.int j :: .ref a :: rest)) rfl rfl (hb C.2.2.1 hd) t hr
theorem Holds.set {h h' : Heap} {a : Addr} {ty : FieldType} {vs : List Value} {c : Cell} {j : Int32} {v : Value} (A : Arr Z h a c ty) (e : c.slots = vs.toArray) (O : ∀ C, ty = .object C → Ovr Z c.cls C) (W : Wr h h' a j.toNatClampNeg v) : Holds Z a0 h' a (.inr (ty, vs.set j.toNatClampNeg v)) :=
  ⟨_, A.same W, by simp [Cell.setSlot, e], O⟩
theorem go_iastore {a : Addr} {j : Int32} {x : Int32} {vs rest : List Value} (i q : Nat) (hp : pc + 1 = q) (hd : decode B.2.1 pc = .ok (.iastore, 1)) (hst : st = .int x :: .int j :: .ref a :: rest) (hi : ds[i]? = some (ar a .int vs)) (hj : ¬ j < 0) (hl : j.toNatClampNeg < vs.length) (H : Go B Z a0 h0 Q k n (ds.set i (ar a .int (vs.set j.toNatClampNeg (.int x)))) q ls rest) : Go B Z a0 h0 Q k n ds pc ls st := by
  subst hp hst
  intro p l e s m args below meth c T locs hs as Cc X N M R
  obtain ⟨cl, A, ee, O⟩ := (M.at hi).arr
  obtain ⟨T', h', X', e', W', st'⟩ := stI X Cc.1 Cc.2.1 rfl A (inb ee hj (List.getElem?_eq_getElem hl)).1 (g := mkF m pc ls (.int x :: .int j :: .ref a :: rest)) rfl rfl (hb Cc.2.2.1 hd)
  refine (H p l e s m args below meth c T' _ hs as Cc X' (Fr.snoc X' N (M.new hi)) ?_ (by rw [e']; exact R.wr hi W')).back st'
  rw [e']; exact M.wr hi W' (Holds.set A ee O W')
theorem go_lastore {a : Addr} {j : Int32} {x : Int64} {vs rest : List Value} (i q : Nat) (hp : pc + 1 = q) (hd : decode B.2.1 pc = .ok (.lastore, 1)) (hst : st = .long x :: .int j :: .ref a :: rest) (hi : ds[i]? = some (ar a .long vs)) (hj : ¬ j < 0) (hl : j.toNatClampNeg < vs.length) (H : Go B Z a0 h0 Q k n (ds.set i (ar a .long (vs.set j.toNatClampNeg (.long x)))) q ls rest) : Go B Z a0 h0 Q k n ds pc ls st := by
  subst hp hst
  intro p l e s m args below meth c T locs hs as Cc X N M R
  obtain ⟨cl, A, ee, O⟩ := (M.at hi).arr
  obtain ⟨T', h', X', e', W', st'⟩ := stJ X Cc.1 Cc.2.1 rfl A (inb ee hj (List.getElem?_eq_getElem hl)).1 (g := mkF m pc ls (.long x :: .int j :: .ref a :: rest)) rfl rfl (hb Cc.2.2.1 hd)
  refine (H p l e s m args below meth c T' _ hs as Cc X' (Fr.snoc X' N (M.new hi)) ?_ (by rw [e']; exact R.wr hi W')).back st'
  rw [e']; exact M.wr hi W' (Holds.set A ee O W')
theorem go_castore {a : Addr} {j : Int32} {x : Int32} {vs rest : List Value} (i q : Nat) (hp : pc + 1 = q) (hd : decode B.2.1 pc = .ok (.castore, 1)) (hst : st = .int x :: .int j :: .ref a :: rest) (hi : ds[i]? = some (ar a .char vs)) (hj : ¬ j < 0) (hl : j.toNatClampNeg < vs.length) (H : Go B Z a0 h0 Q k n (ds.set i (ar a .char (vs.set j.toNatClampNeg (.int (nar .char x))))) q ls rest) : Go B Z a0 h0 Q k n ds pc ls st := by
  subst hp hst
  intro p l e s m args below meth c T locs hs as Cc X N M R
  obtain ⟨cl, A, ee, O⟩ := (M.at hi).arr
  obtain ⟨T', h', X', e', W', st'⟩ := stC X Cc.1 Cc.2.1 rfl A (inb ee hj (List.getElem?_eq_getElem hl)).1 (g := mkF m pc ls (.int x :: .int j :: .ref a :: rest)) rfl rfl (hb Cc.2.2.1 hd)
  refine (H p l e s m args below meth c T' _ hs as Cc X' (Fr.snoc X' N (M.new hi)) ?_ (by rw [e']; exact R.wr hi W')).back st'
  rw [e']; exact M.wr hi W' (Holds.set A ee O W')
theorem go_sastore {a : Addr} {j : Int32} {x : Int32} {vs rest : List Value} (i q : Nat) (hp : pc + 1 = q) (hd : decode B.2.1 pc = .ok (.sastore, 1)) (hst : st = .int x :: .int j :: .ref a :: rest) (hi : ds[i]? = some (ar a .short vs)) (hj : ¬ j < 0) (hl : j.toNatClampNeg < vs.length) (H : Go B Z a0 h0 Q k n (ds.set i (ar a .short (vs.set j.toNatClampNeg (.int (nar .short x))))) q ls rest) : Go B Z a0 h0 Q k n ds pc ls st := by
  subst hp hst
  intro p l e s m args below meth c T locs hs as Cc X N M R
  obtain ⟨cl, A, ee, O⟩ := (M.at hi).arr
  obtain ⟨T', h', X', e', W', st'⟩ := stS X Cc.1 Cc.2.1 rfl A (inb ee hj (List.getElem?_eq_getElem hl)).1 (g := mkF m pc ls (.int x :: .int j :: .ref a :: rest)) rfl rfl (hb Cc.2.2.1 hd)
  refine (H p l e s m args below meth c T' _ hs as Cc X' (Fr.snoc X' N (M.new hi)) ?_ (by rw [e']; exact R.wr hi W')).back st'
  rw [e']; exact M.wr hi W' (Holds.set A ee O W')
theorem go_bastore {a : Addr} {j : Int32} {x : Int32} {vs rest : List Value} (i q : Nat) (hp : pc + 1 = q) (hd : decode B.2.1 pc = .ok (.bastore, 1)) (hst : st = .int x :: .int j :: .ref a :: rest) (hi : ds[i]? = some (ar a .byte vs)) (hj : ¬ j < 0) (hl : j.toNatClampNeg < vs.length) (H : Go B Z a0 h0 Q k n (ds.set i (ar a .byte (vs.set j.toNatClampNeg (.int (nar .byte x))))) q ls rest) : Go B Z a0 h0 Q k n ds pc ls st := by
  subst hp hst
  intro p l e s m args below meth c T locs hs as Cc X N M R
  obtain ⟨cl, A, ee, O⟩ := (M.at hi).arr
  obtain ⟨T', h', X', e', W', st'⟩ := stB X Cc.1 Cc.2.1 rfl A (inb ee hj (List.getElem?_eq_getElem hl)).1 (g := mkF m pc ls (.int x :: .int j :: .ref a :: rest)) rfl rfl (hb Cc.2.2.1 hd)
  refine (H p l e s m args below meth c T' _ hs as Cc X' (Fr.snoc X' N (M.new hi)) ?_ (by rw [e']; exact R.wr hi W')).back st'
  rw [e']; exact M.wr hi W' (Holds.set A ee O W')
theorem go_zastore {a : Addr} {j : Int32} {x : Int32} {vs rest : List Value} (i q : Nat) (hp : pc + 1 = q) (hd : decode B.2.1 pc = .ok (.bastore, 1)) (hst : st = .int x :: .int j :: .ref a :: rest) (hi : ds[i]? = some (ar a .boolean vs)) (hj : ¬ j < 0) (hl : j.toNatClampNeg < vs.length) (H : Go B Z a0 h0 Q k n (ds.set i (ar a .boolean (vs.set j.toNatClampNeg (.int (nar .boolean x))))) q ls rest) : Go B Z a0 h0 Q k n ds pc ls st := by
  subst hp hst
  intro p l e s m args below meth c T locs hs as Cc X N M R
  obtain ⟨cl, A, ee, O⟩ := (M.at hi).arr
  obtain ⟨T', h', X', e', W', st'⟩ := stZ X Cc.1 Cc.2.1 rfl A (inb ee hj (List.getElem?_eq_getElem hl)).1 (g := mkF m pc ls (.int x :: .int j :: .ref a :: rest)) rfl rfl (hb Cc.2.2.1 hd)
  refine (H p l e s m args below meth c T' _ hs as Cc X' (Fr.snoc X' N (M.new hi)) ?_ (by rw [e']; exact R.wr hi W')).back st'
  rw [e']; exact M.wr hi W' (Holds.set A ee O W')
theorem go_aastore {a : Addr} {j : Int32} {v : Value} {ty : FieldType} {vs rest : List Value} (i q : Nat) (hp : pc + 1 = q) (hd : decode B.2.1 pc = .ok (.aastore, 1)) (hst : st = v :: .int j :: .ref a :: rest) (hi : ds[i]? = some (ar a ty vs)) (hty : ty.isReference = true) (hj : ¬ j < 0) (hl : j.toNatClampNeg < vs.length) (hS : ∀ h, Mo Z a0 h0 ds h → Sto Z h a v) (H : Go B Z a0 h0 Q k n (ds.set i (ar a ty (vs.set j.toNatClampNeg v))) q ls rest) : Go B Z a0 h0 Q k n ds pc ls st := by
  subst hp hst
  intro p l e s m args below meth c T locs hs as Cc X N M R
  obtain ⟨cl, A, ee, O⟩ := (M.at hi).arr
  obtain ⟨T', h', X', e', W', st'⟩ := stR X Cc.1 Cc.2.1 rfl A (inb ee hj (List.getElem?_eq_getElem hl)).1 hty (hS _ M) (g := mkF m pc ls (v :: .int j :: .ref a :: rest)) rfl rfl (hb Cc.2.2.1 hd)
  refine (H p l e s m args below meth c T' _ hs as Cc X' (Fr.snoc X' N (M.new hi)) ?_ (by rw [e']; exact R.wr hi W')).back st'
  rw [e']; exact M.wr hi W' (Holds.set A ee O W')
theorem Mo.sto {a y : Addr} {C : String} {vs : List Value} {i : Nat} (hi : ds[i]? = some (ar a (.object C) vs)) (hI : ∀ h, Mo Z a0 h0 ds h → Ins Z h y C true) : ∀ h, Mo Z a0 h0 ds h → Sto Z h a (.ref y) := fun h M => by
  obtain ⟨c, A, -, O⟩ := (M.at hi).arr; exact Sto.of A (O C rfl) (hI h M)
/-! the plain steps -/
theorem go_iloadN {j : Fin 4} {v : Int32} (q : Nat) (hp : pc + 1 = q) (hd : decode B.2.1 pc = .ok (.iload_n j, 1)) (hl : ls[j.val]? = some (.val (.int v))) (H : Go B Z a0 h0 Q k n ds q ls (.int v :: st)) : Go B Z a0 h0 Q k n ds pc ls st := by
  subst hp; exact H.step fun C X _ t hr => XS.iloadN X.here C.1 rfl (hb C.2.2.1 hd) hl hr
theorem go_iload {j : Nat} {v : Int32} (q : Nat) (hp : pc + 2 = q) (hd : decode B.2.1 pc = .ok (.iload j, 2)) (hl : ls[j]? = some (.val (.int v))) (H : Go B Z a0 h0 Q k n ds q ls (.int v :: st)) : Go B Z a0 h0 Q k n ds pc ls st := by
  subst hp; exact H.step fun C X _ t hr => XS.iload X.here C.1 rfl (hb C.2.2.1 hd) hl hr
theorem go_istoreN {j : Fin 4} {x : Int32} {rest : List Value} (l' : Array Slot) (q : Nat) (hp : pc + 1 = q) (hd : decode B.2.1 pc = .ok (.istore_n j, 1)) (hst : st = .int x :: rest) (hl : storeLocals ls j.val (.int x) = some l') (H : Go B Z a0 h0 Q k n ds q l' (rest)) : Go B Z a0 h0 Q k n ds pc ls st := by
  subst hp hst; exact H.step fun C X _ t hr => XS.istoreN X.here C.1 rfl (hb C.2.2.1 hd) rfl hl hr
theorem go_istore {j : Nat} {x : Int32} {rest : List Value} (l' : Array Slot) (q : Nat) (hp : pc + 2 = q) (hd : decode B.2.1 pc = .ok (.istore j, 2)) (hst : st = .int x :: rest) (hl : storeLocals ls j (.int x) = some l') (H : Go B Z a0 h0 Q k n ds q l' (rest)) : Go B Z a0 h0 Q k n ds pc ls st := by
  subst hp hst; exact H.step fun C X _ t hr => XS.istore X.here C.1 rfl (hb C.2.2.1 hd) rfl hl hr
theorem go_lloadN {j : Fin 4} {v : Int64} (q : Nat) (hp : pc + 1 = q) (hd : decode B.2.1 pc = .ok (.lload_n j, 1)) (hl : ls[j.val]? = some (.val (.long v))) (H : Go B Z a0 h0 Q k n ds q ls (.long v :: st)) : Go B Z a0 h0 Q k n ds pc ls st := by
  subst hp; exact H.step fun C X _ t hr => XS.lloadN X.here C.1 rfl (hb C.2.2.1 hd) hl hr
theorem go_lload {j : Nat} {v : Int64} (q : Nat) (hp : pc + 2 = q) (hd : decode B.2.1 pc = .ok (.lload j, 2)) (hl : ls[j]? = some (.val (.long v))) (H : Go B Z a0 h0 Q k n ds q ls (.long v :: st)) : Go B Z a0 h0 Q k n ds pc ls st := by
  subst hp; exact H.step fun C X _ t hr => XS.lload X.here C.1 rfl (hb C.2.2.1 hd) hl hr
theorem go_lstoreN {j : Fin 4} {x : Int64} {rest : List Value} (l' : Array Slot) (q : Nat) (hp : pc + 1 = q) (hd : decode B.2.1 pc = .ok (.lstore_n j, 1)) (hst : st = .long x :: rest) (hl : storeLocals ls j.val (.long x) = some l') (H : Go B Z a0 h0 Q k n ds q l' (rest)) : Go B Z a0 h0 Q k n ds pc ls st := by
  subst hp hst; exact H.step fun C X _ t hr => XS.lstoreN X.here C.1 rfl (hb C.2.2.1 hd) rfl hl hr
theorem go_lstore {j : Nat} {x : Int64} {rest : List Value} (l' : Array Slot) (q : Nat) (hp : pc + 2 = q) (hd : decode B.2.1 pc = .ok (.lstore j, 2)) (hst : st = .long x :: rest) (hl : storeLocals ls j (.long x) = some l') (H : Go B Z a0 h0 Q k n ds q l' (rest)) : Go B Z a0 h0 Q k n ds pc ls st := by
  subst hp hst; exact H.step fun C X _ t hr => XS.lstore X.here C.1 rfl (hb C.2.2.1 hd) rfl hl hr
theorem go_aloadN {j : Fin 4} {v : Value} (q : Nat) (hp : pc + 1 = q) (hd : decode B.2.1 pc = .ok (.aload_n j, 1)) (hl : ls[j.val]? = some (.val v)) (hv : v.isRef = true) (H : Go B Z a0 h0 Q k n ds q ls (v :: st)) : Go B Z a0 h0 Q k n ds pc ls st := by
  subst hp; exact H.step fun C X _ t hr => XS.aloadN X.here C.1 rfl (hb C.2.2.1 hd) hl hv hr
theorem go_aload {j : Nat} {v : Value} (q : Nat) (hp : pc + 2 = q) (hd : decode B.2.1 pc = .ok (.aload j, 2)) (hl : ls[j]? = some (.val v)) (hv : v.isRef = true) (H : Go B Z a0 h0 Q k n ds q ls (v :: st)) : Go B Z a0 h0 Q k n ds pc ls st := by
  subst hp; exact H.step fun C X _ t hr => XS.aload X.here C.1 rfl (hb C.2.2.1 hd) hl hv hr
theorem go_astoreN {j : Fin 4} {x : Value} {rest : List Value} (l' : Array Slot) (q : Nat) (hp : pc + 1 = q) (hd : decode B.2.1 pc = .ok (.astore_n j, 1)) (hst : st = x :: rest) (hv : x.isRef = true) (hl : storeLocals ls j.val x = some l') (H : Go B Z a0 h0 Q k n ds q l' (rest)) : Go B Z a0 h0 Q k n ds pc ls st := by
  subst hp hst; exact H.step fun C X _ t hr => XS.astoreN X.here C.1 rfl (hb C.2.2.1 hd) rfl hv hl hr
theorem go_astore {j : Nat} {x : Value} {rest : List Value} (l' : Array Slot) (q : Nat) (hp : pc + 2 = q) (hd : decode B.2.1 pc = .ok (.astore j, 2)) (hst : st = x :: rest) (hv : x.isRef = true) (hl : storeLocals ls j x = some l') (H : Go B Z a0 h0 Q k n ds q l' (rest)) : Go B Z a0 h0 Q k n ds pc ls st := by
  subst hp hst; exact H.step fun C X _ t hr => XS.astore X.here C.1 rfl (hb C.2.2.1 hd) rfl hv hl hr
theorem go_iconst {i : Int} (v : Int32) (q : Nat) (hp : pc + 1 = q) (hd : decode B.2.1 pc = .ok (.iconst i, 1)) (hv : Int32.ofInt i = v) (H : Go B Z a0 h0 Q k n ds q ls (.int v :: st)) : Go B Z a0 h0 Q k n ds pc ls st := by
  subst hp hv; exact H.step fun C X _ t hr => XS.iconst X.here C.1 rfl (hb C.2.2.1 hd) hr
theorem go_bipush {i : Int} (v : Int32) (q : Nat) (hp : pc + 2 = q) (hd : decode B.2.1 pc = .ok (.bipush i, 2)) (hv : (Int8.ofInt i).toInt32 = v) (H : Go B Z a0 h0 Q k n ds q ls (.int v :: st)) : Go B Z a0 h0 Q k n ds pc ls st := by
  subst hp hv; exact H.step fun C X _ t hr => XS.bipush X.here C.1 rfl (hb C.2.2.1 hd) hr
theorem go_sipush {i : Int} (v : Int32) (q : Nat) (hp : pc + 3 = q) (hd : decode B.2.1 pc = .ok (.sipush i, 3)) (hv : (Int16.ofInt i).toInt32 = v) (H : Go B Z a0 h0 Q k n ds q ls (.int v :: st)) : Go B Z a0 h0 Q k n ds pc ls st := by
  subst hp hv; exact H.step fun C X _ t hr => XS.sipush X.here C.1 rfl (hb C.2.2.1 hd) hr
theorem go_lconst {i : Fin 2} (v : Int64) (q : Nat) (hp : pc + 1 = q) (hd : decode B.2.1 pc = .ok (.lconst i, 1)) (hv : Int64.ofNat i.val = v) (H : Go B Z a0 h0 Q k n ds q ls (.long v :: st)) : Go B Z a0 h0 Q k n ds pc ls st := by
  subst hp hv; exact H.step fun C X _ t hr => XS.lconst X.here C.1 rfl (hb C.2.2.1 hd) hr
theorem go_aconstNull  (q : Nat) (hp : pc + 1 = q) (hd : decode B.2.1 pc = .ok (.aconst_null, 1)) (H : Go B Z a0 h0 Q k n ds q ls (.null :: st)) : Go B Z a0 h0 Q k n ds pc ls st := by
  subst hp; exact H.step fun C X _ t hr => XS.aconstNull X.here C.1 rfl (hb C.2.2.1 hd)  hr
theorem go_iadd {x y : Int32} {rest : List Value} (q : Nat) (hp : pc + 1 = q) (hd : decode B.2.1 pc = .ok (.iadd, 1)) (hst : st = .int y :: .int x :: rest) (H : Go B Z a0 h0 Q k n ds q ls (.int (x + y) :: rest)) : Go B Z a0 h0 Q k n ds pc ls st := by
  subst hp hst; exact H.step fun C X _ t hr => XS.iadd X.here C.1 rfl (hb C.2.2.1 hd) rfl hr
theorem go_isub {x y : Int32} {rest : List Value} (q : Nat) (hp : pc + 1 = q) (hd : decode B.2.1 pc = .ok (.isub, 1)) (hst : st = .int y :: .int x :: rest) (H : Go B Z a0 h0 Q k n ds q ls (.int (x - y) :: rest)) : Go B Z a0 h0 Q k n ds pc ls st := by
  subst hp hst; exact H.step fun C X _ t hr => XS.isub X.here C.1 rfl (hb C.2.2.1 hd) rfl hr
theorem go_imul {x y : Int32} {rest : List Value} (q : Nat) (hp : pc + 1 = q) (hd : decode B.2.1 pc = .ok (.imul, 1)) (hst : st = .int y :: .int x :: rest) (H : Go B Z a0 h0 Q k n ds q ls (.int (x * y) :: rest)) : Go B Z a0 h0 Q k n ds pc ls st := by
  subst hp hst; exact H.step fun C X _ t hr => XS.imul X.here C.1 rfl (hb C.2.2.1 hd) rfl hr
theorem go_iand {x y : Int32} {rest : List Value} (q : Nat) (hp : pc + 1 = q) (hd : decode B.2.1 pc = .ok (.iand, 1)) (hst : st = .int y :: .int x :: rest) (H : Go B Z a0 h0 Q k n ds q ls (.int (x &&& y) :: rest)) : Go B Z a0 h0 Q k n ds pc ls st := by
  subst hp hst; exact H.step fun C X _ t hr => XS.iand X.here C.1 rfl (hb C.2.2.1 hd) rfl hr
theorem go_ior {x y : Int32} {rest : List Value} (q : Nat) (hp : pc + 1 = q) (hd : decode B.2.1 pc = .ok (.ior, 1)) (hst : st = .int y :: .int x :: rest) (H : Go B Z a0 h0 Q k n ds q ls (.int (x ||| y) :: rest)) : Go B Z a0 h0 Q k n ds pc ls st := by
  subst hp hst; exact H.step fun C X _ t hr => XS.ior X.here C.1 rfl (hb C.2.2.1 hd) rfl hr
theorem go_ixor {x y : Int32} {rest : List Value} (q : Nat) (hp : pc + 1 = q) (hd : decode B.2.1 pc = .ok (.ixor, 1)) (hst : st = .int y :: .int x :: rest) (H : Go B Z a0 h0 Q k n ds q ls (.int (x ^^^ y) :: rest)) : Go B Z a0 h0 Q k n ds pc ls st := by
  subst hp hst; exact H.step fun C X _ t hr => XS.ixor X.here C.1 rfl (hb C.2.2.1 hd) rfl hr
theorem go_ishl {x y : Int32} {rest : List Value} (q : Nat) (hp : pc + 1 = q) (hd : decode B.2.1 pc = .ok (.ishl, 1)) (hst : st = .int y :: .int x :: rest) (H : Go B Z a0 h0 Q k n ds q ls (.int (x <<< (y &&& 31)) :: rest)) : Go B Z a0 h0 Q k n ds pc ls st := by
  subst hp hst; exact H.step fun C X _ t hr => XS.ishl X.here C.1 rfl (hb C.2.2.1 hd) rfl hr
theorem go_ishr {x y : Int32} {rest : List Value} (q : Nat) (hp : pc + 1 = q) (hd : decode B.2.1 pc = .ok (.ishr, 1)) (hst : st = .int y :: .int x :: rest) (H : Go B Z a0 h0 Q k n ds q ls (.int (x >>> (y &&& 31)) :: rest)) : Go B Z a0 h0 Q k n ds pc ls st := by
  subst hp hst; exact H.step fun C X _ t hr => XS.ishr X.here C.1 rfl (hb C.2.2.1 hd) rfl hr
theorem go_iushr {x y : Int32} {rest : List Value} (q : Nat) (hp : pc + 1 = q) (hd : decode B.2.1 pc = .ok (.iushr, 1)) (hst : st = .int y :: .int x :: rest) (H : Go B Z a0 h0 Q k n ds q ls (.int ((x.toUInt32 >>> (y &&& 31).toUInt32).toInt32) :: rest)) : Go B Z a0 h0 Q k n ds pc ls st := by
  subst hp hst; exact H.step fun C X _ t hr => XS.iushr X.here C.1 rfl (hb C.2.2.1 hd) rfl hr
theorem go_ladd {x y : Int64} {rest : List Value} (q : Nat) (hp : pc + 1 = q) (hd : decode B.2.1 pc = .ok (.ladd, 1)) (hst : st = .long y :: .long x :: rest) (H : Go B Z a0 h0 Q k n ds q ls (.long (x + y) :: rest)) : Go B Z a0 h0 Q k n ds pc ls st := by
  subst hp hst; exact H.step fun C X _ t hr => XS.ladd X.here C.1 rfl (hb C.2.2.1 hd) rfl hr
theorem go_lsub {x y : Int64} {rest : List Value} (q : Nat) (hp : pc + 1 = q) (hd : decode B.2.1 pc = .ok (.lsub, 1)) (hst : st = .long y :: .long x :: rest) (H : Go B Z a0 h0 Q k n ds q ls (.long (x - y) :: rest)) : Go B Z a0 h0 Q k n ds pc ls st := by
  subst hp hst; exact H.step fun C X _ t hr => XS.lsub X.here C.1 rfl (hb C.2.2.1 hd) rfl hr
theorem go_lmul {x y : Int64} {rest : List Value} (q : Nat) (hp : pc + 1 = q) (hd : decode B.2.1 pc = .ok (.lmul, 1)) (hst : st = .long y :: .long x :: rest) (H : Go B Z a0 h0 Q k n ds q ls (.long (x * y) :: rest)) : Go B Z a0 h0 Q k n ds pc ls st := by
  subst hp hst; exact H.step fun C X _ t hr => XS.lmul X.here C.1 rfl (hb C.2.2.1 hd) rfl hr
theorem go_land {x y : Int64} {rest : List Value} (q : Nat) (hp : pc + 1 = q) (hd : decode B.2.1 pc = .ok (.land, 1)) (hst : st = .long y :: .long x :: rest) (H : Go B Z a0 h0 Q k n ds q ls (.long (x &&& y) :: rest)) : Go B Z a0 h0 Q k n ds pc ls st := by
  subst hp hst; exact H.step fun C X _ t hr => XS.land X.here C.1 rfl (hb C.2.2.1 hd) rfl hr
theorem go_lor {x y : Int64} {rest : List Value} (q : Nat) (hp : pc + 1 = q) (hd : decode B.2.1 pc = .ok (.lor, 1)) (hst : st = .long y :: .long x :: rest) (H : Go B Z a0 h0 Q k n ds q ls (.long (x ||| y) :: rest)) : Go B Z a0 h0 Q k n ds pc ls st := by
  subst hp hst; exact H.step fun C X _ t hr => XS.lor X.here C.1 rfl (hb C.2.2.1 hd) rfl hr
theorem go_lxor {x y : Int64} {rest : List Value} (q : Nat) (hp : pc + 1 = q) (hd : decode B.2.1 pc = .ok (.lxor, 1)) (hst : st = .long y :: .long x :: rest) (H : Go B Z a0 h0 Q k n ds q ls (.long (x ^^^ y) :: rest)) : Go B Z a0 h0 Q k n ds pc ls st := by
  subst hp hst; exact H.step fun C X _ t hr => XS.lxor X.here C.1 rfl (hb C.2.2.1 hd) rfl hr
theorem go_lshl {x : Int64} {y : Int32} {rest : List Value} (q : Nat) (hp : pc + 1 = q) (hd : decode B.2.1 pc = .ok (.lshl, 1)) (hst : st = .int y :: .long x :: rest) (H : Go B Z a0 h0 Q k n ds q ls (.long (x <<< (y &&& 0x3f).toInt64) :: rest)) : Go B Z a0 h0 Q k n ds pc ls st := by
  subst hp hst; exact H.step fun C X _ t hr => XS.lshl X.here C.1 rfl (hb C.2.2.1 hd) rfl hr
theorem go_lshr {x : Int64} {y : Int32} {rest : List Value} (q : Nat) (hp : pc + 1 = q) (hd : decode B.2.1 pc = .ok (.lshr, 1)) (hst : st = .int y :: .long x :: rest) (H : Go B Z a0 h0 Q k n ds q ls (.long (x >>> (y &&& 0x3f).toInt64) :: rest)) : Go B Z a0 h0 Q k n ds pc ls st := by
  subst hp hst; exact H.step fun C X _ t hr => XS.lshr X.here C.1 rfl (hb C.2.2.1 hd) rfl hr
theorem go_lushr {x : Int64} {y : Int32} {rest : List Value} (q : Nat) (hp : pc + 1 = q) (hd : decode B.2.1 pc = .ok (.lushr, 1)) (hst : st = .int y :: .long x :: rest) (H : Go B Z a0 h0 Q k n ds q ls (.long ((x.toUInt64 >>> (y &&& 0x3f).toInt64.toUInt64).toInt64) :: rest)) : Go B Z a0 h0 Q k n ds pc ls st := by
  subst hp hst; exact H.step fun C X _ t hr => XS.lushr X.here C.1 rfl (hb C.2.2.1 hd) rfl hr
theorem go_idiv {x y : Int32} {rest : List Value} (q : Nat) (hp : pc + 1 = q) (hd : decode B.2.1 pc = .ok (.idiv, 1)) (hst : st = .int y :: .int x :: rest) (hy : y ≠ 0) (H : Go B Z a0 h0 Q k n ds q ls (.int (x / y) :: rest)) : Go B Z a0 h0 Q k n ds pc ls st := by
  subst hp hst; exact H.step fun C X _ t hr => XS.idiv X.here C.1 rfl (hb C.2.2.1 hd) rfl hy hr
theorem go_ldiv {x y : Int64} {rest : List Value} (q : Nat) (hp : pc + 1 = q) (hd : decode B.2.1 pc = .ok (.ldiv, 1)) (hst : st = .long y :: .long x :: rest) (hy : y ≠ 0) (H : Go B Z a0 h0 Q k n ds q ls (.long (x / y) :: rest)) : Go B Z a0 h0 Q k n ds pc ls st := by
  subst hp hst; exact H.step fun C X _ t hr => XS.ldiv X.here C.1 rfl (hb C.2.2.1 hd) rfl hy hr
theorem go_irem {x y : Int32} {rest : List Value} (q : Nat) (hp : pc + 1 = q) (hd : decode B.2.1 pc = .ok (.irem, 1)) (hst : st = .int y :: .int x :: rest) (hy : y ≠ 0) (H : Go B Z a0 h0 Q k n ds q ls (.int (x % y) :: rest)) : Go B Z a0 h0 Q k n ds pc ls st := by
  subst hp hst; exact H.step fun C X _ t hr => iremM X C.1 rfl (hb C.2.2.1 hd) rfl hy hr
theorem go_lrem {x y : Int64} {rest : List Value} (q : Nat) (hp : pc + 1 = q) (hd : decode B.2.1 pc = .ok (.lrem, 1)) (hst : st = .long y :: .long x :: rest) (hy : y ≠ 0) (H : Go B Z a0 h0 Q k n ds q ls (.long (x % y) :: rest)) : Go B Z a0 h0 Q k n ds pc ls st := by
  subst hp hst; exact H.step fun C X _ t hr => XS.lrem X.here C.1 rfl (hb C.2.2.1 hd) rfl hy (by rw [lrem_mod]; exact hr)
theorem go_ineg {x : Int32} {rest : List Value} (q : Nat) (hp : pc + 1 = q) (hd : decode B.2.1 pc = .ok (.ineg, 1)) (hst : st = .int x :: rest) (H : Go B Z a0 h0 Q k n ds q ls (.int (-x) :: rest)) : Go B Z a0 h0 Q k n ds pc ls st := by
  subst hp hst; exact H.step fun C X _ t hr => XS.ineg X.here C.1 rfl (hb C.2.2.1 hd) rfl hr
theorem go_lneg {x : Int64} {rest : List Value} (q : Nat) (hp : pc + 1 = q) (hd : decode B.2.1 pc = .ok (.lneg, 1)) (hst : st = .long x :: rest) (H : Go B Z a0 h0 Q k n ds q ls (.long (-x) :: rest)) : Go B Z a0 h0 Q k n ds pc ls st := by
  subst hp hst; exact H.step fun C X _ t hr => XS.lneg X.here C.1 rfl (hb C.2.2.1 hd) rfl hr
theorem go_i2l {x : Int32} {rest : List Value} (q : Nat) (hp : pc + 1 = q) (hd : decode B.2.1 pc = .ok (.i2l, 1)) (hst : st = .int x :: rest) (H : Go B Z a0 h0 Q k n ds q ls (.long x.toInt64 :: rest)) : Go B Z a0 h0 Q k n ds pc ls st := by
  subst hp hst; exact H.step fun C X _ t hr => XS.i2l X.here C.1 rfl (hb C.2.2.1 hd) rfl hr
theorem go_l2i {x : Int64} {rest : List Value} (q : Nat) (hp : pc + 1 = q) (hd : decode B.2.1 pc = .ok (.l2i, 1)) (hst : st = .long x :: rest) (H : Go B Z a0 h0 Q k n ds q ls (.int x.toInt32 :: rest)) : Go B Z a0 h0 Q k n ds pc ls st := by
  subst hp hst; exact H.step fun C X _ t hr => XS.l2i X.here C.1 rfl (hb C.2.2.1 hd) rfl hr
theorem go_i2b {x : Int32} {rest : List Value} (q : Nat) (hp : pc + 1 = q) (hd : decode B.2.1 pc = .ok (.i2b, 1)) (hst : st = .int x :: rest) (H : Go B Z a0 h0 Q k n ds q ls (.int x.toInt8.toInt32 :: rest)) : Go B Z a0 h0 Q k n ds pc ls st := by
  subst hp hst; exact H.step fun C X _ t hr => XS.i2b X.here C.1 rfl (hb C.2.2.1 hd) rfl hr
theorem go_i2c {x : Int32} {rest : List Value} (q : Nat) (hp : pc + 1 = q) (hd : decode B.2.1 pc = .ok (.i2c, 1)) (hst : st = .int x :: rest) (H : Go B Z a0 h0 Q k n ds q ls (.int x.toUInt32.toUInt16.toUInt32.toInt32 :: rest)) : Go B Z a0 h0 Q k n ds pc ls st := by
  subst hp hst; exact H.step fun C X _ t hr => XS.i2c X.here C.1 rfl (hb C.2.2.1 hd) rfl hr
theorem go_i2s {x : Int32} {rest : List Value} (q : Nat) (hp : pc + 1 = q) (hd : decode B.2.1 pc = .ok (.i2s, 1)) (hst : st = .int x :: rest) (H : Go B Z a0 h0 Q k n ds q ls (.int x.toInt16.toInt32 :: rest)) : Go B Z a0 h0 Q k n ds pc ls st := by
  subst hp hst; exact H.step fun C X _ t hr => XS.i2s X.here C.1 rfl (hb C.2.2.1 hd) rfl hr
theorem go_lcmp {x y : Int64} {rest : List Value} (q : Nat) (hp : pc + 1 = q) (hd : decode B.2.1 pc = .ok (.lcmp, 1)) (hst : st = .long y :: .long x :: rest) (H : Go B Z a0 h0 Q k n ds q ls (.int (lcmpW x y) :: rest)) : Go B Z a0 h0 Q k n ds pc ls st := by
  subst hp hst; exact H.step fun C X _ t hr => XS.lcmp X.here C.1 rfl (hb C.2.2.1 hd) rfl hr
theorem go_iinc {j : Nat} {cst : Int} {x : Int32} (l' : Array Slot) (q : Nat) (hp : pc + 3 = q) (hd : decode B.2.1 pc = .ok (.iinc j cst, 3)) (hl : ls[j]? = some (.val (.int x))) (hl' : storeLocals ls j (.int (x + Int32.ofInt cst)) = some l') (H : Go B Z a0 h0 Q k n ds q l' (st)) : Go B Z a0 h0 Q k n ds pc ls st := by
  subst hp; exact H.step fun C X _ t hr => XS.iinc X.here C.1 rfl (hb C.2.2.1 hd) hl hl' hr
theorem go_dup {x : Value} {rest : List Value} (q : Nat) (hp : pc + 1 = q) (hd : decode B.2.1 pc = .ok (.dup, 1)) (hst : st = x :: rest) (hc : x.category = 1) (H : Go B Z a0 h0 Q k n ds q ls (x :: x :: rest)) : Go B Z a0 h0 Q k n ds pc ls st := by
  subst hp hst; exact H.step fun C X _ t hr => XS.dup X.here C.1 rfl (hb C.2.2.1 hd) rfl hc hr
theorem go_pop {x : Value} {rest : List Value} (q : Nat) (hp : pc + 1 = q) (hd : decode B.2.1 pc = .ok (.pop, 1)) (hst : st = x :: rest) (hc : x.category = 1) (H : Go B Z a0 h0 Q k n ds q ls (rest)) : Go B Z a0 h0 Q k n ds pc ls st := by
  subst hp hst; exact H.step fun C X _ t hr => XS.pop X.here C.1 rfl (hb C.2.2.1 hd) rfl hc hr
theorem go_dupX1 {x y : Value} {rest : List Value} (q : Nat) (hp : pc + 1 = q) (hd : decode B.2.1 pc = .ok (.dup_x1, 1)) (hst : st = x :: y :: rest) (hc : x.category = 1) (hc' : y.category = 1) (H : Go B Z a0 h0 Q k n ds q ls (x :: y :: x :: rest)) : Go B Z a0 h0 Q k n ds pc ls st := by
  subst hp hst; exact H.step fun C X _ t hr => XS.dupX1 X.here C.1 rfl (hb C.2.2.1 hd) rfl hc hc' hr
theorem go_swap {x y : Value} {rest : List Value} (q : Nat) (hp : pc + 1 = q) (hd : decode B.2.1 pc = .ok (.swap, 1)) (hst : st = x :: y :: rest) (hc : x.category = 1) (hc' : y.category = 1) (H : Go B Z a0 h0 Q k n ds q ls (y :: x :: rest)) : Go B Z a0 h0 Q k n ds pc ls st := by
  subst hp hst; exact H.step fun C X _ t hr => XS.swap X.here C.1 rfl (hb C.2.2.1 hd) rfl hc hc' hr
theorem go_dup2 {x y : Value} {rest : List Value} (q : Nat) (hp : pc + 1 = q) (hd : decode B.2.1 pc = .ok (.dup2, 1)) (hst : st = x :: y :: rest) (hc : x.category = 1) (hc' : y.category = 1) (H : Go B Z a0 h0 Q k n ds q ls (x :: y :: x :: y :: rest)) : Go B Z a0 h0 Q k n ds pc ls st := by
  subst hp hst; exact H.step fun C X _ t hr => XT.dup2 X.here C.1 rfl (hb C.2.2.1 hd) rfl hc hc' hr
theorem go_dup2L {x : Int64} {rest : List Value} (q : Nat) (hp : pc + 1 = q) (hd : decode B.2.1 pc = .ok (.dup2, 1)) (hst : st = .long x :: rest) (H : Go B Z a0 h0 Q k n ds q ls (.long x :: .long x :: rest)) : Go B Z a0 h0 Q k n ds pc ls st := by
  subst hp hst; exact H.step fun C X _ t hr => XT.dup2L X.here C.1 rfl (hb C.2.2.1 hd) rfl hr
/-! calls: the callee's Met pays -/
theorem go_initObj {a : Addr} {idx : Nat} {rest : List Value} (q : Nat) (hp : pc + 3 = q) (hd : decode B.2.1 pc = .ok (.invokespecial idx, 3)) (hst : st = .ref a :: rest) (w1 : (Jvm.Cond.methodLink B.1.cls idx Lib.objectInit).before a0 Z = true) (w2 : (Jvm.Cond.instanceMethod Lib.objectInit).before a0 Z = true) (w3 : (Jvm.Cond.code Lib.objectInit ⟨#[0xb1]⟩ 1 none).before a0 Z = true)
    (hsz : ls.size = B.2.2.1) (hf : 1 ≤ B.2.2.2.2.frames) (hl : (rest.map fun v => v.category).sum + 12 ≤ B.2.2.2.2.locals) (H : Go B Z a0 h0 Q k n ds q ls rest) : Go B Z a0 h0 Q k n ds pc ls st := by
  subst hp hst
  intro p l e s m args below meth c T locs hs as Cc X N M R
  obtain ⟨T', X', e', st'⟩ := initO X Cc.1 Cc.2.1 Cc.2.2.2.2.1 w1 w2 w3 rfl (g := mkF m pc ls (.ref a :: rest)) rfl (hsz.trans Cc.2.2.2.1.symm) rfl (hb Cc.2.2.1 hd) hf (W := (rest.map fun v => v.category).sum) (by show 2 * 0 + _ ≤ _; omega) hl
  exact (H p l e s m args below meth c T' locs hs as Cc X' N (by rw [e']; exact M) (by rw [e']; exact R)).back st'
variable {y z : MethodName} {bytes : ByteArray} {maxL : Nat} {ret : Option FieldType} {rm : Room} {idx : Nat} {argsL rest : List Value} {ps : List FieldType} {Q' : Option Value → Mem → Prop}
theorem go_callS (q : Nat) (hp : pc + 3 = q) (hd : decode B.2.1 pc = .ok (.invokestatic idx, 3)) (w1 : (Jvm.Cond.methodLink B.1.cls idx y).before a0 Z = true) (w2 : (Jvm.Cond.static y).before a0 Z = true) (w3 : (Jvm.Cond.initialized y.cls).before a0 Z = true) (w4 : (Jvm.Cond.code y bytes maxL ret).before a0 Z = true)
    (hy : y.cls ≠ "java/lang/invoke/MethodHandle" ∧ y.cls ≠ "java/lang/invoke/VarHandle") (hM : Met (y, bytes, maxL, ret, rm) Z a0 h0 argsL.toArray ds Q') (hst : st = argsL.reverse ++ rest) (hpd : parseMethodDescriptor y.desc = some ⟨ps, ret⟩) (hlen : argsL.length = ps.length)
    (hsz : ls.size = B.2.2.1) (W : Nat) (hW : (rest.map fun v => v.category).sum = W) (hf : rm.frames + 1 ≤ B.2.2.2.2.frames) (hl : W + (maxL + 11) + rm.locals ≤ B.2.2.2.2.locals) (hk : k + rm.cells ≤ B.2.2.2.2.cells) (hn : n + rm.slots ≤ B.2.2.2.2.slots)
    (H : ∀ v ds', Q' v ds' → Go B Z a0 h0 Q (k + rm.cells) (n + rm.slots) ds' q ls (v.toList ++ rest)) : Go B Z a0 h0 Q k n ds pc ls st := by
  subst hp hst
  intro p l e s m args below meth c T locs hs as Cc X N M R
  have hZ := Cc.2.1
  obtain ⟨v, _, ⟨T', L', k', n'⟩, -, X', ⟨Lc, hQ, l1, y1, z1⟩, st'⟩ := Jvm.LawKit.callS X Cc.1 (y := y) Cc.2.2.2.2.1 (mvT hZ w1) (mvT hZ w2) (mvT hZ w3) (mvT hZ w4) hy (backOf (W := W) (hM l [] T.heap M) hZ w4 w3 hf hl) (g := mkF m pc ls (argsL.reverse ++ rest)) rfl (hsz.trans Cc.2.2.2.1.symm) (argsL := argsL) (rest := rest) (lenOf hpd hlen) rfl (by show 2 * 0 + _ ≤ _; omega) (hb Cc.2.2.1 hd) (fun _ _ => ⟨rfl, rfl, hk, hn⟩)
  dsimp only [Pt.U, Pt.locs, Pt.cells, Pt.slots] at X' l1 y1 z1 st' hQ
  subst l1 y1 z1
  obtain ⟨N', ds', M', R', hq⟩ := hQ
  exact (H v ds' hq p l e s m args below meth c T' _ hs as Cc X' (Fr.app N N') M' (R.call R')).back st'
theorem go_callI {a : Addr} (q : Nat) (hp : pc + 3 = q) (hd : decode B.2.1 pc = .ok (.invokespecial idx, 3)) (hin : y.name = "<init>") (w1 : (Jvm.Cond.methodLink B.1.cls idx y).before a0 Z = true) (w2 : (Jvm.Cond.instanceMethod y).before a0 Z = true) (w3 : (Jvm.Cond.initialized y.cls).before a0 Z = true) (w4 : (Jvm.Cond.code y bytes maxL none).before a0 Z = true)
    (hy : y.cls ≠ "java/lang/invoke/MethodHandle" ∧ y.cls ≠ "java/lang/invoke/VarHandle") (hM : Met (y, bytes, maxL, none, rm) Z a0 h0 (.ref a :: argsL).toArray ds Q') (hst : st = argsL.reverse ++ .ref a :: rest) (hpd : parseMethodDescriptor y.desc = some ⟨ps, ret⟩) (hlen : argsL.length = ps.length)
    (hsz : ls.size = B.2.2.1) (W : Nat) (hW : (rest.map fun v => v.category).sum = W) (hf : rm.frames + 1 ≤ B.2.2.2.2.frames) (hl : W + (maxL + 11) + rm.locals ≤ B.2.2.2.2.locals) (hk : k + rm.cells ≤ B.2.2.2.2.cells) (hn : n + rm.slots ≤ B.2.2.2.2.slots)
    (H : ∀ v ds', Q' v ds' → Go B Z a0 h0 Q (k + rm.cells) (n + rm.slots) ds' q ls (v.toList ++ rest)) : Go B Z a0 h0 Q k n ds pc ls st := by
  subst hp hst
  intro p l e s m args below meth c T locs hs as Cc X N M R
  have hZ := Cc.2.1
  obtain ⟨v, _, ⟨T', L', k', n'⟩, -, X', ⟨Lc, hQ, l1, y1, z1⟩, st'⟩ := X.specialBack Cc.1 (y := y) hin Cc.2.2.2.2.1 (mvT hZ w1) (mvT hZ w2) (mvT hZ w4) hy (backOf (W := W) (hM l [] T.heap M) hZ w4 w3 hf hl) (g := mkF m pc ls (argsL.reverse ++ .ref a :: rest)) rfl (hsz.trans Cc.2.2.2.1.symm) (Steps.refl _) (a := a) (argsL := argsL) (rest := rest) (lenOf hpd hlen) rfl (by show 2 * 0 + _ ≤ _; omega) (hb Cc.2.2.1 hd) (fun _ _ => ⟨rfl, rfl, hk, hn⟩)
  dsimp only [Pt.U, Pt.locs, Pt.cells, Pt.slots] at X' l1 y1 z1 st' hQ
  subst l1 y1 z1
  obtain ⟨N', ds', M', R', hq⟩ := hQ
  exact (H v ds' hq p l e s m args below meth c T' _ hs as Cc X' (Fr.app N N') M' (R.call R')).back fun t hr => st'.trans hr
theorem go_callVz {a : Addr} {C : String} (q : Nat) (hp : pc + 3 = q) (hd : decode B.2.1 pc = .ok (.invokevirtual idx, 3)) (w1 : (Jvm.Cond.methodLink B.1.cls idx y).before a0 Z = true) (w2 : (Jvm.Cond.declares y).before a0 Z = true) (w3 : (Jvm.Cond.selects C y z).before a0 Z = true) (w4 : (Jvm.Cond.instanceMethod z).before a0 Z = true) (w5 : (Jvm.Cond.initialized z.cls).before a0 Z = true) (w6 : (Jvm.Cond.code z bytes maxL ret).before a0 Z = true)
    (hnf : ∀ s : State, Z.Warmed39 s.vm → NotFace s y) (hy : y.cls ≠ "java/lang/invoke/MethodHandle" ∧ y.cls ≠ "java/lang/invoke/VarHandle") (hE : ∀ h, Mo Z a0 h0 ds h → Exa Z h a C) (hM : Met (z, bytes, maxL, ret, rm) Z a0 h0 (.ref a :: argsL).toArray ds Q') (hst : st = argsL.reverse ++ .ref a :: rest) (hpd : parseMethodDescriptor y.desc = some ⟨ps, ret⟩) (hlen : argsL.length = ps.length)
    (hsz : ls.size = B.2.2.1) (W : Nat) (hW : (rest.map fun v => v.category).sum = W) (hf : rm.frames + 1 ≤ B.2.2.2.2.frames) (hl : W + (maxL + 11) + rm.locals ≤ B.2.2.2.2.locals) (hk : k + rm.cells ≤ B.2.2.2.2.cells) (hn : n + rm.slots ≤ B.2.2.2.2.slots)
    (H : ∀ v ds', Q' v ds' → Go B Z a0 h0 Q (k + rm.cells) (n + rm.slots) ds' q ls (v.toList ++ rest)) : Go B Z a0 h0 Q k n ds pc ls st := by
  subst hp hst
  intro p l e s m args below meth c T locs hs as Cc X N M R
  have hZ := Cc.2.1
  obtain ⟨cq, kq, qa, qb, qc⟩ := isOf hZ rfl (hE _ M)
  obtain ⟨v, _, ⟨T', L', k', n'⟩, -, X', ⟨Lc, hQ, l1, y1, z1⟩, st'⟩ := X.virtualBack Cc.1 (y := y) (z := z) Cc.2.2.2.2.1 (mvT hZ w1) (mvT hZ w2) (hnf _ hZ) (mvT hZ w3) (mvT hZ w4) hy (backOf (W := W) (hM l [] T.heap M) hZ w6 w5 hf hl) qa qc (g := mkF m pc ls (argsL.reverse ++ .ref a :: rest)) rfl (hsz.trans Cc.2.2.2.1.symm) (Steps.refl _) (argsL := argsL) (rest := rest) (lenOf hpd hlen) rfl (by show 2 * 0 + _ ≤ _; omega) (hb Cc.2.2.1 hd) (fun _ _ => ⟨rfl, rfl, hk, hn⟩)
  dsimp only [Pt.U, Pt.locs, Pt.cells, Pt.slots] at X' l1 y1 z1 st' hQ
  subst l1 y1 z1
  obtain ⟨N', ds', M', R', hq⟩ := hQ
  exact (H v ds' hq p l e s m args below meth c T' _ hs as Cc X' (Fr.app N N') M' (R.call R')).back fun t hr => st'.trans hr
theorem go_callV {a : Addr} {C : String} (q : Nat) (hp : pc + 3 = q) (hd : decode B.2.1 pc = .ok (.invokevirtual idx, 3)) (w1 : (Jvm.Cond.methodLink B.1.cls idx y).before a0 Z = true) (w2 : (Jvm.Cond.declares y).before a0 Z = true) (w3 : (Jvm.Cond.selects C y y).before a0 Z = true) (w4 : (Jvm.Cond.instanceMethod y).before a0 Z = true) (w5 : (Jvm.Cond.initialized y.cls).before a0 Z = true) (w6 : (Jvm.Cond.code y bytes maxL ret).before a0 Z = true)
    (hy : y.cls ≠ "java/lang/invoke/MethodHandle" ∧ y.cls ≠ "java/lang/invoke/VarHandle") (hE : ∀ h, Mo Z a0 h0 ds h → Exa Z h a C) (hM : Met (y, bytes, maxL, ret, rm) Z a0 h0 (.ref a :: argsL).toArray ds Q') (hst : st = argsL.reverse ++ .ref a :: rest) (hpd : parseMethodDescriptor y.desc = some ⟨ps, ret⟩) (hlen : argsL.length = ps.length)
    (hsz : ls.size = B.2.2.1) (W : Nat) (hW : (rest.map fun v => v.category).sum = W) (hf : rm.frames + 1 ≤ B.2.2.2.2.frames) (hl : W + (maxL + 11) + rm.locals ≤ B.2.2.2.2.locals) (hk : k + rm.cells ≤ B.2.2.2.2.cells) (hn : n + rm.slots ≤ B.2.2.2.2.slots)
    (H : ∀ v ds', Q' v ds' → Go B Z a0 h0 Q (k + rm.cells) (n + rm.slots) ds' q ls (v.toList ++ rest)) : Go B Z a0 h0 Q k n ds pc ls st :=
  go_callVz q hp hd w1 w2 w3 w4 w5 w6 (fun s hZ => notFace_of_selects (args := #[]) (mvT hZ w3)) hy hE hM hst hpd hlen hsz W hW hf hl hk hn H
theorem go_callVU {a : Addr} {C owner : String} (q : Nat) (hp : pc + 3 = q) (hd : decode B.2.1 pc = .ok (.invokevirtual idx, 3)) (w1 : (Jvm.Cond.methodLink B.1.cls idx y).before a0 Z = true) (w0 : (Jvm.Cond.sameMethod y.cls owner y.name y.desc).before a0 Z = true) (w2 : (Jvm.Cond.declares ⟨owner, y.name, y.desc⟩).before a0 Z = true) (w3 : (Jvm.Cond.selects C y z).before a0 Z = true) (w4 : (Jvm.Cond.instanceMethod z).before a0 Z = true) (w5 : (Jvm.Cond.initialized z.cls).before a0 Z = true) (w6 : (Jvm.Cond.code z bytes maxL ret).before a0 Z = true)
    (hy : owner ≠ "java/lang/invoke/MethodHandle" ∧ owner ≠ "java/lang/invoke/VarHandle") (hE : ∀ h, Mo Z a0 h0 ds h → Exa Z h a C) (hM : Met (z, bytes, maxL, ret, rm) Z a0 h0 (.ref a :: argsL).toArray ds Q') (hst : st = argsL.reverse ++ .ref a :: rest) (hpd : parseMethodDescriptor y.desc = some ⟨ps, ret⟩) (hlen : argsL.length = ps.length)
    (hsz : ls.size = B.2.2.1) (W : Nat) (hW : (rest.map fun v => v.category).sum = W) (hf : rm.frames + 1 ≤ B.2.2.2.2.frames) (hl : W + (maxL + 11) + rm.locals ≤ B.2.2.2.2.locals) (hk : k + rm.cells ≤ B.2.2.2.2.cells) (hn : n + rm.slots ≤ B.2.2.2.2.slots)
    (H : ∀ v ds', Q' v ds' → Go B Z a0 h0 Q (k + rm.cells) (n + rm.slots) ds' q ls (v.toList ++ rest)) : Go B Z a0 h0 Q k n ds pc ls st := by
  subst hp hst
  intro p l e s m args below meth c T locs hs as Cc X N M R
  have hZ := Cc.2.1
  obtain ⟨cq, kq, qa, qb, qc⟩ := isOf hZ rfl (hE _ M)
  obtain ⟨v, _, ⟨T', L', k', n'⟩, -, X', ⟨Lc, hQ, l1, y1, z1⟩, st'⟩ := X.virtualBackUp Cc.1 (x := y) (y := z) Cc.2.2.2.2.1 (mvT hZ w1) (mvT hZ w0) (mvT hZ w2) hy (mvT hZ w3) (mvT hZ w4) (backOf (W := W) (hM l [] T.heap M) hZ w6 w5 hf hl) qa qc (g := mkF m pc ls (argsL.reverse ++ .ref a :: rest)) rfl (hsz.trans Cc.2.2.2.1.symm) (Steps.refl _) (argsL := argsL) (rest := rest) (lenOf hpd hlen) rfl (by show 2 * 0 + _ ≤ _; omega) (hb Cc.2.2.1 hd) (fun _ _ => ⟨rfl, rfl, hk, hn⟩)
  dsimp only [Pt.U, Pt.locs, Pt.cells, Pt.slots] at X' l1 y1 z1 st' hQ
  subst l1 y1 z1
  obtain ⟨N', ds', M', R', hq⟩ := hQ
  exact (H v ds' hq p l e s m args below meth c T' _ hs as Cc X' (Fr.app N N') M' (R.call R')).back fun t hr => st'.trans hr
end Core
end Jvm.OwnW

namespace Jvm.Pilot.@@N@@
open Jvm Jvm.ClassFile Sem Op Lib Jvm.Free Jvm.Stand Jvm.LawKit Jvm.RoadKit Bundle Jvm.OwnW Jvm.Pilot.@@N@@.Jvm.D

def tab (f : Nat → Int32) : List Value := (List.range 32).map (fun i => Value.int (f i))
theorem tab_len (f : Nat → Int32) : (tab f).length = 32 := by simp [tab]
theorem tab_get (f : Nat → Int32) (i : Nat) (h : i < 32) : (tab f)[i]? = some (.int (f i)) := by simp [tab, h]
theorem tab_set (f : Nat → Int32) (k : Nat) (v : Int32) : (tab f).set k (.int v) = tab (fun i => if i = k then v else f i) := by
  apply List.ext_getElem?
  intro i
  by_cases hi : i < 32
  · rw [tab_get _ i hi]
    by_cases e : k = i
    · subst e; rw [List.getElem?_set_self (by rw [tab_len]; exact hi), if_pos rfl]
    · rw [List.getElem?_set_ne e, tab_get _ i hi, if_neg (Ne.symm e)]
  · rw [List.getElem?_eq_none (by rw [List.length_set, tab_len]; omega), List.getElem?_eq_none (by rw [tab_len]; omega)]
def Dg (j N : Nat) : Prop := 1 ≤ j ∧ N < 10 ^ j ∧ (j = 1 ∨ 10 ^ (j - 1) ≤ N)
theorem Dg.le {j k N : Nat} (a : Dg j N) (b : Dg k N) : j ≤ k := by
  by_cases h : j ≤ k
  · exact h
  · exfalso
    have h1 : k ≤ j - 1 := by omega
    have h2 : 10 ^ k ≤ 10 ^ (j - 1) := Nat.pow_le_pow_right (by decide) h1
    rcases a.2.2 with h3 | h3
    · have := b.1; omega
    · have := b.2.1; omega
theorem Dg.uniq {j k N : Nat} (a : Dg j N) (b : Dg k N) : j = k := Nat.le_antisymm (a.le b) (b.le a)
/-- the digit at place i of the digits of N, written from s to s + j -/
def dgI (N s j i : Nat) : Int32 := Int32.ofInt (48 + ((N / 10 ^ (s + j - 1 - i) % 10 : Nat) : Int))
theorem dgI_toInt (N s j i : Nat) : (dgI N s j i).toInt = 48 + ((N / 10 ^ (s + j - 1 - i) % 10 : Nat) : Int) := by
  have : N / 10 ^ (s + j - 1 - i) % 10 < 10 := Nat.mod_lt _ (by decide)
  exact Int32.toInt_ofInt_of_le (by omega) (by omega)
def Wf (N s j : Nat) (f0 : Nat → Int32) (m i : Nat) : Int32 := if s + m ≤ i ∧ i < s + j then dgI N s j i else f0 i
theorem Wf_top (N s j : Nat) (f0 : Nat → Int32) : Wf N s j f0 j = f0 := by
  funext i; unfold Wf; rw [if_neg (by omega)]
theorem Wf_step (N s j : Nat) (f0 : Nat → Int32) (m : Nat) (hm : m + 1 ≤ j) : (fun i => if i = s + m then dgI N s j (s + m) else Wf N s j f0 (m + 1) i) = Wf N s j f0 m := by
  funext i
  by_cases e : i = s + m
  · subst e; rw [if_pos rfl]; unfold Wf; rw [if_pos (by omega)]
  · rw [if_neg e]; unfold Wf
    by_cases q : s + m ≤ i ∧ i < s + j
    · rw [if_pos q, if_pos (by omega)]
    · rw [if_neg q, if_neg (by omega)]
theorem ldiv10 (x : Int64) (h : 0 ≤ x.toInt) : (x / (10 : Int64)).toInt = x.toInt / 10 := (c_ldiv x 10 10 rfl (by decide)).1 h
theorem lmod10 (x : Int64) (h : 0 ≤ x.toInt) : (x % (10 : Int64)).toInt = x.toInt % 10 := by
  rw [Int64.toInt_mod, Int.tmod_eq_emod_of_nonneg h]; rfl
theorem byte48 (x : Int64) (h : 0 ≤ x.toInt) : (nar .byte (((48 : Int64) + (x % (10 : Int64))).toInt32.toInt8.toInt32)).toInt = 48 + x.toInt % 10 := by
  have e48 : (48 : Int64).toInt = 48 := rfl
  have a := lmod10 x h
  have b := c_ladd 48 (x % 10); have br := rng64 (48 + x % 10)
  have d := c_l2i (48 + x % 10); have dr := rng32 (48 + x % 10).toInt32
  have e := c_i2b (48 + x % 10).toInt32
  have f := c_i2b (48 + x % 10).toInt32.toInt8.toInt32
  show ((48 + x % 10).toInt32.toInt8.toInt32.toInt8.toInt32).toInt = _
  omega
theorem pred1 (p : Int32) (s m : Nat) (h : p.toInt = (s : Int) + ((m + 1 : Nat) : Int) - 1) (hm : s + m ≤ 100) : (p + -1).toInt = (s : Int) + m - 1 := by
  have a := c_iadd p (-1); have b := rng32 (p + -1); have e : (-1 : Int32).toInt = -1 := rfl; omega
theorem natdiv (N j : Nat) : ((N / 10 ^ j : Nat) : Int) / 10 = ((N / 10 ^ (j + 1) : Nat) : Int) := by
  rw [Nat.pow_succ, ← Nat.div_div_eq_div_mul]; rfl
theorem big19 (x : Int64) (h : 0 ≤ x.toInt) : x.toInt.toNat < 10 ^ 19 := by
  have := rng64 x
  have e : (10 : Nat) ^ 19 = 10000000000000000000 := by decide
  omega

abbrev mem1 (x0 : Addr) (x1 : Nat → Int32) (x2 : Addr) : Mem := [ar x0 .byte (tab x1), ar x2 .long [(.long (0 : Int64)), (.long (0 : Int64)), (.long (0 : Int64)), (.long (0 : Int64)), (.long (0 : Int64)), (.long (0 : Int64)), (.long (0 : Int64)), (.long (0 : Int64)), (.long (0 : Int64)), (.long (0 : Int64)), (.long (0 : Int64)), (.long (0 : Int64)), (.long (0 : Int64)), (.long (0 : Int64)), (.long (0 : Int64)), (.long (0 : Int64)), (.long (0 : Int64)), (.long (0 : Int64)), (.long (0 : Int64))]]
abbrev mem2 (x0 : Addr) (x1 : Nat → Int32) (x2 : Addr) : Mem := [ar x0 .byte (tab x1), ar x2 .long [(.long (1 : Int64)), (.long (0 : Int64)), (.long (0 : Int64)), (.long (0 : Int64)), (.long (0 : Int64)), (.long (0 : Int64)), (.long (0 : Int64)), (.long (0 : Int64)), (.long (0 : Int64)), (.long (0 : Int64)), (.long (0 : Int64)), (.long (0 : Int64)), (.long (0 : Int64)), (.long (0 : Int64)), (.long (0 : Int64)), (.long (0 : Int64)), (.long (0 : Int64)), (.long (0 : Int64)), (.long (0 : Int64))]]
abbrev mem3 (x0 : Addr) (x1 : Nat → Int32) (x2 : Addr) : Mem := [ar x0 .byte (tab x1), ar x2 .long [(.long (1 : Int64)), (.long (10 : Int64)), (.long (0 : Int64)), (.long (0 : Int64)), (.long (0 : Int64)), (.long (0 : Int64)), (.long (0 : Int64)), (.long (0 : Int64)), (.long (0 : Int64)), (.long (0 : Int64)), (.long (0 : Int64)), (.long (0 : Int64)), (.long (0 : Int64)), (.long (0 : Int64)), (.long (0 : Int64)), (.long (0 : Int64)), (.long (0 : Int64)), (.long (0 : Int64)), (.long (0 : Int64))]]
abbrev mem4 (x0 : Addr) (x1 : Nat → Int32) (x2 : Addr) : Mem := [ar x0 .byte (tab x1), ar x2 .long [(.long (1 : Int64)), (.long (10 : Int64)), (.long (100 : Int64)), (.long (0 : Int64)), (.long (0 : Int64)), (.long (0 : Int64)), (.long (0 : Int64)), (.long (0 : Int64)), (.long (0 : Int64)), (.long (0 : Int64)), (.long (0 : Int64)), (.long (0 : Int64)), (.long (0 : Int64)), (.long (0 : Int64)), (.long (0 : Int64)), (.long (0 : Int64)), (.long (0 : Int64)), (.long (0 : Int64)), (.long (0 : Int64))]]
abbrev mem5 (x0 : Addr) (x1 : Nat → Int32) (x2 : Addr) : Mem := [ar x0 .byte (tab x1), ar x2 .long [(.long (1 : Int64)), (.long (10 : Int64)), (.long (100 : Int64)), (.long (1000 : Int64)), (.long (0 : Int64)), (.long (0 : Int64)), (.long (0 : Int64)), (.long (0 : Int64)), (.long (0 : Int64)), (.long (0 : Int64)), (.long (0 : Int64)), (.long (0 : Int64)), (.long (0 : Int64)), (.long (0 : Int64)), (.long (0 : Int64)), (.long (0 : Int64)), (.long (0 : Int64)), (.long (0 : Int64)), (.long (0 : Int64))]]
abbrev mem6 (x0 : Addr) (x1 : Nat → Int32) (x2 : Addr) : Mem := [ar x0 .byte (tab x1), ar x2 .long [(.long (1 : Int64)), (.long (10 : Int64)), (.long (100 : Int64)), (.long (1000 : Int64)), (.long (10000 : Int64)), (.long (0 : Int64)), (.long (0 : Int64)), (.long (0 : Int64)), (.long (0 : Int64)), (.long (0 : Int64)), (.long (0 : Int64)), (.long (0 : Int64)), (.long (0 : Int64)), (.long (0 : Int64)), (.long (0 : Int64)), (.long (0 : Int64)), (.long (0 : Int64)), (.long (0 : Int64)), (.long (0 : Int64))]]
abbrev mem7 (x0 : Addr) (x1 : Nat → Int32) (x2 : Addr) : Mem := [ar x0 .byte (tab x1), ar x2 .long [(.long (1 : Int64)), (.long (10 : Int64)), (.long (100 : Int64)), (.long (1000 : Int64)), (.long (10000 : Int64)), (.long (100000 : Int64)), (.long (0 : Int64)), (.long (0 : Int64)), (.long (0 : Int64)), (.long (0 : Int64)), (.long (0 : Int64)), (.long (0 : Int64)), (.long (0 : Int64)), (.long (0 : Int64)), (.long (0 : Int64)), (.long (0 : Int64)), (.long (0 : Int64)), (.long (0 : Int64)), (.long (0 : Int64))]]
abbrev mem8 (x0 : Addr) (x1 : Nat → Int32) (x2 : Addr) : Mem := [ar x0 .byte (tab x1), ar x2 .long [(.long (1 : Int64)), (.long (10 : Int64)), (.long (100 : Int64)), (.long (1000 : Int64)), (.long (10000 : Int64)), (.long (100000 : Int64)), (.long (1000000 : Int64)), (.long (0 : Int64)), (.long (0 : Int64)), (.long (0 : Int64)), (.long (0 : Int64)), (.long (0 : Int64)), (.long (0 : Int64)), (.long (0 : Int64)), (.long (0 : Int64)), (.long (0 : Int64)), (.long (0 : Int64)), (.long (0 : Int64)), (.long (0 : Int64))]]
abbrev mem9 (x0 : Addr) (x1 : Nat → Int32) (x2 : Addr) : Mem := [ar x0 .byte (tab x1), ar x2 .long [(.long (1 : Int64)), (.long (10 : Int64)), (.long (100 : Int64)), (.long (1000 : Int64)), (.long (10000 : Int64)), (.long (100000 : Int64)), (.long (1000000 : Int64)), (.long (10000000 : Int64)), (.long (0 : Int64)), (.long (0 : Int64)), (.long (0 : Int64)), (.long (0 : Int64)), (.long (0 : Int64)), (.long (0 : Int64)), (.long (0 : Int64)), (.long (0 : Int64)), (.long (0 : Int64)), (.long (0 : Int64)), (.long (0 : Int64))]]
abbrev mem10 (x0 : Addr) (x1 : Nat → Int32) (x2 : Addr) : Mem := [ar x0 .byte (tab x1), ar x2 .long [(.long (1 : Int64)), (.long (10 : Int64)), (.long (100 : Int64)), (.long (1000 : Int64)), (.long (10000 : Int64)), (.long (100000 : Int64)), (.long (1000000 : Int64)), (.long (10000000 : Int64)), (.long (100000000 : Int64)), (.long (0 : Int64)), (.long (0 : Int64)), (.long (0 : Int64)), (.long (0 : Int64)), (.long (0 : Int64)), (.long (0 : Int64)), (.long (0 : Int64)), (.long (0 : Int64)), (.long (0 : Int64)), (.long (0 : Int64))]]
abbrev mem11 (x0 : Addr) (x1 : Nat → Int32) (x2 : Addr) : Mem := [ar x0 .byte (tab x1), ar x2 .long [(.long (1 : Int64)), (.long (10 : Int64)), (.long (100 : Int64)), (.long (1000 : Int64)), (.long (10000 : Int64)), (.long (100000 : Int64)), (.long (1000000 : Int64)), (.long (10000000 : Int64)), (.long (100000000 : Int64)), (.long (1000000000 : Int64)), (.long (0 : Int64)), (.long (0 : Int64)), (.long (0 : Int64)), (.long (0 : Int64)), (.long (0 : Int64)), (.long (0 : Int64)), (.long (0 : Int64)), (.long (0 : Int64)), (.long (0 : Int64))]]
abbrev mem12 (x0 : Addr) (x1 : Nat → Int32) (x2 : Addr) : Mem := [ar x0 .byte (tab x1), ar x2 .long [(.long (1 : Int64)), (.long (10 : Int64)), (.long (100 : Int64)), (.long (1000 : Int64)), (.long (10000 : Int64)), (.long (100000 : Int64)), (.long (1000000 : Int64)), (.long (10000000 : Int64)), (.long (100000000 : Int64)), (.long (1000000000 : Int64)), (.long (10000000000 : Int64)), (.long (0 : Int64)), (.long (0 : Int64)), (.long (0 : Int64)), (.long (0 : Int64)), (.long (0 : Int64)), (.long (0 : Int64)), (.long (0 : Int64)), (.long (0 : Int64))]]
abbrev mem13 (x0 : Addr) (x1 : Nat → Int32) (x2 : Addr) : Mem := [ar x0 .byte (tab x1), ar x2 .long [(.long (1 : Int64)), (.long (10 : Int64)), (.long (100 : Int64)), (.long (1000 : Int64)), (.long (10000 : Int64)), (.long (100000 : Int64)), (.long (1000000 : Int64)), (.long (10000000 : Int64)), (.long (100000000 : Int64)), (.long (1000000000 : Int64)), (.long (10000000000 : Int64)), (.long (100000000000 : Int64)), (.long (0 : Int64)), (.long (0 : Int64)), (.long (0 : Int64)), (.long (0 : Int64)), (.long (0 : Int64)), (.long (0 : Int64)), (.long (0 : Int64))]]
abbrev mem14 (x0 : Addr) (x1 : Nat → Int32) (x2 : Addr) : Mem := [ar x0 .byte (tab x1), ar x2 .long [(.long (1 : Int64)), (.long (10 : Int64)), (.long (100 : Int64)), (.long (1000 : Int64)), (.long (10000 : Int64)), (.long (100000 : Int64)), (.long (1000000 : Int64)), (.long (10000000 : Int64)), (.long (100000000 : Int64)), (.long (1000000000 : Int64)), (.long (10000000000 : Int64)), (.long (100000000000 : Int64)), (.long (1000000000000 : Int64)), (.long (0 : Int64)), (.long (0 : Int64)), (.long (0 : Int64)), (.long (0 : Int64)), (.long (0 : Int64)), (.long (0 : Int64))]]
abbrev mem15 (x0 : Addr) (x1 : Nat → Int32) (x2 : Addr) : Mem := [ar x0 .byte (tab x1), ar x2 .long [(.long (1 : Int64)), (.long (10 : Int64)), (.long (100 : Int64)), (.long (1000 : Int64)), (.long (10000 : Int64)), (.long (100000 : Int64)), (.long (1000000 : Int64)), (.long (10000000 : Int64)), (.long (100000000 : Int64)), (.long (1000000000 : Int64)), (.long (10000000000 : Int64)), (.long (100000000000 : Int64)), (.long (1000000000000 : Int64)), (.long (10000000000000 : Int64)), (.long (0 : Int64)), (.long (0 : Int64)), (.long (0 : Int64)), (.long (0 : Int64)), (.long (0 : Int64))]]
abbrev mem16 (x0 : Addr) (x1 : Nat → Int32) (x2 : Addr) : Mem := [ar x0 .byte (tab x1), ar x2 .long [(.long (1 : Int64)), (.long (10 : Int64)), (.long (100 : Int64)), (.long (1000 : Int64)), (.long (10000 : Int64)), (.long (100000 : Int64)), (.long (1000000 : Int64)), (.long (10000000 : Int64)), (.long (100000000 : Int64)), (.long (1000000000 : Int64)), (.long (10000000000 : Int64)), (.long (100000000000 : Int64)), (.long (1000000000000 : Int64)), (.long (10000000000000 : Int64)), (.long (100000000000000 : Int64)), (.long (0 : Int64)), (.long (0 : Int64)), (.long (0 : Int64)), (.long (0 : Int64))]]
abbrev mem17 (x0 : Addr) (x1 : Nat → Int32) (x2 : Addr) : Mem := [ar x0 .byte (tab x1), ar x2 .long [(.long (1 : Int64)), (.long (10 : Int64)), (.long (100 : Int64)), (.long (1000 : Int64)), (.long (10000 : Int64)), (.long (100000 : Int64)), (.long (1000000 : Int64)), (.long (10000000 : Int64)), (.long (100000000 : Int64)), (.long (1000000000 : Int64)), (.long (10000000000 : Int64)), (.long (100000000000 : Int64)), (.long (1000000000000 : Int64)), (.long (10000000000000 : Int64)), (.long (100000000000000 : Int64)), (.long (1000000000000000 : Int64)), (.long (0 : Int64)), (.long (0 : Int64)), (.long (0 : Int64))]]
abbrev mem18 (x0 : Addr) (x1 : Nat → Int32) (x2 : Addr) : Mem := [ar x0 .byte (tab x1), ar x2 .long [(.long (1 : Int64)), (.long (10 : Int64)), (.long (100 : Int64)), (.long (1000 : Int64)), (.long (10000 : Int64)), (.long (100000 : Int64)), (.long (1000000 : Int64)), (.long (10000000 : Int64)), (.long (100000000 : Int64)), (.long (1000000000 : Int64)), (.long (10000000000 : Int64)), (.long (100000000000 : Int64)), (.long (1000000000000 : Int64)), (.long (10000000000000 : Int64)), (.long (100000000000000 : Int64)), (.long (1000000000000000 : Int64)), (.long (10000000000000000 : Int64)), (.long (0 : Int64)), (.long (0 : Int64))]]
abbrev mem19 (x0 : Addr) (x1 : Nat → Int32) (x2 : Addr) : Mem := [ar x0 .byte (tab x1), ar x2 .long [(.long (1 : Int64)), (.long (10 : Int64)), (.long (100 : Int64)), (.long (1000 : Int64)), (.long (10000 : Int64)), (.long (100000 : Int64)), (.long (1000000 : Int64)), (.long (10000000 : Int64)), (.long (100000000 : Int64)), (.long (1000000000 : Int64)), (.long (10000000000 : Int64)), (.long (100000000000 : Int64)), (.long (1000000000000 : Int64)), (.long (10000000000000 : Int64)), (.long (100000000000000 : Int64)), (.long (1000000000000000 : Int64)), (.long (10000000000000000 : Int64)), (.long (100000000000000000 : Int64)), (.long (0 : Int64))]]
abbrev mem20 (x0 : Addr) (x1 : Nat → Int32) (x2 : Addr) : Mem := [ar x0 .byte (tab x1), ar x2 .long [(.long (1 : Int64)), (.long (10 : Int64)), (.long (100 : Int64)), (.long (1000 : Int64)), (.long (10000 : Int64)), (.long (100000 : Int64)), (.long (1000000 : Int64)), (.long (10000000 : Int64)), (.long (100000000 : Int64)), (.long (1000000000 : Int64)), (.long (10000000000 : Int64)), (.long (100000000000 : Int64)), (.long (1000000000000 : Int64)), (.long (10000000000000 : Int64)), (.long (100000000000000 : Int64)), (.long (1000000000000000 : Int64)), (.long (10000000000000000 : Int64)), (.long (100000000000000000 : Int64)), (.long (1000000000000000000 : Int64))]]
abbrev mem21 (x0 : Addr) : Mem := [ar x0 .byte [(.int (0 : Int32)), (.int (0 : Int32)), (.int (0 : Int32)), (.int (0 : Int32)), (.int (0 : Int32)), (.int (0 : Int32)), (.int (0 : Int32)), (.int (0 : Int32)), (.int (0 : Int32)), (.int (0 : Int32)), (.int (0 : Int32)), (.int (0 : Int32)), (.int (0 : Int32)), (.int (0 : Int32)), (.int (0 : Int32)), (.int (0 : Int32)), (.int (0 : Int32)), (.int (0 : Int32)), (.int (0 : Int32)), (.int (0 : Int32)), (.int (0 : Int32)), (.int (0 : Int32)), (.int (0 : Int32)), (.int (0 : Int32)), (.int (0 : Int32)), (.int (0 : Int32)), (.int (0 : Int32)), (.int (0 : Int32)), (.int (0 : Int32)), (.int (0 : Int32)), (.int (0 : Int32)), (.int (0 : Int32))]]
abbrev mem22 (x0 : Addr) : Mem := [ar x0 .byte [(.int (nar .byte (85 : Int32))), (.int (0 : Int32)), (.int (0 : Int32)), (.int (0 : Int32)), (.int (0 : Int32)), (.int (0 : Int32)), (.int (0 : Int32)), (.int (0 : Int32)), (.int (0 : Int32)), (.int (0 : Int32)), (.int (0 : Int32)), (.int (0 : Int32)), (.int (0 : Int32)), (.int (0 : Int32)), (.int (0 : Int32)), (.int (0 : Int32)), (.int (0 : Int32)), (.int (0 : Int32)), (.int (0 : Int32)), (.int (0 : Int32)), (.int (0 : Int32)), (.int (0 : Int32)), (.int (0 : Int32)), (.int (0 : Int32)), (.int (0 : Int32)), (.int (0 : Int32)), (.int (0 : Int32)), (.int (0 : Int32)), (.int (0 : Int32)), (.int (0 : Int32)), (.int (0 : Int32)), (.int (0 : Int32))]]
abbrev mem23 (x0 : Addr) : Mem := [ar x0 .byte [(.int (nar .byte (85 : Int32))), (.int (nar .byte (85 : Int32))), (.int (0 : Int32)), (.int (0 : Int32)), (.int (0 : Int32)), (.int (0 : Int32)), (.int (0 : Int32)), (.int (0 : Int32)), (.int (0 : Int32)), (.int (0 : Int32)), (.int (0 : Int32)), (.int (0 : Int32)), (.int (0 : Int32)), (.int (0 : Int32)), (.int (0 : Int32)), (.int (0 : Int32)), (.int (0 : Int32)), (.int (0 : Int32)), (.int (0 : Int32)), (.int (0 : Int32)), (.int (0 : Int32)), (.int (0 : Int32)), (.int (0 : Int32)), (.int (0 : Int32)), (.int (0 : Int32)), (.int (0 : Int32)), (.int (0 : Int32)), (.int (0 : Int32)), (.int (0 : Int32)), (.int (0 : Int32)), (.int (0 : Int32)), (.int (0 : Int32))]]
abbrev mem24 (x0 : Addr) : Mem := [ar x0 .byte [(.int (nar .byte (85 : Int32))), (.int (nar .byte (85 : Int32))), (.int (nar .byte (85 : Int32))), (.int (0 : Int32)), (.int (0 : Int32)), (.int (0 : Int32)), (.int (0 : Int32)), (.int (0 : Int32)), (.int (0 : Int32)), (.int (0 : Int32)), (.int (0 : Int32)), (.int (0 : Int32)), (.int (0 : Int32)), (.int (0 : Int32)), (.int (0 : Int32)), (.int (0 : Int32)), (.int (0 : Int32)), (.int (0 : Int32)), (.int (0 : Int32)), (.int (0 : Int32)), (.int (0 : Int32)), (.int (0 : Int32)), (.int (0 : Int32)), (.int (0 : Int32)), (.int (0 : Int32)), (.int (0 : Int32)), (.int (0 : Int32)), (.int (0 : Int32)), (.int (0 : Int32)), (.int (0 : Int32)), (.int (0 : Int32)), (.int (0 : Int32))]]
abbrev mem25 (x0 : Addr) : Mem := [ar x0 .byte [(.int (nar .byte (85 : Int32))), (.int (nar .byte (85 : Int32))), (.int (nar .byte (85 : Int32))), (.int (nar .byte (85 : Int32))), (.int (0 : Int32)), (.int (0 : Int32)), (.int (0 : Int32)), (.int (0 : Int32)), (.int (0 : Int32)), (.int (0 : Int32)), (.int (0 : Int32)), (.int (0 : Int32)), (.int (0 : Int32)), (.int (0 : Int32)), (.int (0 : Int32)), (.int (0 : Int32)), (.int (0 : Int32)), (.int (0 : Int32)), (.int (0 : Int32)), (.int (0 : Int32)), (.int (0 : Int32)), (.int (0 : Int32)), (.int (0 : Int32)), (.int (0 : Int32)), (.int (0 : Int32)), (.int (0 : Int32)), (.int (0 : Int32)), (.int (0 : Int32)), (.int (0 : Int32)), (.int (0 : Int32)), (.int (0 : Int32)), (.int (0 : Int32))]]
abbrev mem26 (x0 : Addr) : Mem := [ar x0 .byte [(.int (nar .byte (85 : Int32))), (.int (nar .byte (85 : Int32))), (.int (nar .byte (85 : Int32))), (.int (nar .byte (85 : Int32))), (.int (nar .byte (85 : Int32))), (.int (0 : Int32)), (.int (0 : Int32)), (.int (0 : Int32)), (.int (0 : Int32)), (.int (0 : Int32)), (.int (0 : Int32)), (.int (0 : Int32)), (.int (0 : Int32)), (.int (0 : Int32)), (.int (0 : Int32)), (.int (0 : Int32)), (.int (0 : Int32)), (.int (0 : Int32)), (.int (0 : Int32)), (.int (0 : Int32)), (.int (0 : Int32)), (.int (0 : Int32)), (.int (0 : Int32)), (.int (0 : Int32)), (.int (0 : Int32)), (.int (0 : Int32)), (.int (0 : Int32)), (.int (0 : Int32)), (.int (0 : Int32)), (.int (0 : Int32)), (.int (0 : Int32)), (.int (0 : Int32))]]
abbrev mem27 (x0 : Addr) : Mem := [ar x0 .byte [(.int (nar .byte (85 : Int32))), (.int (nar .byte (85 : Int32))), (.int (nar .byte (85 : Int32))), (.int (nar .byte (85 : Int32))), (.int (nar .byte (85 : Int32))), (.int (nar .byte (85 : Int32))), (.int (0 : Int32)), (.int (0 : Int32)), (.int (0 : Int32)), (.int (0 : Int32)), (.int (0 : Int32)), (.int (0 : Int32)), (.int (0 : Int32)), (.int (0 : Int32)), (.int (0 : Int32)), (.int (0 : Int32)), (.int (0 : Int32)), (.int (0 : Int32)), (.int (0 : Int32)), (.int (0 : Int32)), (.int (0 : Int32)), (.int (0 : Int32)), (.int (0 : Int32)), (.int (0 : Int32)), (.int (0 : Int32)), (.int (0 : Int32)), (.int (0 : Int32)), (.int (0 : Int32)), (.int (0 : Int32)), (.int (0 : Int32)), (.int (0 : Int32)), (.int (0 : Int32))]]
abbrev mem28 (x0 : Addr) : Mem := [ar x0 .byte [(.int (nar .byte (85 : Int32))), (.int (nar .byte (85 : Int32))), (.int (nar .byte (85 : Int32))), (.int (nar .byte (85 : Int32))), (.int (nar .byte (85 : Int32))), (.int (nar .byte (85 : Int32))), (.int (nar .byte (85 : Int32))), (.int (0 : Int32)), (.int (0 : Int32)), (.int (0 : Int32)), (.int (0 : Int32)), (.int (0 : Int32)), (.int (0 : Int32)), (.int (0 : Int32)), (.int (0 : Int32)), (.int (0 : Int32)), (.int (0 : Int32)), (.int (0 : Int32)), (.int (0 : Int32)), (.int (0 : Int32)), (.int (0 : Int32)), (.int (0 : Int32)), (.int (0 : Int32)), (.int (0 : Int32)), (.int (0 : Int32)), (.int (0 : Int32)), (.int (0 : Int32)), (.int (0 : Int32)), (.int (0 : Int32)), (.int (0 : Int32)), (.int (0 : Int32)), (.int (0 : Int32))]]
abbrev mem29 (x0 : Addr) : Mem := [ar x0 .byte [(.int (nar .byte (85 : Int32))), (.int (nar .byte (85 : Int32))), (.int (nar .byte (85 : Int32))), (.int (nar .byte (85 : Int32))), (.int (nar .byte (85 : Int32))), (.int (nar .byte (85 : Int32))), (.int (nar .byte (85 : Int32))), (.int (nar .byte (85 : Int32))), (.int (0 : Int32)), (.int (0 : Int32)), (.int (0 : Int32)), (.int (0 : Int32)), (.int (0 : Int32)), (.int (0 : Int32)), (.int (0 : Int32)), (.int (0 : Int32)), (.int (0 : Int32)), (.int (0 : Int32)), (.int (0 : Int32)), (.int (0 : Int32)), (.int (0 : Int32)), (.int (0 : Int32)), (.int (0 : Int32)), (.int (0 : Int32)), (.int (0 : Int32)), (.int (0 : Int32)), (.int (0 : Int32)), (.int (0 : Int32)), (.int (0 : Int32)), (.int (0 : Int32)), (.int (0 : Int32)), (.int (0 : Int32))]]
abbrev mem30 (x0 : Addr) : Mem := [ar x0 .byte [(.int (nar .byte (85 : Int32))), (.int (nar .byte (85 : Int32))), (.int (nar .byte (85 : Int32))), (.int (nar .byte (85 : Int32))), (.int (nar .byte (85 : Int32))), (.int (nar .byte (85 : Int32))), (.int (nar .byte (85 : Int32))), (.int (nar .byte (85 : Int32))), (.int (nar .byte (85 : Int32))), (.int (0 : Int32)), (.int (0 : Int32)), (.int (0 : Int32)), (.int (0 : Int32)), (.int (0 : Int32)), (.int (0 : Int32)), (.int (0 : Int32)), (.int (0 : Int32)), (.int (0 : Int32)), (.int (0 : Int32)), (.int (0 : Int32)), (.int (0 : Int32)), (.int (0 : Int32)), (.int (0 : Int32)), (.int (0 : Int32)), (.int (0 : Int32)), (.int (0 : Int32)), (.int (0 : Int32)), (.int (0 : Int32)), (.int (0 : Int32)), (.int (0 : Int32)), (.int (0 : Int32)), (.int (0 : Int32))]]
abbrev mem31 (x0 : Addr) : Mem := [ar x0 .byte [(.int (nar .byte (85 : Int32))), (.int (nar .byte (85 : Int32))), (.int (nar .byte (85 : Int32))), (.int (nar .byte (85 : Int32))), (.int (nar .byte (85 : Int32))), (.int (nar .byte (85 : Int32))), (.int (nar .byte (85 : Int32))), (.int (nar .byte (85 : Int32))), (.int (nar .byte (85 : Int32))), (.int (nar .byte (85 : Int32))), (.int (0 : Int32)), (.int (0 : Int32)), (.int (0 : Int32)), (.int (0 : Int32)), (.int (0 : Int32)), (.int (0 : Int32)), (.int (0 : Int32)), (.int (0 : Int32)), (.int (0 : Int32)), (.int (0 : Int32)), (.int (0 : Int32)), (.int (0 : Int32)), (.int (0 : Int32)), (.int (0 : Int32)), (.int (0 : Int32)), (.int (0 : Int32)), (.int (0 : Int32)), (.int (0 : Int32)), (.int (0 : Int32)), (.int (0 : Int32)), (.int (0 : Int32)), (.int (0 : Int32))]]
abbrev mem32 (x0 : Addr) : Mem := [ar x0 .byte [(.int (nar .byte (85 : Int32))), (.int (nar .byte (85 : Int32))), (.int (nar .byte (85 : Int32))), (.int (nar .byte (85 : Int32))), (.int (nar .byte (85 : Int32))), (.int (nar .byte (85 : Int32))), (.int (nar .byte (85 : Int32))), (.int (nar .byte (85 : Int32))), (.int (nar .byte (85 : Int32))), (.int (nar .byte (85 : Int32))), (.int (nar .byte (85 : Int32))), (.int (0 : Int32)), (.int (0 : Int32)), (.int (0 : Int32)), (.int (0 : Int32)), (.int (0 : Int32)), (.int (0 : Int32)), (.int (0 : Int32)), (.int (0 : Int32)), (.int (0 : Int32)), (.int (0 : Int32)), (.int (0 : Int32)), (.int (0 : Int32)), (.int (0 : Int32)), (.int (0 : Int32)), (.int (0 : Int32)), (.int (0 : Int32)), (.int (0 : Int32)), (.int (0 : Int32)), (.int (0 : Int32)), (.int (0 : Int32)), (.int (0 : Int32))]]
abbrev mem33 (x0 : Addr) : Mem := [ar x0 .byte [(.int (nar .byte (85 : Int32))), (.int (nar .byte (85 : Int32))), (.int (nar .byte (85 : Int32))), (.int (nar .byte (85 : Int32))), (.int (nar .byte (85 : Int32))), (.int (nar .byte (85 : Int32))), (.int (nar .byte (85 : Int32))), (.int (nar .byte (85 : Int32))), (.int (nar .byte (85 : Int32))), (.int (nar .byte (85 : Int32))), (.int (nar .byte (85 : Int32))), (.int (nar .byte (85 : Int32))), (.int (0 : Int32)), (.int (0 : Int32)), (.int (0 : Int32)), (.int (0 : Int32)), (.int (0 : Int32)), (.int (0 : Int32)), (.int (0 : Int32)), (.int (0 : Int32)), (.int (0 : Int32)), (.int (0 : Int32)), (.int (0 : Int32)), (.int (0 : Int32)), (.int (0 : Int32)), (.int (0 : Int32)), (.int (0 : Int32)), (.int (0 : Int32)), (.int (0 : Int32)), (.int (0 : Int32)), (.int (0 : Int32)), (.int (0 : Int32))]]
abbrev mem34 (x0 : Addr) : Mem := [ar x0 .byte [(.int (nar .byte (85 : Int32))), (.int (nar .byte (85 : Int32))), (.int (nar .byte (85 : Int32))), (.int (nar .byte (85 : Int32))), (.int (nar .byte (85 : Int32))), (.int (nar .byte (85 : Int32))), (.int (nar .byte (85 : Int32))), (.int (nar .byte (85 : Int32))), (.int (nar .byte (85 : Int32))), (.int (nar .byte (85 : Int32))), (.int (nar .byte (85 : Int32))), (.int (nar .byte (85 : Int32))), (.int (nar .byte (85 : Int32))), (.int (0 : Int32)), (.int (0 : Int32)), (.int (0 : Int32)), (.int (0 : Int32)), (.int (0 : Int32)), (.int (0 : Int32)), (.int (0 : Int32)), (.int (0 : Int32)), (.int (0 : Int32)), (.int (0 : Int32)), (.int (0 : Int32)), (.int (0 : Int32)), (.int (0 : Int32)), (.int (0 : Int32)), (.int (0 : Int32)), (.int (0 : Int32)), (.int (0 : Int32)), (.int (0 : Int32)), (.int (0 : Int32))]]
abbrev mem35 (x0 : Addr) : Mem := [ar x0 .byte [(.int (nar .byte (85 : Int32))), (.int (nar .byte (85 : Int32))), (.int (nar .byte (85 : Int32))), (.int (nar .byte (85 : Int32))), (.int (nar .byte (85 : Int32))), (.int (nar .byte (85 : Int32))), (.int (nar .byte (85 : Int32))), (.int (nar .byte (85 : Int32))), (.int (nar .byte (85 : Int32))), (.int (nar .byte (85 : Int32))), (.int (nar .byte (85 : Int32))), (.int (nar .byte (85 : Int32))), (.int (nar .byte (85 : Int32))), (.int (nar .byte (85 : Int32))), (.int (0 : Int32)), (.int (0 : Int32)), (.int (0 : Int32)), (.int (0 : Int32)), (.int (0 : Int32)), (.int (0 : Int32)), (.int (0 : Int32)), (.int (0 : Int32)), (.int (0 : Int32)), (.int (0 : Int32)), (.int (0 : Int32)), (.int (0 : Int32)), (.int (0 : Int32)), (.int (0 : Int32)), (.int (0 : Int32)), (.int (0 : Int32)), (.int (0 : Int32)), (.int (0 : Int32))]]
abbrev mem36 (x0 : Addr) : Mem := [ar x0 .byte [(.int (nar .byte (85 : Int32))), (.int (nar .byte (85 : Int32))), (.int (nar .byte (85 : Int32))), (.int (nar .byte (85 : Int32))), (.int (nar .byte (85 : Int32))), (.int (nar .byte (85 : Int32))), (.int (nar .byte (85 : Int32))), (.int (nar .byte (85 : Int32))), (.int (nar .byte (85 : Int32))), (.int (nar .byte (85 : Int32))), (.int (nar .byte (85 : Int32))), (.int (nar .byte (85 : Int32))), (.int (nar .byte (85 : Int32))), (.int (nar .byte (85 : Int32))), (.int (nar .byte (85 : Int32))), (.int (0 : Int32)), (.int (0 : Int32)), (.int (0 : Int32)), (.int (0 : Int32)), (.int (0 : Int32)), (.int (0 : Int32)), (.int (0 : Int32)), (.int (0 : Int32)), (.int (0 : Int32)), (.int (0 : Int32)), (.int (0 : Int32)), (.int (0 : Int32)), (.int (0 : Int32)), (.int (0 : Int32)), (.int (0 : Int32)), (.int (0 : Int32)), (.int (0 : Int32))]]
abbrev mem37 (x0 : Addr) : Mem := [ar x0 .byte [(.int (nar .byte (85 : Int32))), (.int (nar .byte (85 : Int32))), (.int (nar .byte (85 : Int32))), (.int (nar .byte (85 : Int32))), (.int (nar .byte (85 : Int32))), (.int (nar .byte (85 : Int32))), (.int (nar .byte (85 : Int32))), (.int (nar .byte (85 : Int32))), (.int (nar .byte (85 : Int32))), (.int (nar .byte (85 : Int32))), (.int (nar .byte (85 : Int32))), (.int (nar .byte (85 : Int32))), (.int (nar .byte (85 : Int32))), (.int (nar .byte (85 : Int32))), (.int (nar .byte (85 : Int32))), (.int (nar .byte (85 : Int32))), (.int (0 : Int32)), (.int (0 : Int32)), (.int (0 : Int32)), (.int (0 : Int32)), (.int (0 : Int32)), (.int (0 : Int32)), (.int (0 : Int32)), (.int (0 : Int32)), (.int (0 : Int32)), (.int (0 : Int32)), (.int (0 : Int32)), (.int (0 : Int32)), (.int (0 : Int32)), (.int (0 : Int32)), (.int (0 : Int32)), (.int (0 : Int32))]]
abbrev mem38 (x0 : Addr) : Mem := [ar x0 .byte [(.int (nar .byte (85 : Int32))), (.int (nar .byte (85 : Int32))), (.int (nar .byte (85 : Int32))), (.int (nar .byte (85 : Int32))), (.int (nar .byte (85 : Int32))), (.int (nar .byte (85 : Int32))), (.int (nar .byte (85 : Int32))), (.int (nar .byte (85 : Int32))), (.int (nar .byte (85 : Int32))), (.int (nar .byte (85 : Int32))), (.int (nar .byte (85 : Int32))), (.int (nar .byte (85 : Int32))), (.int (nar .byte (85 : Int32))), (.int (nar .byte (85 : Int32))), (.int (nar .byte (85 : Int32))), (.int (nar .byte (85 : Int32))), (.int (nar .byte (85 : Int32))), (.int (0 : Int32)), (.int (0 : Int32)), (.int (0 : Int32)), (.int (0 : Int32)), (.int (0 : Int32)), (.int (0 : Int32)), (.int (0 : Int32)), (.int (0 : Int32)), (.int (0 : Int32)), (.int (0 : Int32)), (.int (0 : Int32)), (.int (0 : Int32)), (.int (0 : Int32)), (.int (0 : Int32)), (.int (0 : Int32))]]
abbrev mem39 (x0 : Addr) : Mem := [ar x0 .byte [(.int (nar .byte (85 : Int32))), (.int (nar .byte (85 : Int32))), (.int (nar .byte (85 : Int32))), (.int (nar .byte (85 : Int32))), (.int (nar .byte (85 : Int32))), (.int (nar .byte (85 : Int32))), (.int (nar .byte (85 : Int32))), (.int (nar .byte (85 : Int32))), (.int (nar .byte (85 : Int32))), (.int (nar .byte (85 : Int32))), (.int (nar .byte (85 : Int32))), (.int (nar .byte (85 : Int32))), (.int (nar .byte (85 : Int32))), (.int (nar .byte (85 : Int32))), (.int (nar .byte (85 : Int32))), (.int (nar .byte (85 : Int32))), (.int (nar .byte (85 : Int32))), (.int (nar .byte (85 : Int32))), (.int (0 : Int32)), (.int (0 : Int32)), (.int (0 : Int32)), (.int (0 : Int32)), (.int (0 : Int32)), (.int (0 : Int32)), (.int (0 : Int32)), (.int (0 : Int32)), (.int (0 : Int32)), (.int (0 : Int32)), (.int (0 : Int32)), (.int (0 : Int32)), (.int (0 : Int32)), (.int (0 : Int32))]]
abbrev mem40 (x0 : Addr) : Mem := [ar x0 .byte [(.int (nar .byte (85 : Int32))), (.int (nar .byte (85 : Int32))), (.int (nar .byte (85 : Int32))), (.int (nar .byte (85 : Int32))), (.int (nar .byte (85 : Int32))), (.int (nar .byte (85 : Int32))), (.int (nar .byte (85 : Int32))), (.int (nar .byte (85 : Int32))), (.int (nar .byte (85 : Int32))), (.int (nar .byte (85 : Int32))), (.int (nar .byte (85 : Int32))), (.int (nar .byte (85 : Int32))), (.int (nar .byte (85 : Int32))), (.int (nar .byte (85 : Int32))), (.int (nar .byte (85 : Int32))), (.int (nar .byte (85 : Int32))), (.int (nar .byte (85 : Int32))), (.int (nar .byte (85 : Int32))), (.int (nar .byte (85 : Int32))), (.int (0 : Int32)), (.int (0 : Int32)), (.int (0 : Int32)), (.int (0 : Int32)), (.int (0 : Int32)), (.int (0 : Int32)), (.int (0 : Int32)), (.int (0 : Int32)), (.int (0 : Int32)), (.int (0 : Int32)), (.int (0 : Int32)), (.int (0 : Int32)), (.int (0 : Int32))]]
abbrev mem41 (x0 : Addr) : Mem := [ar x0 .byte [(.int (nar .byte (85 : Int32))), (.int (nar .byte (85 : Int32))), (.int (nar .byte (85 : Int32))), (.int (nar .byte (85 : Int32))), (.int (nar .byte (85 : Int32))), (.int (nar .byte (85 : Int32))), (.int (nar .byte (85 : Int32))), (.int (nar .byte (85 : Int32))), (.int (nar .byte (85 : Int32))), (.int (nar .byte (85 : Int32))), (.int (nar .byte (85 : Int32))), (.int (nar .byte (85 : Int32))), (.int (nar .byte (85 : Int32))), (.int (nar .byte (85 : Int32))), (.int (nar .byte (85 : Int32))), (.int (nar .byte (85 : Int32))), (.int (nar .byte (85 : Int32))), (.int (nar .byte (85 : Int32))), (.int (nar .byte (85 : Int32))), (.int (nar .byte (85 : Int32))), (.int (0 : Int32)), (.int (0 : Int32)), (.int (0 : Int32)), (.int (0 : Int32)), (.int (0 : Int32)), (.int (0 : Int32)), (.int (0 : Int32)), (.int (0 : Int32)), (.int (0 : Int32)), (.int (0 : Int32)), (.int (0 : Int32)), (.int (0 : Int32))]]
abbrev mem42 (x0 : Addr) : Mem := [ar x0 .byte [(.int (nar .byte (85 : Int32))), (.int (nar .byte (85 : Int32))), (.int (nar .byte (85 : Int32))), (.int (nar .byte (85 : Int32))), (.int (nar .byte (85 : Int32))), (.int (nar .byte (85 : Int32))), (.int (nar .byte (85 : Int32))), (.int (nar .byte (85 : Int32))), (.int (nar .byte (85 : Int32))), (.int (nar .byte (85 : Int32))), (.int (nar .byte (85 : Int32))), (.int (nar .byte (85 : Int32))), (.int (nar .byte (85 : Int32))), (.int (nar .byte (85 : Int32))), (.int (nar .byte (85 : Int32))), (.int (nar .byte (85 : Int32))), (.int (nar .byte (85 : Int32))), (.int (nar .byte (85 : Int32))), (.int (nar .byte (85 : Int32))), (.int (nar .byte (85 : Int32))), (.int (nar .byte (85 : Int32))), (.int (0 : Int32)), (.int (0 : Int32)), (.int (0 : Int32)), (.int (0 : Int32)), (.int (0 : Int32)), (.int (0 : Int32)), (.int (0 : Int32)), (.int (0 : Int32)), (.int (0 : Int32)), (.int (0 : Int32)), (.int (0 : Int32))]]
abbrev mem43 (x0 : Addr) : Mem := [ar x0 .byte [(.int (nar .byte (85 : Int32))), (.int (nar .byte (85 : Int32))), (.int (nar .byte (85 : Int32))), (.int (nar .byte (85 : Int32))), (.int (nar .byte (85 : Int32))), (.int (nar .byte (85 : Int32))), (.int (nar .byte (85 : Int32))), (.int (nar .byte (85 : Int32))), (.int (nar .byte (85 : Int32))), (.int (nar .byte (85 : Int32))), (.int (nar .byte (85 : Int32))), (.int (nar .byte (85 : Int32))), (.int (nar .byte (85 : Int32))), (.int (nar .byte (85 : Int32))), (.int (nar .byte (85 : Int32))), (.int (nar .byte (85 : Int32))), (.int (nar .byte (85 : Int32))), (.int (nar .byte (85 : Int32))), (.int (nar .byte (85 : Int32))), (.int (nar .byte (85 : Int32))), (.int (nar .byte (85 : Int32))), (.int (nar .byte (85 : Int32))), (.int (0 : Int32)), (.int (0 : Int32)), (.int (0 : Int32)), (.int (0 : Int32)), (.int (0 : Int32)), (.int (0 : Int32)), (.int (0 : Int32)), (.int (0 : Int32)), (.int (0 : Int32)), (.int (0 : Int32))]]
abbrev mem44 (x0 : Addr) : Mem := [ar x0 .byte [(.int (nar .byte (85 : Int32))), (.int (nar .byte (85 : Int32))), (.int (nar .byte (85 : Int32))), (.int (nar .byte (85 : Int32))), (.int (nar .byte (85 : Int32))), (.int (nar .byte (85 : Int32))), (.int (nar .byte (85 : Int32))), (.int (nar .byte (85 : Int32))), (.int (nar .byte (85 : Int32))), (.int (nar .byte (85 : Int32))), (.int (nar .byte (85 : Int32))), (.int (nar .byte (85 : Int32))), (.int (nar .byte (85 : Int32))), (.int (nar .byte (85 : Int32))), (.int (nar .byte (85 : Int32))), (.int (nar .byte (85 : Int32))), (.int (nar .byte (85 : Int32))), (.int (nar .byte (85 : Int32))), (.int (nar .byte (85 : Int32))), (.int (nar .byte (85 : Int32))), (.int (nar .byte (85 : Int32))), (.int (nar .byte (85 : Int32))), (.int (nar .byte (85 : Int32))), (.int (0 : Int32)), (.int (0 : Int32)), (.int (0 : Int32)), (.int (0 : Int32)), (.int (0 : Int32)), (.int (0 : Int32)), (.int (0 : Int32)), (.int (0 : Int32)), (.int (0 : Int32))]]
abbrev mem45 (x0 : Addr) : Mem := [ar x0 .byte [(.int (nar .byte (85 : Int32))), (.int (nar .byte (85 : Int32))), (.int (nar .byte (85 : Int32))), (.int (nar .byte (85 : Int32))), (.int (nar .byte (85 : Int32))), (.int (nar .byte (85 : Int32))), (.int (nar .byte (85 : Int32))), (.int (nar .byte (85 : Int32))), (.int (nar .byte (85 : Int32))), (.int (nar .byte (85 : Int32))), (.int (nar .byte (85 : Int32))), (.int (nar .byte (85 : Int32))), (.int (nar .byte (85 : Int32))), (.int (nar .byte (85 : Int32))), (.int (nar .byte (85 : Int32))), (.int (nar .byte (85 : Int32))), (.int (nar .byte (85 : Int32))), (.int (nar .byte (85 : Int32))), (.int (nar .byte (85 : Int32))), (.int (nar .byte (85 : Int32))), (.int (nar .byte (85 : Int32))), (.int (nar .byte (85 : Int32))), (.int (nar .byte (85 : Int32))), (.int (nar .byte (85 : Int32))), (.int (0 : Int32)), (.int (0 : Int32)), (.int (0 : Int32)), (.int (0 : Int32)), (.int (0 : Int32)), (.int (0 : Int32)), (.int (0 : Int32)), (.int (0 : Int32))]]
abbrev mem46 (x0 : Addr) : Mem := [ar x0 .byte [(.int (nar .byte (85 : Int32))), (.int (nar .byte (85 : Int32))), (.int (nar .byte (85 : Int32))), (.int (nar .byte (85 : Int32))), (.int (nar .byte (85 : Int32))), (.int (nar .byte (85 : Int32))), (.int (nar .byte (85 : Int32))), (.int (nar .byte (85 : Int32))), (.int (nar .byte (85 : Int32))), (.int (nar .byte (85 : Int32))), (.int (nar .byte (85 : Int32))), (.int (nar .byte (85 : Int32))), (.int (nar .byte (85 : Int32))), (.int (nar .byte (85 : Int32))), (.int (nar .byte (85 : Int32))), (.int (nar .byte (85 : Int32))), (.int (nar .byte (85 : Int32))), (.int (nar .byte (85 : Int32))), (.int (nar .byte (85 : Int32))), (.int (nar .byte (85 : Int32))), (.int (nar .byte (85 : Int32))), (.int (nar .byte (85 : Int32))), (.int (nar .byte (85 : Int32))), (.int (nar .byte (85 : Int32))), (.int (nar .byte (85 : Int32))), (.int (0 : Int32)), (.int (0 : Int32)), (.int (0 : Int32)), (.int (0 : Int32)), (.int (0 : Int32)), (.int (0 : Int32)), (.int (0 : Int32))]]
abbrev mem47 (x0 : Addr) : Mem := [ar x0 .byte [(.int (nar .byte (85 : Int32))), (.int (nar .byte (85 : Int32))), (.int (nar .byte (85 : Int32))), (.int (nar .byte (85 : Int32))), (.int (nar .byte (85 : Int32))), (.int (nar .byte (85 : Int32))), (.int (nar .byte (85 : Int32))), (.int (nar .byte (85 : Int32))), (.int (nar .byte (85 : Int32))), (.int (nar .byte (85 : Int32))), (.int (nar .byte (85 : Int32))), (.int (nar .byte (85 : Int32))), (.int (nar .byte (85 : Int32))), (.int (nar .byte (85 : Int32))), (.int (nar .byte (85 : Int32))), (.int (nar .byte (85 : Int32))), (.int (nar .byte (85 : Int32))), (.int (nar .byte (85 : Int32))), (.int (nar .byte (85 : Int32))), (.int (nar .byte (85 : Int32))), (.int (nar .byte (85 : Int32))), (.int (nar .byte (85 : Int32))), (.int (nar .byte (85 : Int32))), (.int (nar .byte (85 : Int32))), (.int (nar .byte (85 : Int32))), (.int (nar .byte (85 : Int32))), (.int (0 : Int32)), (.int (0 : Int32)), (.int (0 : Int32)), (.int (0 : Int32)), (.int (0 : Int32)), (.int (0 : Int32))]]
abbrev mem48 (x0 : Addr) : Mem := [ar x0 .byte [(.int (nar .byte (85 : Int32))), (.int (nar .byte (85 : Int32))), (.int (nar .byte (85 : Int32))), (.int (nar .byte (85 : Int32))), (.int (nar .byte (85 : Int32))), (.int (nar .byte (85 : Int32))), (.int (nar .byte (85 : Int32))), (.int (nar .byte (85 : Int32))), (.int (nar .byte (85 : Int32))), (.int (nar .byte (85 : Int32))), (.int (nar .byte (85 : Int32))), (.int (nar .byte (85 : Int32))), (.int (nar .byte (85 : Int32))), (.int (nar .byte (85 : Int32))), (.int (nar .byte (85 : Int32))), (.int (nar .byte (85 : Int32))), (.int (nar .byte (85 : Int32))), (.int (nar .byte (85 : Int32))), (.int (nar .byte (85 : Int32))), (.int (nar .byte (85 : Int32))), (.int (nar .byte (85 : Int32))), (.int (nar .byte (85 : Int32))), (.int (nar .byte (85 : Int32))), (.int (nar .byte (85 : Int32))), (.int (nar .byte (85 : Int32))), (.int (nar .byte (85 : Int32))), (.int (nar .byte (85 : Int32))), (.int (0 : Int32)), (.int (0 : Int32)), (.int (0 : Int32)), (.int (0 : Int32)), (.int (0 : Int32))]]
abbrev mem49 (x0 : Addr) : Mem := [ar x0 .byte [(.int (nar .byte (85 : Int32))), (.int (nar .byte (85 : Int32))), (.int (nar .byte (85 : Int32))), (.int (nar .byte (85 : Int32))), (.int (nar .byte (85 : Int32))), (.int (nar .byte (85 : Int32))), (.int (nar .byte (85 : Int32))), (.int (nar .byte (85 : Int32))), (.int (nar .byte (85 : Int32))), (.int (nar .byte (85 : Int32))), (.int (nar .byte (85 : Int32))), (.int (nar .byte (85 : Int32))), (.int (nar .byte (85 : Int32))), (.int (nar .byte (85 : Int32))), (.int (nar .byte (85 : Int32))), (.int (nar .byte (85 : Int32))), (.int (nar .byte (85 : Int32))), (.int (nar .byte (85 : Int32))), (.int (nar .byte (85 : Int32))), (.int (nar .byte (85 : Int32))), (.int (nar .byte (85 : Int32))), (.int (nar .byte (85 : Int32))), (.int (nar .byte (85 : Int32))), (.int (nar .byte (85 : Int32))), (.int (nar .byte (85 : Int32))), (.int (nar .byte (85 : Int32))), (.int (nar .byte (85 : Int32))), (.int (nar .byte (85 : Int32))), (.int (0 : Int32)), (.int (0 : Int32)), (.int (0 : Int32)), (.int (0 : Int32))]]
abbrev mem50 (x0 : Addr) : Mem := [ar x0 .byte [(.int (nar .byte (85 : Int32))), (.int (nar .byte (85 : Int32))), (.int (nar .byte (85 : Int32))), (.int (nar .byte (85 : Int32))), (.int (nar .byte (85 : Int32))), (.int (nar .byte (85 : Int32))), (.int (nar .byte (85 : Int32))), (.int (nar .byte (85 : Int32))), (.int (nar .byte (85 : Int32))), (.int (nar .byte (85 : Int32))), (.int (nar .byte (85 : Int32))), (.int (nar .byte (85 : Int32))), (.int (nar .byte (85 : Int32))), (.int (nar .byte (85 : Int32))), (.int (nar .byte (85 : Int32))), (.int (nar .byte (85 : Int32))), (.int (nar .byte (85 : Int32))), (.int (nar .byte (85 : Int32))), (.int (nar .byte (85 : Int32))), (.int (nar .byte (85 : Int32))), (.int (nar .byte (85 : Int32))), (.int (nar .byte (85 : Int32))), (.int (nar .byte (85 : Int32))), (.int (nar .byte (85 : Int32))), (.int (nar .byte (85 : Int32))), (.int (nar .byte (85 : Int32))), (.int (nar .byte (85 : Int32))), (.int (nar .byte (85 : Int32))), (.int (nar .byte (85 : Int32))), (.int (0 : Int32)), (.int (0 : Int32)), (.int (0 : Int32))]]
abbrev mem51 (x0 : Addr) : Mem := [ar x0 .byte [(.int (nar .byte (85 : Int32))), (.int (nar .byte (85 : Int32))), (.int (nar .byte (85 : Int32))), (.int (nar .byte (85 : Int32))), (.int (nar .byte (85 : Int32))), (.int (nar .byte (85 : Int32))), (.int (nar .byte (85 : Int32))), (.int (nar .byte (85 : Int32))), (.int (nar .byte (85 : Int32))), (.int (nar .byte (85 : Int32))), (.int (nar .byte (85 : Int32))), (.int (nar .byte (85 : Int32))), (.int (nar .byte (85 : Int32))), (.int (nar .byte (85 : Int32))), (.int (nar .byte (85 : Int32))), (.int (nar .byte (85 : Int32))), (.int (nar .byte (85 : Int32))), (.int (nar .byte (85 : Int32))), (.int (nar .byte (85 : Int32))), (.int (nar .byte (85 : Int32))), (.int (nar .byte (85 : Int32))), (.int (nar .byte (85 : Int32))), (.int (nar .byte (85 : Int32))), (.int (nar .byte (85 : Int32))), (.int (nar .byte (85 : Int32))), (.int (nar .byte (85 : Int32))), (.int (nar .byte (85 : Int32))), (.int (nar .byte (85 : Int32))), (.int (nar .byte (85 : Int32))), (.int (nar .byte (85 : Int32))), (.int (0 : Int32)), (.int (0 : Int32))]]
abbrev mem52 (x0 : Addr) : Mem := [ar x0 .byte [(.int (nar .byte (85 : Int32))), (.int (nar .byte (85 : Int32))), (.int (nar .byte (85 : Int32))), (.int (nar .byte (85 : Int32))), (.int (nar .byte (85 : Int32))), (.int (nar .byte (85 : Int32))), (.int (nar .byte (85 : Int32))), (.int (nar .byte (85 : Int32))), (.int (nar .byte (85 : Int32))), (.int (nar .byte (85 : Int32))), (.int (nar .byte (85 : Int32))), (.int (nar .byte (85 : Int32))), (.int (nar .byte (85 : Int32))), (.int (nar .byte (85 : Int32))), (.int (nar .byte (85 : Int32))), (.int (nar .byte (85 : Int32))), (.int (nar .byte (85 : Int32))), (.int (nar .byte (85 : Int32))), (.int (nar .byte (85 : Int32))), (.int (nar .byte (85 : Int32))), (.int (nar .byte (85 : Int32))), (.int (nar .byte (85 : Int32))), (.int (nar .byte (85 : Int32))), (.int (nar .byte (85 : Int32))), (.int (nar .byte (85 : Int32))), (.int (nar .byte (85 : Int32))), (.int (nar .byte (85 : Int32))), (.int (nar .byte (85 : Int32))), (.int (nar .byte (85 : Int32))), (.int (nar .byte (85 : Int32))), (.int (nar .byte (85 : Int32))), (.int (0 : Int32))]]
abbrev mem53 (x0 : Addr) : Mem := [ar x0 .byte [(.int (nar .byte (85 : Int32))), (.int (nar .byte (85 : Int32))), (.int (nar .byte (85 : Int32))), (.int (nar .byte (85 : Int32))), (.int (nar .byte (85 : Int32))), (.int (nar .byte (85 : Int32))), (.int (nar .byte (85 : Int32))), (.int (nar .byte (85 : Int32))), (.int (nar .byte (85 : Int32))), (.int (nar .byte (85 : Int32))), (.int (nar .byte (85 : Int32))), (.int (nar .byte (85 : Int32))), (.int (nar .byte (85 : Int32))), (.int (nar .byte (85 : Int32))), (.int (nar .byte (85 : Int32))), (.int (nar .byte (85 : Int32))), (.int (nar .byte (85 : Int32))), (.int (nar .byte (85 : Int32))), (.int (nar .byte (85 : Int32))), (.int (nar .byte (85 : Int32))), (.int (nar .byte (85 : Int32))), (.int (nar .byte (85 : Int32))), (.int (nar .byte (85 : Int32))), (.int (nar .byte (85 : Int32))), (.int (nar .byte (85 : Int32))), (.int (nar .byte (85 : Int32))), (.int (nar .byte (85 : Int32))), (.int (nar .byte (85 : Int32))), (.int (nar .byte (85 : Int32))), (.int (nar .byte (85 : Int32))), (.int (nar .byte (85 : Int32))), (.int (nar .byte (85 : Int32)))]]

theorem d1_0 : decode method_3_code 0 = .ok (.iconst 1, 1) := by decide +kernel
theorem d1_1 : decode method_3_code 1 = .ok (.lload_n 0, 1) := by decide +kernel
theorem d1_2 : decode method_3_code 2 = .ok (.ldc2_w 7, 3) := by decide +kernel
theorem d1_5 : decode method_3_code 5 = .ok (.lcmp, 1) := by decide +kernel
theorem d1_6 : decode method_3_code 6 = .ok (.ifCond .lt 7, 3) := by decide +kernel
theorem d1_9 : decode method_3_code 9 = .ok (.iconst 1, 1) := by decide +kernel
theorem d1_10 : decode method_3_code 10 = .ok (.goto 4, 3) := by decide +kernel
theorem d1_13 : decode method_3_code 13 = .ok (.iconst 0, 1) := by decide +kernel
theorem d1_14 : decode method_3_code 14 = .ok (.iadd, 1) := by decide +kernel
theorem d1_15 : decode method_3_code 15 = .ok (.lload_n 0, 1) := by decide +kernel
theorem d1_16 : decode method_3_code 16 = .ok (.ldc2_w 9, 3) := by decide +kernel
theorem d1_19 : decode method_3_code 19 = .ok (.lcmp, 1) := by decide +kernel
theorem d1_20 : decode method_3_code 20 = .ok (.ifCond .lt 7, 3) := by decide +kernel
theorem d1_23 : decode method_3_code 23 = .ok (.iconst 1, 1) := by decide +kernel
theorem d1_24 : decode method_3_code 24 = .ok (.goto 4, 3) := by decide +kernel
theorem d1_27 : decode method_3_code 27 = .ok (.iconst 0, 1) := by decide +kernel
theorem d1_28 : decode method_3_code 28 = .ok (.iadd, 1) := by decide +kernel
theorem d1_29 : decode method_3_code 29 = .ok (.lload_n 0, 1) := by decide +kernel
theorem d1_30 : decode method_3_code 30 = .ok (.ldc2_w 11, 3) := by decide +kernel
theorem d1_33 : decode method_3_code 33 = .ok (.lcmp, 1) := by decide +kernel
theorem d1_34 : decode method_3_code 34 = .ok (.ifCond .lt 7, 3) := by decide +kernel
theorem d1_37 : decode method_3_code 37 = .ok (.iconst 1, 1) := by decide +kernel
theorem d1_38 : decode method_3_code 38 = .ok (.goto 4, 3) := by decide +kernel
theorem d1_41 : decode method_3_code 41 = .ok (.iconst 0, 1) := by decide +kernel
theorem d1_42 : decode method_3_code 42 = .ok (.iadd, 1) := by decide +kernel
theorem d1_43 : decode method_3_code 43 = .ok (.lload_n 0, 1) := by decide +kernel
theorem d1_44 : decode method_3_code 44 = .ok (.ldc2_w 13, 3) := by decide +kernel
theorem d1_47 : decode method_3_code 47 = .ok (.lcmp, 1) := by decide +kernel
theorem d1_48 : decode method_3_code 48 = .ok (.ifCond .lt 7, 3) := by decide +kernel
theorem d1_51 : decode method_3_code 51 = .ok (.iconst 1, 1) := by decide +kernel
theorem d1_52 : decode method_3_code 52 = .ok (.goto 4, 3) := by decide +kernel
theorem d1_55 : decode method_3_code 55 = .ok (.iconst 0, 1) := by decide +kernel
theorem d1_56 : decode method_3_code 56 = .ok (.iadd, 1) := by decide +kernel
theorem d1_57 : decode method_3_code 57 = .ok (.lload_n 0, 1) := by decide +kernel
theorem d1_58 : decode method_3_code 58 = .ok (.ldc2_w 15, 3) := by decide +kernel
theorem d1_61 : decode method_3_code 61 = .ok (.lcmp, 1) := by decide +kernel
theorem d1_62 : decode method_3_code 62 = .ok (.ifCond .lt 7, 3) := by decide +kernel
theorem d1_65 : decode method_3_code 65 = .ok (.iconst 1, 1) := by decide +kernel
theorem d1_66 : decode method_3_code 66 = .ok (.goto 4, 3) := by decide +kernel
theorem d1_69 : decode method_3_code 69 = .ok (.iconst 0, 1) := by decide +kernel
theorem d1_70 : decode method_3_code 70 = .ok (.iadd, 1) := by decide +kernel
theorem d1_71 : decode method_3_code 71 = .ok (.lload_n 0, 1) := by decide +kernel
theorem d1_72 : decode method_3_code 72 = .ok (.ldc2_w 17, 3) := by decide +kernel
theorem d1_75 : decode method_3_code 75 = .ok (.lcmp, 1) := by decide +kernel
theorem d1_76 : decode method_3_code 76 = .ok (.ifCond .lt 7, 3) := by decide +kernel
theorem d1_79 : decode method_3_code 79 = .ok (.iconst 1, 1) := by decide +kernel
theorem d1_80 : decode method_3_code 80 = .ok (.goto 4, 3) := by decide +kernel
theorem d1_83 : decode method_3_code 83 = .ok (.iconst 0, 1) := by decide +kernel
theorem d1_84 : decode method_3_code 84 = .ok (.iadd, 1) := by decide +kernel
theorem d1_85 : decode method_3_code 85 = .ok (.lload_n 0, 1) := by decide +kernel
theorem d1_86 : decode method_3_code 86 = .ok (.ldc2_w 19, 3) := by decide +kernel
theorem d1_89 : decode method_3_code 89 = .ok (.lcmp, 1) := by decide +kernel
theorem d1_90 : decode method_3_code 90 = .ok (.ifCond .lt 7, 3) := by decide +kernel
theorem d1_93 : decode method_3_code 93 = .ok (.iconst 1, 1) := by decide +kernel
theorem d1_94 : decode method_3_code 94 = .ok (.goto 4, 3) := by decide +kernel
theorem d1_97 : decode method_3_code 97 = .ok (.iconst 0, 1) := by decide +kernel
theorem d1_98 : decode method_3_code 98 = .ok (.iadd, 1) := by decide +kernel
theorem d1_99 : decode method_3_code 99 = .ok (.lload_n 0, 1) := by decide +kernel
theorem d1_100 : decode method_3_code 100 = .ok (.ldc2_w 21, 3) := by decide +kernel
theorem d1_103 : decode method_3_code 103 = .ok (.lcmp, 1) := by decide +kernel
theorem d1_104 : decode method_3_code 104 = .ok (.ifCond .lt 7, 3) := by decide +kernel
theorem d1_107 : decode method_3_code 107 = .ok (.iconst 1, 1) := by decide +kernel
theorem d1_108 : decode method_3_code 108 = .ok (.goto 4, 3) := by decide +kernel
theorem d1_111 : decode method_3_code 111 = .ok (.iconst 0, 1) := by decide +kernel
theorem d1_112 : decode method_3_code 112 = .ok (.iadd, 1) := by decide +kernel
theorem d1_113 : decode method_3_code 113 = .ok (.lload_n 0, 1) := by decide +kernel
theorem d1_114 : decode method_3_code 114 = .ok (.ldc2_w 23, 3) := by decide +kernel
theorem d1_117 : decode method_3_code 117 = .ok (.lcmp, 1) := by decide +kernel
theorem d1_118 : decode method_3_code 118 = .ok (.ifCond .lt 7, 3) := by decide +kernel
theorem d1_121 : decode method_3_code 121 = .ok (.iconst 1, 1) := by decide +kernel
theorem d1_122 : decode method_3_code 122 = .ok (.goto 4, 3) := by decide +kernel
theorem d1_125 : decode method_3_code 125 = .ok (.iconst 0, 1) := by decide +kernel
theorem d1_126 : decode method_3_code 126 = .ok (.iadd, 1) := by decide +kernel
theorem d1_127 : decode method_3_code 127 = .ok (.lload_n 0, 1) := by decide +kernel
theorem d1_128 : decode method_3_code 128 = .ok (.ldc2_w 25, 3) := by decide +kernel
theorem d1_131 : decode method_3_code 131 = .ok (.lcmp, 1) := by decide +kernel
theorem d1_132 : decode method_3_code 132 = .ok (.ifCond .lt 7, 3) := by decide +kernel
theorem d1_135 : decode method_3_code 135 = .ok (.iconst 1, 1) := by decide +kernel
theorem d1_136 : decode method_3_code 136 = .ok (.goto 4, 3) := by decide +kernel
theorem d1_139 : decode method_3_code 139 = .ok (.iconst 0, 1) := by decide +kernel
theorem d1_140 : decode method_3_code 140 = .ok (.iadd, 1) := by decide +kernel
theorem d1_141 : decode method_3_code 141 = .ok (.lload_n 0, 1) := by decide +kernel
theorem d1_142 : decode method_3_code 142 = .ok (.ldc2_w 27, 3) := by decide +kernel
theorem d1_145 : decode method_3_code 145 = .ok (.lcmp, 1) := by decide +kernel
theorem d1_146 : decode method_3_code 146 = .ok (.ifCond .lt 7, 3) := by decide +kernel
theorem d1_149 : decode method_3_code 149 = .ok (.iconst 1, 1) := by decide +kernel
theorem d1_150 : decode method_3_code 150 = .ok (.goto 4, 3) := by decide +kernel
theorem d1_153 : decode method_3_code 153 = .ok (.iconst 0, 1) := by decide +kernel
theorem d1_154 : decode method_3_code 154 = .ok (.iadd, 1) := by decide +kernel
theorem d1_155 : decode method_3_code 155 = .ok (.lload_n 0, 1) := by decide +kernel
theorem d1_156 : decode method_3_code 156 = .ok (.ldc2_w 29, 3) := by decide +kernel
theorem d1_159 : decode method_3_code 159 = .ok (.lcmp, 1) := by decide +kernel
theorem d1_160 : decode method_3_code 160 = .ok (.ifCond .lt 7, 3) := by decide +kernel
theorem d1_163 : decode method_3_code 163 = .ok (.iconst 1, 1) := by decide +kernel
theorem d1_164 : decode method_3_code 164 = .ok (.goto 4, 3) := by decide +kernel
theorem d1_167 : decode method_3_code 167 = .ok (.iconst 0, 1) := by decide +kernel
theorem d1_168 : decode method_3_code 168 = .ok (.iadd, 1) := by decide +kernel
theorem d1_169 : decode method_3_code 169 = .ok (.lload_n 0, 1) := by decide +kernel
theorem d1_170 : decode method_3_code 170 = .ok (.ldc2_w 31, 3) := by decide +kernel
theorem d1_173 : decode method_3_code 173 = .ok (.lcmp, 1) := by decide +kernel
theorem d1_174 : decode method_3_code 174 = .ok (.ifCond .lt 7, 3) := by decide +kernel
theorem d1_177 : decode method_3_code 177 = .ok (.iconst 1, 1) := by decide +kernel
theorem d1_178 : decode method_3_code 178 = .ok (.goto 4, 3) := by decide +kernel
theorem d1_181 : decode method_3_code 181 = .ok (.iconst 0, 1) := by decide +kernel
theorem d1_182 : decode method_3_code 182 = .ok (.iadd, 1) := by decide +kernel
theorem d1_183 : decode method_3_code 183 = .ok (.lload_n 0, 1) := by decide +kernel
theorem d1_184 : decode method_3_code 184 = .ok (.ldc2_w 33, 3) := by decide +kernel
theorem d1_187 : decode method_3_code 187 = .ok (.lcmp, 1) := by decide +kernel
theorem d1_188 : decode method_3_code 188 = .ok (.ifCond .lt 7, 3) := by decide +kernel
theorem d1_191 : decode method_3_code 191 = .ok (.iconst 1, 1) := by decide +kernel
theorem d1_192 : decode method_3_code 192 = .ok (.goto 4, 3) := by decide +kernel
theorem d1_195 : decode method_3_code 195 = .ok (.iconst 0, 1) := by decide +kernel
theorem d1_196 : decode method_3_code 196 = .ok (.iadd, 1) := by decide +kernel
theorem d1_197 : decode method_3_code 197 = .ok (.lload_n 0, 1) := by decide +kernel
theorem d1_198 : decode method_3_code 198 = .ok (.ldc2_w 35, 3) := by decide +kernel
theorem d1_201 : decode method_3_code 201 = .ok (.lcmp, 1) := by decide +kernel
theorem d1_202 : decode method_3_code 202 = .ok (.ifCond .lt 7, 3) := by decide +kernel
theorem d1_205 : decode method_3_code 205 = .ok (.iconst 1, 1) := by decide +kernel
theorem d1_206 : decode method_3_code 206 = .ok (.goto 4, 3) := by decide +kernel
theorem d1_209 : decode method_3_code 209 = .ok (.iconst 0, 1) := by decide +kernel
theorem d1_210 : decode method_3_code 210 = .ok (.iadd, 1) := by decide +kernel
theorem d1_211 : decode method_3_code 211 = .ok (.lload_n 0, 1) := by decide +kernel
theorem d1_212 : decode method_3_code 212 = .ok (.ldc2_w 37, 3) := by decide +kernel
theorem d1_215 : decode method_3_code 215 = .ok (.lcmp, 1) := by decide +kernel
theorem d1_216 : decode method_3_code 216 = .ok (.ifCond .lt 7, 3) := by decide +kernel
theorem d1_219 : decode method_3_code 219 = .ok (.iconst 1, 1) := by decide +kernel
theorem d1_220 : decode method_3_code 220 = .ok (.goto 4, 3) := by decide +kernel
theorem d1_223 : decode method_3_code 223 = .ok (.iconst 0, 1) := by decide +kernel
theorem d1_224 : decode method_3_code 224 = .ok (.iadd, 1) := by decide +kernel
theorem d1_225 : decode method_3_code 225 = .ok (.lload_n 0, 1) := by decide +kernel
theorem d1_226 : decode method_3_code 226 = .ok (.ldc2_w 39, 3) := by decide +kernel
theorem d1_229 : decode method_3_code 229 = .ok (.lcmp, 1) := by decide +kernel
theorem d1_230 : decode method_3_code 230 = .ok (.ifCond .lt 7, 3) := by decide +kernel
theorem d1_233 : decode method_3_code 233 = .ok (.iconst 1, 1) := by decide +kernel
theorem d1_234 : decode method_3_code 234 = .ok (.goto 4, 3) := by decide +kernel
theorem d1_237 : decode method_3_code 237 = .ok (.iconst 0, 1) := by decide +kernel
theorem d1_238 : decode method_3_code 238 = .ok (.iadd, 1) := by decide +kernel
theorem d1_239 : decode method_3_code 239 = .ok (.lload_n 0, 1) := by decide +kernel
theorem d1_240 : decode method_3_code 240 = .ok (.ldc2_w 41, 3) := by decide +kernel
theorem d1_243 : decode method_3_code 243 = .ok (.lcmp, 1) := by decide +kernel
theorem d1_244 : decode method_3_code 244 = .ok (.ifCond .lt 7, 3) := by decide +kernel
theorem d1_247 : decode method_3_code 247 = .ok (.iconst 1, 1) := by decide +kernel
theorem d1_248 : decode method_3_code 248 = .ok (.goto 4, 3) := by decide +kernel
theorem d1_251 : decode method_3_code 251 = .ok (.iconst 0, 1) := by decide +kernel
theorem d1_252 : decode method_3_code 252 = .ok (.iadd, 1) := by decide +kernel
theorem d1_253 : decode method_3_code 253 = .ok (.ireturn, 1) := by decide +kernel
theorem pn1 : plainFor (⟨"com/example/cartonmark/cartonmark/pdf/PdfFilePutWholePinLaw", "digitCount", "(J)I"⟩ : MethodName) = true := by first | (apply plainFor_of_name; simp [plainName, overriddenIn]; done) | decide +kernel
def B1 : Bdy := (⟨"com/example/cartonmark/cartonmark/pdf/PdfFilePutWholePinLaw", "digitCount", "(J)I"⟩, method_3_code, 2, (some .int), ({ frames := 0, cells := 0, slots := 0, locals := 0 } : Room))
set_option maxRecDepth 65536 in
set_option maxHeartbeats 4000000 in
theorem m_dc (Z : State) (a0 : Array Value) (hw : ∀ d ∈ tables_1, d.before a0 Z = true) (h0 : Heap) (ds : Mem) (q1 : Int64) (hq : 0 ≤ q1.toInt) :
    Met B1 Z a0 h0 #[(.long q1)] ds (fun v ds' => ∃ (z : Int32) (j : Nat), v = some (.int z) ∧ ds' = ds ∧ z.toInt = j ∧ Dg j q1.toInt.toNat) := by
  refine Met.of pn1 (ls := #[.val (.long q1), .second]) (fun m => by first | (simp [entryFrame, mkF, argsToLocals, Value.category, B1]; done) | rfl) ?_
  have g18 : ∀ z : Int32, ((z.toInt = 19 ∧ 1000000000000000000 ≤ q1.toInt) ∨ (q1.toInt < 1000000000000000000 ∧ ∃ j : Nat, z.toInt = j ∧ Dg j q1.toInt.toNat)) → Go B1 Z a0 h0 (fun v ds' => ∃ (z : Int32) (j : Nat), v = some (.int z) ∧ ds' = ds ∧ z.toInt = j ∧ Dg j q1.toInt.toNat) 0 0 ds 253 #[.val (.long q1), .second] [(.int z)] := by
    intro z hz
    have hf : ∃ j : Nat, z.toInt = j ∧ Dg j q1.toInt.toNat := by
      rcases hz with ⟨h1, h2⟩ | ⟨_, h⟩
      · exact ⟨19, by omega, by decide, big19 q1 hq, Or.inr (by have e : (10 : Nat) ^ (19 - 1) = 1000000000000000000 := (by decide); omega)⟩
      · exact h
    obtain ⟨j, hj1, hj2⟩ := hf
    exact go_ireturn d1_253 rfl (Or.inl rfl) rfl rfl (by decide) (by decide) ⟨_, j, rfl, rfl, hj1, hj2⟩
  have g17 : ∀ z : Int32, ((z.toInt = 18 ∧ 100000000000000000 ≤ q1.toInt) ∨ (q1.toInt < 100000000000000000 ∧ ∃ j : Nat, z.toInt = j ∧ Dg j q1.toInt.toNat)) → Go B1 Z a0 h0 (fun v ds' => ∃ (z : Int32) (j : Nat), v = some (.int z) ∧ ds' = ds ∧ z.toInt = j ∧ Dg j q1.toInt.toNat) 0 0 ds 239 #[.val (.long q1), .second] [(.int z)] := by
    intro z hz
    have gq := c_lcmp q1 (1000000000000000000 : Int64); have f9 : (1000000000000000000 : Int64).toInt = 1000000000000000000 := rfl
    have r9 := rng32 z
    refine go_lloadN 240 rfl d1_239 rfl ?_
    refine go_ldc2 (v := (1000000000000000000 : Int64)) 243 rfl d1_240 (wd hw 23 rfl) ?_
    refine go_lcmp 244 rfl d1_243 rfl ?_
    refine go_if 251 247 rfl (by decide) rfl d1_244 rfl (fun (hc : (lcmpW q1 (1000000000000000000 : Int64)).toInt < 0) => ?_) (fun (hc : ¬ ((lcmpW q1 (1000000000000000000 : Int64)).toInt < 0)) => ?_)
    · refine go_iconst (0 : Int32) 252 rfl d1_251 rfl ?_
      refine go_iadd 253 rfl d1_252 rfl ?_
      rw [show z + (0 : Int32) = z from Int32.add_zero z]
      refine g18 z (Or.inr ⟨by omega, ?_⟩)
      rcases hz with ⟨h1, h2⟩ | ⟨_, h⟩
      · exact ⟨18, h1, by decide, (by have e : (10 : Nat) ^ 18 = 1000000000000000000 := (by decide); omega), Or.inr (by have e : (10 : Nat) ^ (18 - 1) = 100000000000000000 := (by decide); omega)⟩
      · exact h
    · refine go_iconst (1 : Int32) 248 rfl d1_247 rfl ?_
      refine go_goto 252 (by decide) rfl d1_248 ?_
      refine go_iadd 253 rfl d1_252 rfl ?_
      refine g18 _ (Or.inl ⟨?_, by omega⟩)
      have s9 := c_iadd z 1; have o9 : (1 : Int32).toInt = 1 := rfl; have r8 := rng32 (z + 1)
      rcases hz with ⟨h1, h2⟩ | ⟨h1, _⟩
      · omega
      · omega
  have g16 : ∀ z : Int32, ((z.toInt = 17 ∧ 10000000000000000 ≤ q1.toInt) ∨ (q1.toInt < 10000000000000000 ∧ ∃ j : Nat, z.toInt = j ∧ Dg j q1.toInt.toNat)) → Go B1 Z a0 h0 (fun v ds' => ∃ (z : Int32) (j : Nat), v = some (.int z) ∧ ds' = ds ∧ z.toInt = j ∧ Dg j q1.toInt.toNat) 0 0 ds 225 #[.val (.long q1), .second] [(.int z)] := by
    intro z hz
    have gq := c_lcmp q1 (100000000000000000 : Int64); have f9 : (100000000000000000 : Int64).toInt = 100000000000000000 := rfl
    have r9 := rng32 z
    refine go_lloadN 226 rfl d1_225 rfl ?_
    refine go_ldc2 (v := (100000000000000000 : Int64)) 229 rfl d1_226 (wd hw 22 rfl) ?_
    refine go_lcmp 230 rfl d1_229 rfl ?_
    refine go_if 237 233 rfl (by decide) rfl d1_230 rfl (fun (hc : (lcmpW q1 (100000000000000000 : Int64)).toInt < 0) => ?_) (fun (hc : ¬ ((lcmpW q1 (100000000000000000 : Int64)).toInt < 0)) => ?_)
    · refine go_iconst (0 : Int32) 238 rfl d1_237 rfl ?_
      refine go_iadd 239 rfl d1_238 rfl ?_
      rw [show z + (0 : Int32) = z from Int32.add_zero z]
      refine g17 z (Or.inr ⟨by omega, ?_⟩)
      rcases hz with ⟨h1, h2⟩ | ⟨_, h⟩
      · exact ⟨17, h1, by decide, (by have e : (10 : Nat) ^ 17 = 100000000000000000 := (by decide); omega), Or.inr (by have e : (10 : Nat) ^ (17 - 1) = 10000000000000000 := (by decide); omega)⟩
      · exact h
    · refine go_iconst (1 : Int32) 234 rfl d1_233 rfl ?_
      refine go_goto 238 (by decide) rfl d1_234 ?_
      refine go_iadd 239 rfl d1_238 rfl ?_
      refine g17 _ (Or.inl ⟨?_, by omega⟩)
      have s9 := c_iadd z 1; have o9 : (1 : Int32).toInt = 1 := rfl; have r8 := rng32 (z + 1)
      rcases hz with ⟨h1, h2⟩ | ⟨h1, _⟩
      · omega
      · omega
  have g15 : ∀ z : Int32, ((z.toInt = 16 ∧ 1000000000000000 ≤ q1.toInt) ∨ (q1.toInt < 1000000000000000 ∧ ∃ j : Nat, z.toInt = j ∧ Dg j q1.toInt.toNat)) → Go B1 Z a0 h0 (fun v ds' => ∃ (z : Int32) (j : Nat), v = some (.int z) ∧ ds' = ds ∧ z.toInt = j ∧ Dg j q1.toInt.toNat) 0 0 ds 211 #[.val (.long q1), .second] [(.int z)] := by
    intro z hz
    have gq := c_lcmp q1 (10000000000000000 : Int64); have f9 : (10000000000000000 : Int64).toInt = 10000000000000000 := rfl
    have r9 := rng32 z
    refine go_lloadN 212 rfl d1_211 rfl ?_
    refine go_ldc2 (v := (10000000000000000 : Int64)) 215 rfl d1_212 (wd hw 21 rfl) ?_
    refine go_lcmp 216 rfl d1_215 rfl ?_
    refine go_if 223 219 rfl (by decide) rfl d1_216 rfl (fun (hc : (lcmpW q1 (10000000000000000 : Int64)).toInt < 0) => ?_) (fun (hc : ¬ ((lcmpW q1 (10000000000000000 : Int64)).toInt < 0)) => ?_)
    · refine go_iconst (0 : Int32) 224 rfl d1_223 rfl ?_
      refine go_iadd 225 rfl d1_224 rfl ?_
      rw [show z + (0 : Int32) = z from Int32.add_zero z]
      refine g16 z (Or.inr ⟨by omega, ?_⟩)
      rcases hz with ⟨h1, h2⟩ | ⟨_, h⟩
      · exact ⟨16, h1, by decide, (by have e : (10 : Nat) ^ 16 = 10000000000000000 := (by decide); omega), Or.inr (by have e : (10 : Nat) ^ (16 - 1) = 1000000000000000 := (by decide); omega)⟩
      · exact h
    · refine go_iconst (1 : Int32) 220 rfl d1_219 rfl ?_
      refine go_goto 224 (by decide) rfl d1_220 ?_
      refine go_iadd 225 rfl d1_224 rfl ?_
      refine g16 _ (Or.inl ⟨?_, by omega⟩)
      have s9 := c_iadd z 1; have o9 : (1 : Int32).toInt = 1 := rfl; have r8 := rng32 (z + 1)
      rcases hz with ⟨h1, h2⟩ | ⟨h1, _⟩
      · omega
      · omega
  have g14 : ∀ z : Int32, ((z.toInt = 15 ∧ 100000000000000 ≤ q1.toInt) ∨ (q1.toInt < 100000000000000 ∧ ∃ j : Nat, z.toInt = j ∧ Dg j q1.toInt.toNat)) → Go B1 Z a0 h0 (fun v ds' => ∃ (z : Int32) (j : Nat), v = some (.int z) ∧ ds' = ds ∧ z.toInt = j ∧ Dg j q1.toInt.toNat) 0 0 ds 197 #[.val (.long q1), .second] [(.int z)] := by
    intro z hz
    have gq := c_lcmp q1 (1000000000000000 : Int64); have f9 : (1000000000000000 : Int64).toInt = 1000000000000000 := rfl
    have r9 := rng32 z
    refine go_lloadN 198 rfl d1_197 rfl ?_
    refine go_ldc2 (v := (1000000000000000 : Int64)) 201 rfl d1_198 (wd hw 20 rfl) ?_
    refine go_lcmp 202 rfl d1_201 rfl ?_
    refine go_if 209 205 rfl (by decide) rfl d1_202 rfl (fun (hc : (lcmpW q1 (1000000000000000 : Int64)).toInt < 0) => ?_) (fun (hc : ¬ ((lcmpW q1 (1000000000000000 : Int64)).toInt < 0)) => ?_)
    · refine go_iconst (0 : Int32) 210 rfl d1_209 rfl ?_
      refine go_iadd 211 rfl d1_210 rfl ?_
      rw [show z + (0 : Int32) = z from Int32.add_zero z]
      refine g15 z (Or.inr ⟨by omega, ?_⟩)
      rcases hz with ⟨h1, h2⟩ | ⟨_, h⟩
      · exact ⟨15, h1, by decide, (by have e : (10 : Nat) ^ 15 = 1000000000000000 := (by decide); omega), Or.inr (by have e : (10 : Nat) ^ (15 - 1) = 100000000000000 := (by decide); omega)⟩
      · exact h
    · refine go_iconst (1 : Int32) 206 rfl d1_205 rfl ?_
      refine go_goto 210 (by decide) rfl d1_206 ?_
      refine go_iadd 211 rfl d1_210 rfl ?_
      refine g15 _ (Or.inl ⟨?_, by omega⟩)
      have s9 := c_iadd z 1; have o9 : (1 : Int32).toInt = 1 := rfl; have r8 := rng32 (z + 1)
      rcases hz with ⟨h1, h2⟩ | ⟨h1, _⟩
      · omega
      · omega
  have g13 : ∀ z : Int32, ((z.toInt = 14 ∧ 10000000000000 ≤ q1.toInt) ∨ (q1.toInt < 10000000000000 ∧ ∃ j : Nat, z.toInt = j ∧ Dg j q1.toInt.toNat)) → Go B1 Z a0 h0 (fun v ds' => ∃ (z : Int32) (j : Nat), v = some (.int z) ∧ ds' = ds ∧ z.toInt = j ∧ Dg j q1.toInt.toNat) 0 0 ds 183 #[.val (.long q1), .second] [(.int z)] := by
    intro z hz
    have gq := c_lcmp q1 (100000000000000 : Int64); have f9 : (100000000000000 : Int64).toInt = 100000000000000 := rfl
    have r9 := rng32 z
    refine go_lloadN 184 rfl d1_183 rfl ?_
    refine go_ldc2 (v := (100000000000000 : Int64)) 187 rfl d1_184 (wd hw 19 rfl) ?_
    refine go_lcmp 188 rfl d1_187 rfl ?_
    refine go_if 195 191 rfl (by decide) rfl d1_188 rfl (fun (hc : (lcmpW q1 (100000000000000 : Int64)).toInt < 0) => ?_) (fun (hc : ¬ ((lcmpW q1 (100000000000000 : Int64)).toInt < 0)) => ?_)
    · refine go_iconst (0 : Int32) 196 rfl d1_195 rfl ?_
      refine go_iadd 197 rfl d1_196 rfl ?_
      rw [show z + (0 : Int32) = z from Int32.add_zero z]
      refine g14 z (Or.inr ⟨by omega, ?_⟩)
      rcases hz with ⟨h1, h2⟩ | ⟨_, h⟩
      · exact ⟨14, h1, by decide, (by have e : (10 : Nat) ^ 14 = 100000000000000 := (by decide); omega), Or.inr (by have e : (10 : Nat) ^ (14 - 1) = 10000000000000 := (by decide); omega)⟩
      · exact h
    · refine go_iconst (1 : Int32) 192 rfl d1_191 rfl ?_
      refine go_goto 196 (by decide) rfl d1_192 ?_
      refine go_iadd 197 rfl d1_196 rfl ?_
      refine g14 _ (Or.inl ⟨?_, by omega⟩)
      have s9 := c_iadd z 1; have o9 : (1 : Int32).toInt = 1 := rfl; have r8 := rng32 (z + 1)
      rcases hz with ⟨h1, h2⟩ | ⟨h1, _⟩
      · omega
      · omega
  have g12 : ∀ z : Int32, ((z.toInt = 13 ∧ 1000000000000 ≤ q1.toInt) ∨ (q1.toInt < 1000000000000 ∧ ∃ j : Nat, z.toInt = j ∧ Dg j q1.toInt.toNat)) → Go B1 Z a0 h0 (fun v ds' => ∃ (z : Int32) (j : Nat), v = some (.int z) ∧ ds' = ds ∧ z.toInt = j ∧ Dg j q1.toInt.toNat) 0 0 ds 169 #[.val (.long q1), .second] [(.int z)] := by
    intro z hz
    have gq := c_lcmp q1 (10000000000000 : Int64); have f9 : (10000000000000 : Int64).toInt = 10000000000000 := rfl
    have r9 := rng32 z
    refine go_lloadN 170 rfl d1_169 rfl ?_
    refine go_ldc2 (v := (10000000000000 : Int64)) 173 rfl d1_170 (wd hw 18 rfl) ?_
    refine go_lcmp 174 rfl d1_173 rfl ?_
    refine go_if 181 177 rfl (by decide) rfl d1_174 rfl (fun (hc : (lcmpW q1 (10000000000000 : Int64)).toInt < 0) => ?_) (fun (hc : ¬ ((lcmpW q1 (10000000000000 : Int64)).toInt < 0)) => ?_)
    · refine go_iconst (0 : Int32) 182 rfl d1_181 rfl ?_
      refine go_iadd 183 rfl d1_182 rfl ?_
      rw [show z + (0 : Int32) = z from Int32.add_zero z]
      refine g13 z (Or.inr ⟨by omega, ?_⟩)
      rcases hz with ⟨h1, h2⟩ | ⟨_, h⟩
      · exact ⟨13, h1, by decide, (by have e : (10 : Nat) ^ 13 = 10000000000000 := (by decide); omega), Or.inr (by have e : (10 : Nat) ^ (13 - 1) = 1000000000000 := (by decide); omega)⟩
      · exact h
    · refine go_iconst (1 : Int32) 178 rfl d1_177 rfl ?_
      refine go_goto 182 (by decide) rfl d1_178 ?_
      refine go_iadd 183 rfl d1_182 rfl ?_
      refine g13 _ (Or.inl ⟨?_, by omega⟩)
      have s9 := c_iadd z 1; have o9 : (1 : Int32).toInt = 1 := rfl; have r8 := rng32 (z + 1)
      rcases hz with ⟨h1, h2⟩ | ⟨h1, _⟩
      · omega
      · omega
  have g11 : ∀ z : Int32, ((z.toInt = 12 ∧ 100000000000 ≤ q1.toInt) ∨ (q1.toInt < 100000000000 ∧ ∃ j : Nat, z.toInt = j ∧ Dg j q1.toInt.toNat)) → Go B1 Z a0 h0 (fun v ds' => ∃ (z : Int32) (j : Nat), v = some (.int z) ∧ ds' = ds ∧ z.toInt = j ∧ Dg j q1.toInt.toNat) 0 0 ds 155 #[.val (.long q1), .second] [(.int z)] := by
    intro z hz
    have gq := c_lcmp q1 (1000000000000 : Int64); have f9 : (1000000000000 : Int64).toInt = 1000000000000 := rfl
    have r9 := rng32 z
    refine go_lloadN 156 rfl d1_155 rfl ?_
    refine go_ldc2 (v := (1000000000000 : Int64)) 159 rfl d1_156 (wd hw 17 rfl) ?_
    refine go_lcmp 160 rfl d1_159 rfl ?_
    refine go_if 167 163 rfl (by decide) rfl d1_160 rfl (fun (hc : (lcmpW q1 (1000000000000 : Int64)).toInt < 0) => ?_) (fun (hc : ¬ ((lcmpW q1 (1000000000000 : Int64)).toInt < 0)) => ?_)
    · refine go_iconst (0 : Int32) 168 rfl d1_167 rfl ?_
      refine go_iadd 169 rfl d1_168 rfl ?_
      rw [show z + (0 : Int32) = z from Int32.add_zero z]
      refine g12 z (Or.inr ⟨by omega, ?_⟩)
      rcases hz with ⟨h1, h2⟩ | ⟨_, h⟩
      · exact ⟨12, h1, by decide, (by have e : (10 : Nat) ^ 12 = 1000000000000 := (by decide); omega), Or.inr (by have e : (10 : Nat) ^ (12 - 1) = 100000000000 := (by decide); omega)⟩
      · exact h
    · refine go_iconst (1 : Int32) 164 rfl d1_163 rfl ?_
      refine go_goto 168 (by decide) rfl d1_164 ?_
      refine go_iadd 169 rfl d1_168 rfl ?_
      refine g12 _ (Or.inl ⟨?_, by omega⟩)
      have s9 := c_iadd z 1; have o9 : (1 : Int32).toInt = 1 := rfl; have r8 := rng32 (z + 1)
      rcases hz with ⟨h1, h2⟩ | ⟨h1, _⟩
      · omega
      · omega
  have g10 : ∀ z : Int32, ((z.toInt = 11 ∧ 10000000000 ≤ q1.toInt) ∨ (q1.toInt < 10000000000 ∧ ∃ j : Nat, z.toInt = j ∧ Dg j q1.toInt.toNat)) → Go B1 Z a0 h0 (fun v ds' => ∃ (z : Int32) (j : Nat), v = some (.int z) ∧ ds' = ds ∧ z.toInt = j ∧ Dg j q1.toInt.toNat) 0 0 ds 141 #[.val (.long q1), .second] [(.int z)] := by
    intro z hz
    have gq := c_lcmp q1 (100000000000 : Int64); have f9 : (100000000000 : Int64).toInt = 100000000000 := rfl
    have r9 := rng32 z
    refine go_lloadN 142 rfl d1_141 rfl ?_
    refine go_ldc2 (v := (100000000000 : Int64)) 145 rfl d1_142 (wd hw 16 rfl) ?_
    refine go_lcmp 146 rfl d1_145 rfl ?_
    refine go_if 153 149 rfl (by decide) rfl d1_146 rfl (fun (hc : (lcmpW q1 (100000000000 : Int64)).toInt < 0) => ?_) (fun (hc : ¬ ((lcmpW q1 (100000000000 : Int64)).toInt < 0)) => ?_)
    · refine go_iconst (0 : Int32) 154 rfl d1_153 rfl ?_
      refine go_iadd 155 rfl d1_154 rfl ?_
      rw [show z + (0 : Int32) = z from Int32.add_zero z]
      refine g11 z (Or.inr ⟨by omega, ?_⟩)
      rcases hz with ⟨h1, h2⟩ | ⟨_, h⟩
      · exact ⟨11, h1, by decide, (by have e : (10 : Nat) ^ 11 = 100000000000 := (by decide); omega), Or.inr (by have e : (10 : Nat) ^ (11 - 1) = 10000000000 := (by decide); omega)⟩
      · exact h
    · refine go_iconst (1 : Int32) 150 rfl d1_149 rfl ?_
      refine go_goto 154 (by decide) rfl d1_150 ?_
      refine go_iadd 155 rfl d1_154 rfl ?_
      refine g11 _ (Or.inl ⟨?_, by omega⟩)
      have s9 := c_iadd z 1; have o9 : (1 : Int32).toInt = 1 := rfl; have r8 := rng32 (z + 1)
      rcases hz with ⟨h1, h2⟩ | ⟨h1, _⟩
      · omega
      · omega
  have g9 : ∀ z : Int32, ((z.toInt = 10 ∧ 1000000000 ≤ q1.toInt) ∨ (q1.toInt < 1000000000 ∧ ∃ j : Nat, z.toInt = j ∧ Dg j q1.toInt.toNat)) → Go B1 Z a0 h0 (fun v ds' => ∃ (z : Int32) (j : Nat), v = some (.int z) ∧ ds' = ds ∧ z.toInt = j ∧ Dg j q1.toInt.toNat) 0 0 ds 127 #[.val (.long q1), .second] [(.int z)] := by
    intro z hz
    have gq := c_lcmp q1 (10000000000 : Int64); have f9 : (10000000000 : Int64).toInt = 10000000000 := rfl
    have r9 := rng32 z
    refine go_lloadN 128 rfl d1_127 rfl ?_
    refine go_ldc2 (v := (10000000000 : Int64)) 131 rfl d1_128 (wd hw 15 rfl) ?_
    refine go_lcmp 132 rfl d1_131 rfl ?_
    refine go_if 139 135 rfl (by decide) rfl d1_132 rfl (fun (hc : (lcmpW q1 (10000000000 : Int64)).toInt < 0) => ?_) (fun (hc : ¬ ((lcmpW q1 (10000000000 : Int64)).toInt < 0)) => ?_)
    · refine go_iconst (0 : Int32) 140 rfl d1_139 rfl ?_
      refine go_iadd 141 rfl d1_140 rfl ?_
      rw [show z + (0 : Int32) = z from Int32.add_zero z]
      refine g10 z (Or.inr ⟨by omega, ?_⟩)
      rcases hz with ⟨h1, h2⟩ | ⟨_, h⟩
      · exact ⟨10, h1, by decide, (by have e : (10 : Nat) ^ 10 = 10000000000 := (by decide); omega), Or.inr (by have e : (10 : Nat) ^ (10 - 1) = 1000000000 := (by decide); omega)⟩
      · exact h
    · refine go_iconst (1 : Int32) 136 rfl d1_135 rfl ?_
      refine go_goto 140 (by decide) rfl d1_136 ?_
      refine go_iadd 141 rfl d1_140 rfl ?_
      refine g10 _ (Or.inl ⟨?_, by omega⟩)
      have s9 := c_iadd z 1; have o9 : (1 : Int32).toInt = 1 := rfl; have r8 := rng32 (z + 1)
      rcases hz with ⟨h1, h2⟩ | ⟨h1, _⟩
      · omega
      · omega
  have g8 : ∀ z : Int32, ((z.toInt = 9 ∧ 100000000 ≤ q1.toInt) ∨ (q1.toInt < 100000000 ∧ ∃ j : Nat, z.toInt = j ∧ Dg j q1.toInt.toNat)) → Go B1 Z a0 h0 (fun v ds' => ∃ (z : Int32) (j : Nat), v = some (.int z) ∧ ds' = ds ∧ z.toInt = j ∧ Dg j q1.toInt.toNat) 0 0 ds 113 #[.val (.long q1), .second] [(.int z)] := by
    intro z hz
    have gq := c_lcmp q1 (1000000000 : Int64); have f9 : (1000000000 : Int64).toInt = 1000000000 := rfl
    have r9 := rng32 z
    refine go_lloadN 114 rfl d1_113 rfl ?_
    refine go_ldc2 (v := (1000000000 : Int64)) 117 rfl d1_114 (wd hw 14 rfl) ?_
    refine go_lcmp 118 rfl d1_117 rfl ?_
    refine go_if 125 121 rfl (by decide) rfl d1_118 rfl (fun (hc : (lcmpW q1 (1000000000 : Int64)).toInt < 0) => ?_) (fun (hc : ¬ ((lcmpW q1 (1000000000 : Int64)).toInt < 0)) => ?_)
    · refine go_iconst (0 : Int32) 126 rfl d1_125 rfl ?_
      refine go_iadd 127 rfl d1_126 rfl ?_
      rw [show z + (0 : Int32) = z from Int32.add_zero z]
      refine g9 z (Or.inr ⟨by omega, ?_⟩)
      rcases hz with ⟨h1, h2⟩ | ⟨_, h⟩
      · exact ⟨9, h1, by decide, (by have e : (10 : Nat) ^ 9 = 1000000000 := (by decide); omega), Or.inr (by have e : (10 : Nat) ^ (9 - 1) = 100000000 := (by decide); omega)⟩
      · exact h
    · refine go_iconst (1 : Int32) 122 rfl d1_121 rfl ?_
      refine go_goto 126 (by decide) rfl d1_122 ?_
      refine go_iadd 127 rfl d1_126 rfl ?_
      refine g9 _ (Or.inl ⟨?_, by omega⟩)
      have s9 := c_iadd z 1; have o9 : (1 : Int32).toInt = 1 := rfl; have r8 := rng32 (z + 1)
      rcases hz with ⟨h1, h2⟩ | ⟨h1, _⟩
      · omega
      · omega
  have g7 : ∀ z : Int32, ((z.toInt = 8 ∧ 10000000 ≤ q1.toInt) ∨ (q1.toInt < 10000000 ∧ ∃ j : Nat, z.toInt = j ∧ Dg j q1.toInt.toNat)) → Go B1 Z a0 h0 (fun v ds' => ∃ (z : Int32) (j : Nat), v = some (.int z) ∧ ds' = ds ∧ z.toInt = j ∧ Dg j q1.toInt.toNat) 0 0 ds 99 #[.val (.long q1), .second] [(.int z)] := by
    intro z hz
    have gq := c_lcmp q1 (100000000 : Int64); have f9 : (100000000 : Int64).toInt = 100000000 := rfl
    have r9 := rng32 z
    refine go_lloadN 100 rfl d1_99 rfl ?_
    refine go_ldc2 (v := (100000000 : Int64)) 103 rfl d1_100 (wd hw 13 rfl) ?_
    refine go_lcmp 104 rfl d1_103 rfl ?_
    refine go_if 111 107 rfl (by decide) rfl d1_104 rfl (fun (hc : (lcmpW q1 (100000000 : Int64)).toInt < 0) => ?_) (fun (hc : ¬ ((lcmpW q1 (100000000 : Int64)).toInt < 0)) => ?_)
    · refine go_iconst (0 : Int32) 112 rfl d1_111 rfl ?_
      refine go_iadd 113 rfl d1_112 rfl ?_
      rw [show z + (0 : Int32) = z from Int32.add_zero z]
      refine g8 z (Or.inr ⟨by omega, ?_⟩)
      rcases hz with ⟨h1, h2⟩ | ⟨_, h⟩
      · exact ⟨8, h1, by decide, (by have e : (10 : Nat) ^ 8 = 100000000 := (by decide); omega), Or.inr (by have e : (10 : Nat) ^ (8 - 1) = 10000000 := (by decide); omega)⟩
      · exact h
    · refine go_iconst (1 : Int32) 108 rfl d1_107 rfl ?_
      refine go_goto 112 (by decide) rfl d1_108 ?_
      refine go_iadd 113 rfl d1_112 rfl ?_
      refine g8 _ (Or.inl ⟨?_, by omega⟩)
      have s9 := c_iadd z 1; have o9 : (1 : Int32).toInt = 1 := rfl; have r8 := rng32 (z + 1)
      rcases hz with ⟨h1, h2⟩ | ⟨h1, _⟩
      · omega
      · omega
  have g6 : ∀ z : Int32, ((z.toInt = 7 ∧ 1000000 ≤ q1.toInt) ∨ (q1.toInt < 1000000 ∧ ∃ j : Nat, z.toInt = j ∧ Dg j q1.toInt.toNat)) → Go B1 Z a0 h0 (fun v ds' => ∃ (z : Int32) (j : Nat), v = some (.int z) ∧ ds' = ds ∧ z.toInt = j ∧ Dg j q1.toInt.toNat) 0 0 ds 85 #[.val (.long q1), .second] [(.int z)] := by
    intro z hz
    have gq := c_lcmp q1 (10000000 : Int64); have f9 : (10000000 : Int64).toInt = 10000000 := rfl
    have r9 := rng32 z
    refine go_lloadN 86 rfl d1_85 rfl ?_
    refine go_ldc2 (v := (10000000 : Int64)) 89 rfl d1_86 (wd hw 12 rfl) ?_
    refine go_lcmp 90 rfl d1_89 rfl ?_
    refine go_if 97 93 rfl (by decide) rfl d1_90 rfl (fun (hc : (lcmpW q1 (10000000 : Int64)).toInt < 0) => ?_) (fun (hc : ¬ ((lcmpW q1 (10000000 : Int64)).toInt < 0)) => ?_)
    · refine go_iconst (0 : Int32) 98 rfl d1_97 rfl ?_
      refine go_iadd 99 rfl d1_98 rfl ?_
      rw [show z + (0 : Int32) = z from Int32.add_zero z]
      refine g7 z (Or.inr ⟨by omega, ?_⟩)
      rcases hz with ⟨h1, h2⟩ | ⟨_, h⟩
      · exact ⟨7, h1, by decide, (by have e : (10 : Nat) ^ 7 = 10000000 := (by decide); omega), Or.inr (by have e : (10 : Nat) ^ (7 - 1) = 1000000 := (by decide); omega)⟩
      · exact h
    · refine go_iconst (1 : Int32) 94 rfl d1_93 rfl ?_
      refine go_goto 98 (by decide) rfl d1_94 ?_
      refine go_iadd 99 rfl d1_98 rfl ?_
      refine g7 _ (Or.inl ⟨?_, by omega⟩)
      have s9 := c_iadd z 1; have o9 : (1 : Int32).toInt = 1 := rfl; have r8 := rng32 (z + 1)
      rcases hz with ⟨h1, h2⟩ | ⟨h1, _⟩
      · omega
      · omega
  have g5 : ∀ z : Int32, ((z.toInt = 6 ∧ 100000 ≤ q1.toInt) ∨ (q1.toInt < 100000 ∧ ∃ j : Nat, z.toInt = j ∧ Dg j q1.toInt.toNat)) → Go B1 Z a0 h0 (fun v ds' => ∃ (z : Int32) (j : Nat), v = some (.int z) ∧ ds' = ds ∧ z.toInt = j ∧ Dg j q1.toInt.toNat) 0 0 ds 71 #[.val (.long q1), .second] [(.int z)] := by
    intro z hz
    have gq := c_lcmp q1 (1000000 : Int64); have f9 : (1000000 : Int64).toInt = 1000000 := rfl
    have r9 := rng32 z
    refine go_lloadN 72 rfl d1_71 rfl ?_
    refine go_ldc2 (v := (1000000 : Int64)) 75 rfl d1_72 (wd hw 11 rfl) ?_
    refine go_lcmp 76 rfl d1_75 rfl ?_
    refine go_if 83 79 rfl (by decide) rfl d1_76 rfl (fun (hc : (lcmpW q1 (1000000 : Int64)).toInt < 0) => ?_) (fun (hc : ¬ ((lcmpW q1 (1000000 : Int64)).toInt < 0)) => ?_)
    · refine go_iconst (0 : Int32) 84 rfl d1_83 rfl ?_
      refine go_iadd 85 rfl d1_84 rfl ?_
      rw [show z + (0 : Int32) = z from Int32.add_zero z]
      refine g6 z (Or.inr ⟨by omega, ?_⟩)
      rcases hz with ⟨h1, h2⟩ | ⟨_, h⟩
      · exact ⟨6, h1, by decide, (by have e : (10 : Nat) ^ 6 = 1000000 := (by decide); omega), Or.inr (by have e : (10 : Nat) ^ (6 - 1) = 100000 := (by decide); omega)⟩
      · exact h
    · refine go_iconst (1 : Int32) 80 rfl d1_79 rfl ?_
      refine go_goto 84 (by decide) rfl d1_80 ?_
      refine go_iadd 85 rfl d1_84 rfl ?_
      refine g6 _ (Or.inl ⟨?_, by omega⟩)
      have s9 := c_iadd z 1; have o9 : (1 : Int32).toInt = 1 := rfl; have r8 := rng32 (z + 1)
      rcases hz with ⟨h1, h2⟩ | ⟨h1, _⟩
      · omega
      · omega
  have g4 : ∀ z : Int32, ((z.toInt = 5 ∧ 10000 ≤ q1.toInt) ∨ (q1.toInt < 10000 ∧ ∃ j : Nat, z.toInt = j ∧ Dg j q1.toInt.toNat)) → Go B1 Z a0 h0 (fun v ds' => ∃ (z : Int32) (j : Nat), v = some (.int z) ∧ ds' = ds ∧ z.toInt = j ∧ Dg j q1.toInt.toNat) 0 0 ds 57 #[.val (.long q1), .second] [(.int z)] := by
    intro z hz
    have gq := c_lcmp q1 (100000 : Int64); have f9 : (100000 : Int64).toInt = 100000 := rfl
    have r9 := rng32 z
    refine go_lloadN 58 rfl d1_57 rfl ?_
    refine go_ldc2 (v := (100000 : Int64)) 61 rfl d1_58 (wd hw 10 rfl) ?_
    refine go_lcmp 62 rfl d1_61 rfl ?_
    refine go_if 69 65 rfl (by decide) rfl d1_62 rfl (fun (hc : (lcmpW q1 (100000 : Int64)).toInt < 0) => ?_) (fun (hc : ¬ ((lcmpW q1 (100000 : Int64)).toInt < 0)) => ?_)
    · refine go_iconst (0 : Int32) 70 rfl d1_69 rfl ?_
      refine go_iadd 71 rfl d1_70 rfl ?_
      rw [show z + (0 : Int32) = z from Int32.add_zero z]
      refine g5 z (Or.inr ⟨by omega, ?_⟩)
      rcases hz with ⟨h1, h2⟩ | ⟨_, h⟩
      · exact ⟨5, h1, by decide, (by have e : (10 : Nat) ^ 5 = 100000 := (by decide); omega), Or.inr (by have e : (10 : Nat) ^ (5 - 1) = 10000 := (by decide); omega)⟩
      · exact h
    · refine go_iconst (1 : Int32) 66 rfl d1_65 rfl ?_
      refine go_goto 70 (by decide) rfl d1_66 ?_
      refine go_iadd 71 rfl d1_70 rfl ?_
      refine g5 _ (Or.inl ⟨?_, by omega⟩)
      have s9 := c_iadd z 1; have o9 : (1 : Int32).toInt = 1 := rfl; have r8 := rng32 (z + 1)
      rcases hz with ⟨h1, h2⟩ | ⟨h1, _⟩
      · omega
      · omega
  have g3 : ∀ z : Int32, ((z.toInt = 4 ∧ 1000 ≤ q1.toInt) ∨ (q1.toInt < 1000 ∧ ∃ j : Nat, z.toInt = j ∧ Dg j q1.toInt.toNat)) → Go B1 Z a0 h0 (fun v ds' => ∃ (z : Int32) (j : Nat), v = some (.int z) ∧ ds' = ds ∧ z.toInt = j ∧ Dg j q1.toInt.toNat) 0 0 ds 43 #[.val (.long q1), .second] [(.int z)] := by
    intro z hz
    have gq := c_lcmp q1 (10000 : Int64); have f9 : (10000 : Int64).toInt = 10000 := rfl
    have r9 := rng32 z
    refine go_lloadN 44 rfl d1_43 rfl ?_
    refine go_ldc2 (v := (10000 : Int64)) 47 rfl d1_44 (wd hw 9 rfl) ?_
    refine go_lcmp 48 rfl d1_47 rfl ?_
    refine go_if 55 51 rfl (by decide) rfl d1_48 rfl (fun (hc : (lcmpW q1 (10000 : Int64)).toInt < 0) => ?_) (fun (hc : ¬ ((lcmpW q1 (10000 : Int64)).toInt < 0)) => ?_)
    · refine go_iconst (0 : Int32) 56 rfl d1_55 rfl ?_
      refine go_iadd 57 rfl d1_56 rfl ?_
      rw [show z + (0 : Int32) = z from Int32.add_zero z]
      refine g4 z (Or.inr ⟨by omega, ?_⟩)
      rcases hz with ⟨h1, h2⟩ | ⟨_, h⟩
      · exact ⟨4, h1, by decide, (by have e : (10 : Nat) ^ 4 = 10000 := (by decide); omega), Or.inr (by have e : (10 : Nat) ^ (4 - 1) = 1000 := (by decide); omega)⟩
      · exact h
    · refine go_iconst (1 : Int32) 52 rfl d1_51 rfl ?_
      refine go_goto 56 (by decide) rfl d1_52 ?_
      refine go_iadd 57 rfl d1_56 rfl ?_
      refine g4 _ (Or.inl ⟨?_, by omega⟩)
      have s9 := c_iadd z 1; have o9 : (1 : Int32).toInt = 1 := rfl; have r8 := rng32 (z + 1)
      rcases hz with ⟨h1, h2⟩ | ⟨h1, _⟩
      · omega
      · omega
  have g2 : ∀ z : Int32, ((z.toInt = 3 ∧ 100 ≤ q1.toInt) ∨ (q1.toInt < 100 ∧ ∃ j : Nat, z.toInt = j ∧ Dg j q1.toInt.toNat)) → Go B1 Z a0 h0 (fun v ds' => ∃ (z : Int32) (j : Nat), v = some (.int z) ∧ ds' = ds ∧ z.toInt = j ∧ Dg j q1.toInt.toNat) 0 0 ds 29 #[.val (.long q1), .second] [(.int z)] := by
    intro z hz
    have gq := c_lcmp q1 (1000 : Int64); have f9 : (1000 : Int64).toInt = 1000 := rfl
    have r9 := rng32 z
    refine go_lloadN 30 rfl d1_29 rfl ?_
    refine go_ldc2 (v := (1000 : Int64)) 33 rfl d1_30 (wd hw 8 rfl) ?_
    refine go_lcmp 34 rfl d1_33 rfl ?_
    refine go_if 41 37 rfl (by decide) rfl d1_34 rfl (fun (hc : (lcmpW q1 (1000 : Int64)).toInt < 0) => ?_) (fun (hc : ¬ ((lcmpW q1 (1000 : Int64)).toInt < 0)) => ?_)
    · refine go_iconst (0 : Int32) 42 rfl d1_41 rfl ?_
      refine go_iadd 43 rfl d1_42 rfl ?_
      rw [show z + (0 : Int32) = z from Int32.add_zero z]
      refine g3 z (Or.inr ⟨by omega, ?_⟩)
      rcases hz with ⟨h1, h2⟩ | ⟨_, h⟩
      · exact ⟨3, h1, by decide, (by have e : (10 : Nat) ^ 3 = 1000 := (by decide); omega), Or.inr (by have e : (10 : Nat) ^ (3 - 1) = 100 := (by decide); omega)⟩
      · exact h
    · refine go_iconst (1 : Int32) 38 rfl d1_37 rfl ?_
      refine go_goto 42 (by decide) rfl d1_38 ?_
      refine go_iadd 43 rfl d1_42 rfl ?_
      refine g3 _ (Or.inl ⟨?_, by omega⟩)
      have s9 := c_iadd z 1; have o9 : (1 : Int32).toInt = 1 := rfl; have r8 := rng32 (z + 1)
      rcases hz with ⟨h1, h2⟩ | ⟨h1, _⟩
      · omega
      · omega
  have g1 : ∀ z : Int32, ((z.toInt = 2 ∧ 10 ≤ q1.toInt) ∨ (q1.toInt < 10 ∧ ∃ j : Nat, z.toInt = j ∧ Dg j q1.toInt.toNat)) → Go B1 Z a0 h0 (fun v ds' => ∃ (z : Int32) (j : Nat), v = some (.int z) ∧ ds' = ds ∧ z.toInt = j ∧ Dg j q1.toInt.toNat) 0 0 ds 15 #[.val (.long q1), .second] [(.int z)] := by
    intro z hz
    have gq := c_lcmp q1 (100 : Int64); have f9 : (100 : Int64).toInt = 100 := rfl
    have r9 := rng32 z
    refine go_lloadN 16 rfl d1_15 rfl ?_
    refine go_ldc2 (v := (100 : Int64)) 19 rfl d1_16 (wd hw 7 rfl) ?_
    refine go_lcmp 20 rfl d1_19 rfl ?_
    refine go_if 27 23 rfl (by decide) rfl d1_20 rfl (fun (hc : (lcmpW q1 (100 : Int64)).toInt < 0) => ?_) (fun (hc : ¬ ((lcmpW q1 (100 : Int64)).toInt < 0)) => ?_)
    · refine go_iconst (0 : Int32) 28 rfl d1_27 rfl ?_
      refine go_iadd 29 rfl d1_28 rfl ?_
      rw [show z + (0 : Int32) = z from Int32.add_zero z]
      refine g2 z (Or.inr ⟨by omega, ?_⟩)
      rcases hz with ⟨h1, h2⟩ | ⟨_, h⟩
      · exact ⟨2, h1, by decide, (by have e : (10 : Nat) ^ 2 = 100 := (by decide); omega), Or.inr (by have e : (10 : Nat) ^ (2 - 1) = 10 := (by decide); omega)⟩
      · exact h
    · refine go_iconst (1 : Int32) 24 rfl d1_23 rfl ?_
      refine go_goto 28 (by decide) rfl d1_24 ?_
      refine go_iadd 29 rfl d1_28 rfl ?_
      refine g2 _ (Or.inl ⟨?_, by omega⟩)
      have s9 := c_iadd z 1; have o9 : (1 : Int32).toInt = 1 := rfl; have r8 := rng32 (z + 1)
      rcases hz with ⟨h1, h2⟩ | ⟨h1, _⟩
      · omega
      · omega
  have g0 : ∀ z : Int32, ((z.toInt = 1 ∧ 0 ≤ q1.toInt) ∨ (q1.toInt < 0 ∧ ∃ j : Nat, z.toInt = j ∧ Dg j q1.toInt.toNat)) → Go B1 Z a0 h0 (fun v ds' => ∃ (z : Int32) (j : Nat), v = some (.int z) ∧ ds' = ds ∧ z.toInt = j ∧ Dg j q1.toInt.toNat) 0 0 ds 1 #[.val (.long q1), .second] [(.int z)] := by
    intro z hz
    have gq := c_lcmp q1 (10 : Int64); have f9 : (10 : Int64).toInt = 10 := rfl
    have r9 := rng32 z
    refine go_lloadN 2 rfl d1_1 rfl ?_
    refine go_ldc2 (v := (10 : Int64)) 5 rfl d1_2 (wd hw 6 rfl) ?_
    refine go_lcmp 6 rfl d1_5 rfl ?_
    refine go_if 13 9 rfl (by decide) rfl d1_6 rfl (fun (hc : (lcmpW q1 (10 : Int64)).toInt < 0) => ?_) (fun (hc : ¬ ((lcmpW q1 (10 : Int64)).toInt < 0)) => ?_)
    · refine go_iconst (0 : Int32) 14 rfl d1_13 rfl ?_
      refine go_iadd 15 rfl d1_14 rfl ?_
      rw [show z + (0 : Int32) = z from Int32.add_zero z]
      refine g1 z (Or.inr ⟨by omega, ?_⟩)
      rcases hz with ⟨h1, h2⟩ | ⟨_, h⟩
      · exact ⟨1, h1, by decide, (by have e : (10 : Nat) ^ 1 = 10 := (by decide); omega), Or.inl rfl⟩
      · exact h
    · refine go_iconst (1 : Int32) 10 rfl d1_9 rfl ?_
      refine go_goto 14 (by decide) rfl d1_10 ?_
      refine go_iadd 15 rfl d1_14 rfl ?_
      refine g1 _ (Or.inl ⟨?_, by omega⟩)
      have s9 := c_iadd z 1; have o9 : (1 : Int32).toInt = 1 := rfl; have r8 := rng32 (z + 1)
      rcases hz with ⟨h1, h2⟩ | ⟨h1, _⟩
      · omega
      · omega
  show Go B1 Z a0 h0 _ 0 0 ds 0 #[.val (.long q1), .second] []
  refine go_iconst (1 : Int32) 1 rfl d1_0 rfl ?_
  exact g0 _ (Or.inl ⟨rfl, hq⟩)
theorem d2_41 : decode prog_19_method_16_code 41 = .ok (.lload 8, 2) := by decide +kernel
theorem d2_43 : decode prog_19_method_16_code 43 = .ok (.lconst 0, 1) := by decide +kernel
theorem d2_44 : decode prog_19_method_16_code 44 = .ok (.lcmp, 1) := by decide +kernel
theorem d2_45 : decode prog_19_method_16_code 45 = .ok (.ifCond .eq 17, 3) := by decide +kernel
theorem d2_62 : decode prog_19_method_16_code 62 = .ok (.iload 7, 2) := by decide +kernel
theorem d2_64 : decode prog_19_method_16_code 64 = .ok (.iconst 1, 1) := by decide +kernel
theorem d2_65 : decode prog_19_method_16_code 65 = .ok (.isub, 1) := by decide +kernel
theorem d2_66 : decode prog_19_method_16_code 66 = .ok (.istore 8, 2) := by decide +kernel
theorem pn2 : plainFor (⟨"com/example/cartonmark/cartonmark/pdf/PdfFile", "putWhole", "([BIJ)I"⟩ : MethodName) = true := by first | (apply plainFor_of_name; simp [plainName, overriddenIn]; done) | decide +kernel
theorem d2_48 : decode prog_19_method_16_code 48 = .ok (.iinc 7 1, 3) := by decide +kernel
theorem d2_51 : decode prog_19_method_16_code 51 = .ok (.lload 8, 2) := by decide +kernel
theorem d2_53 : decode prog_19_method_16_code 53 = .ok (.ldc2_w 205, 3) := by decide +kernel
theorem d2_56 : decode prog_19_method_16_code 56 = .ok (.ldiv, 1) := by decide +kernel
theorem d2_57 : decode prog_19_method_16_code 57 = .ok (.lstore 8, 2) := by decide +kernel
theorem d2_59 : decode prog_19_method_16_code 59 = .ok (.goto (-18), 3) := by decide +kernel
theorem d2_0 : decode prog_19_method_16_code 0 = .ok (.iload_n 1, 1) := by decide +kernel
theorem d2_1 : decode prog_19_method_16_code 1 = .ok (.istore 4, 2) := by decide +kernel
theorem d2_3 : decode prog_19_method_16_code 3 = .ok (.lload_n 2, 1) := by decide +kernel
theorem d2_4 : decode prog_19_method_16_code 4 = .ok (.lstore 5, 2) := by decide +kernel
theorem d2_6 : decode prog_19_method_16_code 6 = .ok (.lload 5, 2) := by decide +kernel
theorem d2_8 : decode prog_19_method_16_code 8 = .ok (.lconst 0, 1) := by decide +kernel
theorem d2_9 : decode prog_19_method_16_code 9 = .ok (.lcmp, 1) := by decide +kernel
theorem d2_10 : decode prog_19_method_16_code 10 = .ok (.ifCond .ge 17, 3) := by decide +kernel
theorem d2_13 : decode prog_19_method_16_code 13 = .ok (.aload_n 0, 1) := by decide +kernel
theorem d2_14 : decode prog_19_method_16_code 14 = .ok (.iload 4, 2) := by decide +kernel
theorem d2_16 : decode prog_19_method_16_code 16 = .ok (.iinc 4 1, 3) := by decide +kernel
theorem d2_19 : decode prog_19_method_16_code 19 = .ok (.bipush 45, 2) := by decide +kernel
theorem d2_21 : decode prog_19_method_16_code 21 = .ok (.bastore, 1) := by decide +kernel
theorem d2_22 : decode prog_19_method_16_code 22 = .ok (.lload 5, 2) := by decide +kernel
theorem d2_24 : decode prog_19_method_16_code 24 = .ok (.lneg, 1) := by decide +kernel
theorem d2_25 : decode prog_19_method_16_code 25 = .ok (.lstore 5, 2) := by decide +kernel
theorem d2_27 : decode prog_19_method_16_code 27 = .ok (.iload 4, 2) := by decide +kernel
theorem d2_29 : decode prog_19_method_16_code 29 = .ok (.iconst 1, 1) := by decide +kernel
theorem d2_30 : decode prog_19_method_16_code 30 = .ok (.iadd, 1) := by decide +kernel
theorem d2_31 : decode prog_19_method_16_code 31 = .ok (.istore 7, 2) := by decide +kernel
theorem d2_33 : decode prog_19_method_16_code 33 = .ok (.lload 5, 2) := by decide +kernel
theorem d2_35 : decode prog_19_method_16_code 35 = .ok (.ldc2_w 205, 3) := by decide +kernel
theorem d2_38 : decode prog_19_method_16_code 38 = .ok (.ldiv, 1) := by decide +kernel
theorem d2_39 : decode prog_19_method_16_code 39 = .ok (.lstore 8, 2) := by decide +kernel
theorem d2_68 : decode prog_19_method_16_code 68 = .ok (.iload 8, 2) := by decide +kernel
theorem d2_70 : decode prog_19_method_16_code 70 = .ok (.iload 4, 2) := by decide +kernel
theorem d2_72 : decode prog_19_method_16_code 72 = .ok (.if_icmp .lt 33, 3) := by decide +kernel
theorem d2_75 : decode prog_19_method_16_code 75 = .ok (.aload_n 0, 1) := by decide +kernel
theorem d2_76 : decode prog_19_method_16_code 76 = .ok (.iload 8, 2) := by decide +kernel
theorem d2_78 : decode prog_19_method_16_code 78 = .ok (.ldc2_w 207, 3) := by decide +kernel
theorem d2_81 : decode prog_19_method_16_code 81 = .ok (.lload 5, 2) := by decide +kernel
theorem d2_83 : decode prog_19_method_16_code 83 = .ok (.ldc2_w 205, 3) := by decide +kernel
theorem d2_86 : decode prog_19_method_16_code 86 = .ok (.lrem, 1) := by decide +kernel
theorem d2_87 : decode prog_19_method_16_code 87 = .ok (.ladd, 1) := by decide +kernel
theorem d2_88 : decode prog_19_method_16_code 88 = .ok (.l2i, 1) := by decide +kernel
theorem d2_89 : decode prog_19_method_16_code 89 = .ok (.i2b, 1) := by decide +kernel
theorem d2_90 : decode prog_19_method_16_code 90 = .ok (.bastore, 1) := by decide +kernel
theorem d2_91 : decode prog_19_method_16_code 91 = .ok (.lload 5, 2) := by decide +kernel
theorem d2_93 : decode prog_19_method_16_code 93 = .ok (.ldc2_w 205, 3) := by decide +kernel
theorem d2_96 : decode prog_19_method_16_code 96 = .ok (.ldiv, 1) := by decide +kernel
theorem d2_97 : decode prog_19_method_16_code 97 = .ok (.lstore 5, 2) := by decide +kernel
theorem d2_99 : decode prog_19_method_16_code 99 = .ok (.iinc 8 (-1), 3) := by decide +kernel
theorem d2_102 : decode prog_19_method_16_code 102 = .ok (.goto (-34), 3) := by decide +kernel
theorem d2_105 : decode prog_19_method_16_code 105 = .ok (.iload 7, 2) := by decide +kernel
theorem d2_107 : decode prog_19_method_16_code 107 = .ok (.ireturn, 1) := by decide +kernel
def B2 : Bdy := (⟨"com/example/cartonmark/cartonmark/pdf/PdfFile", "putWhole", "([BIJ)I"⟩, prog_19_method_16_code, 10, (some .int), ({ frames := 0, cells := 0, slots := 0, locals := 0 } : Room))
set_option maxRecDepth 65536 in
set_option maxHeartbeats 4000000 in
theorem lp2 (Z : State) (a0 : Array Value) (hw : ∀ d ∈ tables_1, d.before a0 Z = true) (h0 : Heap) (a1 : Addr) (p1 : Int32) (q0 : Int64) (p2 : Int32) (f0 : Nat → Int32) (N s : Nat) (hs : p2.toInt = s) (hs8 : s ≤ 8) (hN : N < 10 ^ 19) (p4 : Int32) (j : Nat) (he : p4.toInt = s + j) (hD : Dg j N) (hj : j ≤ 19) : ∀ (m : Nat) (p5 : Int32) (q3 : Int64), m ≤ j → p5.toInt = (s : Int) + m - 1 → q3.toInt = ((N / 10 ^ (j - m) : Nat) : Int) →
    Go B2 Z a0 h0 (fun v ds' => ∃ (e : Int32) (j : Nat), v = some (.int e) ∧ e.toInt = s + j ∧ Dg j N ∧ ds' = [ar a1 .byte (tab (Wf N s j f0 0))]) 0 0 [ar a1 .byte (tab (Wf N s j f0 m))] 68 #[.val (.ref a1), .val (.int p1), .val (.long q0), .second, .val (.int p2), .val (.long q3), .second, .val (.int p4), .val (.int p5), .unset] [] := by
  intro m
  induction m with
  | zero =>
    intro p5 q3 hm h1 h2
    refine go_iload 70 rfl d2_68 rfl ?_
    refine go_iload 72 rfl d2_70 rfl ?_
    refine go_icmp 105 75 rfl (by decide) rfl d2_72 rfl (fun (hc : p5.toInt < p2.toInt) => ?_) (fun (hc : ¬ (p5.toInt < p2.toInt)) => absurd hc (by omega))
    refine go_iload 107 rfl d2_105 rfl ?_
    exact go_ireturn d2_107 rfl (Or.inl rfl) rfl rfl (by decide) (by decide) ⟨_, j, rfl, he, hD, rfl⟩
  | succ m ih =>
    intro p5 q3 hm h1 h2
    refine go_iload 70 rfl d2_68 rfl ?_
    refine go_iload 72 rfl d2_70 rfl ?_
    refine go_icmp 105 75 rfl (by decide) rfl d2_72 rfl (fun (hc : p5.toInt < p2.toInt) => absurd hc (by omega)) (fun (hc : ¬ (p5.toInt < p2.toInt)) => ?_)
    refine go_aloadN 76 rfl d2_75 rfl rfl ?_
    refine go_iload 78 rfl d2_76 rfl ?_
    refine go_ldc2 (v := (48 : Int64)) 81 rfl d2_78 (wd hw 29 rfl) ?_
    refine go_lload 83 rfl d2_81 rfl ?_
    refine go_ldc2 (v := (10 : Int64)) 86 rfl d2_83 (wd hw 28 rfl) ?_
    refine go_lrem 87 rfl d2_86 rfl (by decide) ?_
    refine go_ladd 88 rfl d2_87 rfl ?_
    refine go_l2i 89 rfl d2_88 rfl ?_
    refine go_i2b 90 rfl d2_89 rfl ?_
    have hq3 : 0 ≤ q3.toInt := by rw [h2]; exact Int.natCast_nonneg _
    have ix : p5.toNatClampNeg = s + m := by simp only [Int32.toNatClampNeg]; omega
    have n5 : ¬ p5 < 0 := by rw [Int32.lt_iff_toInt_lt]; have : (0 : Int32).toInt = 0 := rfl; omega
    refine go_bastore 0 91 rfl d2_90 rfl rfl n5 (by rw [tab_len, ix]; omega) ?_
    have hv : nar .byte ((((48 : Int64) + (q3 % (10 : Int64))).toInt32).toInt8.toInt32) = dgI N s j (s + m) := by
      apply Int32.toInt_inj.mp
      rw [dgI_toInt, byte48 q3 hq3, h2, show s + j - 1 - (s + m) = j - (m + 1) by omega]
      rfl
    rw [ix, hv, tab_set, Wf_step N s j f0 m hm]
    show Go B2 Z a0 h0 _ 0 0 [ar a1 .byte (tab (Wf N s j f0 m))] 91 #[.val (.ref a1), .val (.int p1), .val (.long q0), .second, .val (.int p2), .val (.long q3), .second, .val (.int p4), .val (.int p5), .unset] []
    refine go_lload 93 rfl d2_91 rfl ?_
    refine go_ldc2 (v := (10 : Int64)) 96 rfl d2_93 (wd hw 28 rfl) ?_
    refine go_ldiv 97 rfl d2_96 rfl (by decide) ?_
    refine go_lstore #[.val (.ref a1), .val (.int p1), .val (.long q0), .second, .val (.int p2), .val (.long (q3 / (10 : Int64))), .second, .val (.int p4), .val (.int p5), .unset] 99 rfl d2_97 rfl rfl ?_
    refine go_iinc #[.val (.ref a1), .val (.int p1), .val (.long q0), .second, .val (.int p2), .val (.long (q3 / (10 : Int64))), .second, .val (.int p4), .val (.int (p5 + (-1 : Int32))), .unset] 102 rfl d2_99 rfl rfl ?_
    refine go_goto 68 (by decide) rfl d2_102 ?_
    refine ih _ _ (by omega) ?_ ?_
    · exact pred1 p5 s m h1 (by omega)
    · rw [ldiv10 q3 hq3, h2, natdiv, show j - (m + 1) + 1 = j - m by omega]
set_option maxRecDepth 65536 in
set_option maxHeartbeats 4000000 in
theorem lp1 (Z : State) (a0 : Array Value) (hw : ∀ d ∈ tables_1, d.before a0 Z = true) (h0 : Heap) (a1 : Addr) (p1 : Int32) (q0 : Int64) (p2 : Int32) (f0 : Nat → Int32) (N s : Nat) (hs : p2.toInt = s) (hs8 : s ≤ 8) (hN : N < 10 ^ 19) (q3 : Int64) (hq3 : q3.toInt = N) : ∀ (m j : Nat) (p4 : Int32) (q5 : Int64), j + m = 19 → 1 ≤ j → p4.toInt = s + j → q5.toInt = ((N / 10 ^ j : Nat) : Int) → (j = 1 ∨ 10 ^ (j - 1) ≤ N) →
    Go B2 Z a0 h0 (fun v ds' => ∃ (e : Int32) (j : Nat), v = some (.int e) ∧ e.toInt = s + j ∧ Dg j N ∧ ds' = [ar a1 .byte (tab (Wf N s j f0 0))]) 0 0 [ar a1 .byte (tab f0)] 41 #[.val (.ref a1), .val (.int p1), .val (.long q0), .second, .val (.int p2), .val (.long q3), .second, .val (.int p4), .val (.long q5), .second] [] := by
  intro m
  induction m with
  | zero =>
    intro j p4 q5 hm hj1 he h5 hp
    have h9 := c_lcmp q5 0
    have e0 : (0 : Int64).toInt = 0 := rfl
    have hz : N / 10 ^ j = 0 := Nat.div_eq_of_lt (by rw [show j = 19 by omega]; exact hN)
    refine go_lload 43 rfl d2_41 rfl ?_
    refine go_lconst (0 : Int64) 44 rfl d2_43 rfl ?_
    refine go_lcmp 45 rfl d2_44 rfl ?_
    refine go_if 62 48 rfl (by decide) rfl d2_45 rfl (fun (hc : (lcmpW q5 (0 : Int64)).toInt = 0) => ?_) (fun (hc : ¬ ((lcmpW q5 (0 : Int64)).toInt = 0)) => absurd hc (by omega))
    have hD : Dg j N := ⟨hj1, (by
      have q0 : N / 10 ^ j = 0 := by omega
      rcases Nat.div_eq_zero_iff.mp q0 with h | h
      · exact absurd h (Nat.pos_iff_ne_zero.mp (Nat.pow_pos (by decide)))
      · exact h), hp⟩
    refine go_iload 64 rfl d2_62 rfl ?_
    refine go_iconst (1 : Int32) 65 rfl d2_64 rfl ?_
    refine go_isub 66 rfl d2_65 rfl ?_
    refine go_istore #[.val (.ref a1), .val (.int p1), .val (.long q0), .second, .val (.int p2), .val (.long q3), .second, .val (.int p4), .val (.int (p4 - (1 : Int32))), .unset] 68 rfl d2_66 rfl rfl ?_
    have W0 : [ar a1 .byte (tab f0)] = [ar a1 .byte (tab (Wf N s j f0 j))] := by rw [Wf_top]
    rw [W0]
    refine lp2 Z a0 hw h0 a1 p1 q0 p2 f0 N s hs hs8 hN p4 j he hD (by omega) j _ q3 (Nat.le_refl _) ?_ (by rw [hq3, Nat.sub_self, Nat.pow_zero, Nat.div_one])
    have a := c_isub p4 1; have b := rng32 (p4 - 1); have e : (1 : Int32).toInt = 1 := rfl; omega
  | succ m ih =>
    intro j p4 q5 hm hj1 he h5 hp
    have h9 := c_lcmp q5 0
    have e0 : (0 : Int64).toInt = 0 := rfl
    refine go_lload 43 rfl d2_41 rfl ?_
    refine go_lconst (0 : Int64) 44 rfl d2_43 rfl ?_
    refine go_lcmp 45 rfl d2_44 rfl ?_
    refine go_if 62 48 rfl (by decide) rfl d2_45 rfl (fun (hc : (lcmpW q5 (0 : Int64)).toInt = 0) => ?_) (fun (hc : ¬ ((lcmpW q5 (0 : Int64)).toInt = 0)) => ?_)
    · have hD : Dg j N := ⟨hj1, (by
        have q0 : N / 10 ^ j = 0 := by omega
        rcases Nat.div_eq_zero_iff.mp q0 with h | h
        · exact absurd h (Nat.pos_iff_ne_zero.mp (Nat.pow_pos (by decide)))
        · exact h), hp⟩
      refine go_iload 64 rfl d2_62 rfl ?_
      refine go_iconst (1 : Int32) 65 rfl d2_64 rfl ?_
      refine go_isub 66 rfl d2_65 rfl ?_
      refine go_istore #[.val (.ref a1), .val (.int p1), .val (.long q0), .second, .val (.int p2), .val (.long q3), .second, .val (.int p4), .val (.int (p4 - (1 : Int32))), .unset] 68 rfl d2_66 rfl rfl ?_
      have W0 : [ar a1 .byte (tab f0)] = [ar a1 .byte (tab (Wf N s j f0 j))] := by rw [Wf_top]
      rw [W0]
      refine lp2 Z a0 hw h0 a1 p1 q0 p2 f0 N s hs hs8 hN p4 j he hD (by omega) j _ q3 (Nat.le_refl _) ?_ (by rw [hq3, Nat.sub_self, Nat.pow_zero, Nat.div_one])
      have a := c_isub p4 1; have b := rng32 (p4 - 1); have e : (1 : Int32).toInt = 1 := rfl; omega
    · refine go_iinc #[.val (.ref a1), .val (.int p1), .val (.long q0), .second, .val (.int p2), .val (.long q3), .second, .val (.int (p4 + (1 : Int32))), .val (.long q5), .second] 51 rfl d2_48 rfl rfl ?_
      refine go_lload 53 rfl d2_51 rfl ?_
      refine go_ldc2 (v := (10 : Int64)) 56 rfl d2_53 (wd hw 28 rfl) ?_
      refine go_ldiv 57 rfl d2_56 rfl (by decide) ?_
      refine go_lstore #[.val (.ref a1), .val (.int p1), .val (.long q0), .second, .val (.int p2), .val (.long q3), .second, .val (.int (p4 + (1 : Int32))), .val (.long (q5 / (10 : Int64))), .second] 59 rfl d2_57 rfl rfl ?_
      refine go_goto 41 (by decide) rfl d2_59 ?_
      have p5 : 0 ≤ q5.toInt := by rw [h5]; exact Int.natCast_nonneg _
      refine ih (j + 1) _ _ (by omega) (by omega) ?_ ?_ (Or.inr ?_)
      · have a := c_iadd p4 1; have b := rng32 (p4 + 1); have e : (1 : Int32).toInt = 1 := rfl; omega
      · rw [ldiv10 q5 p5, h5, natdiv]
      · have h6 : N / 10 ^ j ≠ 0 := by omega
        rw [Nat.add_sub_cancel]
        exact Nat.le_of_not_lt fun q => h6 (Nat.div_eq_of_lt q)
set_option maxRecDepth 65536 in
set_option maxHeartbeats 4000000 in
theorem m_putN (Z : State) (a0 : Array Value) (hw : ∀ d ∈ tables_1, d.before a0 Z = true) (h0 : Heap) (a1 : Addr) (p1 : Int32) (q0 : Int64) (g0 : Nat → Int32) (hp1 : 0 ≤ p1.toInt ∧ p1.toInt ≤ 7) (hq : q0.toInt < 0) (hm : q0.toInt ≠ -9223372036854775808) :
    Met B2 Z a0 h0 #[(.ref a1), (.int p1), (.long q0)] [ar a1 .byte (tab g0)] (fun v ds' => ∃ (e : Int32) (j : Nat), v = some (.int e) ∧ e.toInt = (p1 + (1 : Int32)).toInt.toNat + j ∧ Dg j (-q0).toInt.toNat ∧ ds' = [ar a1 .byte (tab (Wf (-q0).toInt.toNat (p1 + (1 : Int32)).toInt.toNat j (fun i => if i = p1.toInt.toNat then (45 : Int32) else g0 i) 0))]) := by
  refine Met.of pn2 (ls := #[.val (.ref a1), .val (.int p1), .val (.long q0), .second, .unset, .unset, .unset, .unset, .unset, .unset]) (fun m => by first | (simp [entryFrame, mkF, argsToLocals, Value.category, B2]; done) | rfl) ?_
  show Go B2 Z a0 h0 _ 0 0 [ar a1 .byte (tab g0)] 0 #[.val (.ref a1), .val (.int p1), .val (.long q0), .second, .unset, .unset, .unset, .unset, .unset, .unset] []
  have h9 := c_lcmp q0 0
  have e0 : (0 : Int64).toInt = 0 := rfl
  have k1 := rng64 q0; have k2 := c_lneg q0; have k3 := rng64 (-q0); have k4 := c_iadd p1 1; have k5 := rng32 (p1 + 1); have k6 : (1 : Int32).toInt = 1 := rfl
  refine go_iloadN 1 rfl d2_0 rfl ?_
  refine go_istore #[.val (.ref a1), .val (.int p1), .val (.long q0), .second, .val (.int p1), .unset, .unset, .unset, .unset, .unset] 3 rfl d2_1 rfl rfl ?_
  refine go_lloadN 4 rfl d2_3 rfl ?_
  refine go_lstore #[.val (.ref a1), .val (.int p1), .val (.long q0), .second, .val (.int p1), .val (.long q0), .second, .unset, .unset, .unset] 6 rfl d2_4 rfl rfl ?_
  refine go_lload 8 rfl d2_6 rfl ?_
  refine go_lconst (0 : Int64) 9 rfl d2_8 rfl ?_
  refine go_lcmp 10 rfl d2_9 rfl ?_
  refine go_if 27 13 rfl (by decide) rfl d2_10 rfl (fun (hc : 0 ≤ (lcmpW q0 (0 : Int64)).toInt) => absurd hc (by omega)) (fun (hc : ¬ (0 ≤ (lcmpW q0 (0 : Int64)).toInt)) => ?_)
  refine go_aloadN 14 rfl d2_13 rfl rfl ?_
  refine go_iload 16 rfl d2_14 rfl ?_
  refine go_iinc #[.val (.ref a1), .val (.int p1), .val (.long q0), .second, .val (.int (p1 + (1 : Int32))), .val (.long q0), .second, .unset, .unset, .unset] 19 rfl d2_16 rfl rfl ?_
  refine go_bipush (45 : Int32) 21 rfl d2_19 rfl ?_
  have n5 : ¬ p1 < 0 := by rw [Int32.lt_iff_toInt_lt]; have : (0 : Int32).toInt = 0 := rfl; omega
  have ix : p1.toNatClampNeg = p1.toInt.toNat := rfl
  refine go_bastore 0 22 rfl d2_21 rfl rfl n5 (by rw [tab_len, ix]; omega) ?_
  rw [ix, show nar .byte (45 : Int32) = 45 from rfl, tab_set]
  show Go B2 Z a0 h0 _ 0 0 [ar a1 .byte (tab (fun i => if i = p1.toInt.toNat then (45 : Int32) else g0 i))] 22 #[.val (.ref a1), .val (.int p1), .val (.long q0), .second, .val (.int (p1 + (1 : Int32))), .val (.long q0), .second, .unset, .unset, .unset] []
  refine go_lload 24 rfl d2_22 rfl ?_
  refine go_lneg 25 rfl d2_24 rfl ?_
  refine go_lstore #[.val (.ref a1), .val (.int p1), .val (.long q0), .second, .val (.int (p1 + (1 : Int32))), .val (.long (-q0)), .second, .unset, .unset, .unset] 27 rfl d2_25 rfl rfl ?_
  refine go_iload 29 rfl d2_27 rfl ?_
  refine go_iconst (1 : Int32) 30 rfl d2_29 rfl ?_
  refine go_iadd 31 rfl d2_30 rfl ?_
  refine go_istore #[.val (.ref a1), .val (.int p1), .val (.long q0), .second, .val (.int (p1 + (1 : Int32))), .val (.long (-q0)), .second, .val (.int ((p1 + (1 : Int32)) + (1 : Int32))), .unset, .unset] 33 rfl d2_31 rfl rfl ?_
  refine go_lload 35 rfl d2_33 rfl ?_
  refine go_ldc2 (v := (10 : Int64)) 38 rfl d2_35 (wd hw 28 rfl) ?_
  refine go_ldiv 39 rfl d2_38 rfl (by decide) ?_
  refine go_lstore #[.val (.ref a1), .val (.int p1), .val (.long q0), .second, .val (.int (p1 + (1 : Int32))), .val (.long (-q0)), .second, .val (.int ((p1 + (1 : Int32)) + (1 : Int32))), .val (.long ((-q0) / (10 : Int64))), .second] 41 rfl d2_39 rfl rfl ?_
  have hr : (-q0).toInt = ((-q0).toInt.toNat : Int) := by
    have a := c_lneg q0; have b := rng64 (-q0); omega
  have hs : (p1 + (1 : Int32)).toInt = (((p1 + (1 : Int32)).toInt.toNat : Nat) : Int) := by
    have a := c_iadd p1 1; have b := rng32 (p1 + 1); have e : (1 : Int32).toInt = 1 := rfl; omega
  refine lp1 Z a0 hw h0 a1 p1 q0 (p1 + (1 : Int32)) _ (-q0).toInt.toNat (p1 + (1 : Int32)).toInt.toNat hs (by have a := c_iadd p1 1; have b := rng32 (p1 + 1); have e : (1 : Int32).toInt = 1 := rfl; omega) (big19 (-q0) (by omega)) (-q0) hr 18 1 _ _ rfl (Nat.le_refl _) ?_ ?_ (Or.inl rfl)
  · have a := c_iadd (p1 + (1 : Int32)) 1; have b := rng32 ((p1 + (1 : Int32)) + 1); have e : (1 : Int32).toInt = 1 := rfl; omega
  · rw [ldiv10 (-q0) (by omega), hr, Nat.pow_one]; rfl
set_option maxRecDepth 65536 in
set_option maxHeartbeats 4000000 in
theorem m_putP (Z : State) (a0 : Array Value) (hw : ∀ d ∈ tables_1, d.before a0 Z = true) (h0 : Heap) (a1 : Addr) (p1 : Int32) (q0 : Int64) (g0 : Nat → Int32) (hp1 : 0 ≤ p1.toInt ∧ p1.toInt ≤ 7) (hq : 0 ≤ q0.toInt) :
    Met B2 Z a0 h0 #[(.ref a1), (.int p1), (.long q0)] [ar a1 .byte (tab g0)] (fun v ds' => ∃ (e : Int32) (j : Nat), v = some (.int e) ∧ e.toInt = p1.toInt.toNat + j ∧ Dg j q0.toInt.toNat ∧ ds' = [ar a1 .byte (tab (Wf q0.toInt.toNat p1.toInt.toNat j g0 0))]) := by
  refine Met.of pn2 (ls := #[.val (.ref a1), .val (.int p1), .val (.long q0), .second, .unset, .unset, .unset, .unset, .unset, .unset]) (fun m => by first | (simp [entryFrame, mkF, argsToLocals, Value.category, B2]; done) | rfl) ?_
  show Go B2 Z a0 h0 _ 0 0 [ar a1 .byte (tab g0)] 0 #[.val (.ref a1), .val (.int p1), .val (.long q0), .second, .unset, .unset, .unset, .unset, .unset, .unset] []
  have h9 := c_lcmp q0 0
  have e0 : (0 : Int64).toInt = 0 := rfl
  have k1 := rng64 q0; have k2 := c_lneg q0; have k3 := rng64 (-q0); have k4 := c_iadd p1 1; have k5 := rng32 (p1 + 1); have k6 : (1 : Int32).toInt = 1 := rfl
  refine go_iloadN 1 rfl d2_0 rfl ?_
  refine go_istore #[.val (.ref a1), .val (.int p1), .val (.long q0), .second, .val (.int p1), .unset, .unset, .unset, .unset, .unset] 3 rfl d2_1 rfl rfl ?_
  refine go_lloadN 4 rfl d2_3 rfl ?_
  refine go_lstore #[.val (.ref a1), .val (.int p1), .val (.long q0), .second, .val (.int p1), .val (.long q0), .second, .unset, .unset, .unset] 6 rfl d2_4 rfl rfl ?_
  refine go_lload 8 rfl d2_6 rfl ?_
  refine go_lconst (0 : Int64) 9 rfl d2_8 rfl ?_
  refine go_lcmp 10 rfl d2_9 rfl ?_
  refine go_if 27 13 rfl (by decide) rfl d2_10 rfl (fun (hc : 0 ≤ (lcmpW q0 (0 : Int64)).toInt) => ?_) (fun (hc : ¬ (0 ≤ (lcmpW q0 (0 : Int64)).toInt)) => absurd hc (by omega))
  refine go_iload 29 rfl d2_27 rfl ?_
  refine go_iconst (1 : Int32) 30 rfl d2_29 rfl ?_
  refine go_iadd 31 rfl d2_30 rfl ?_
  refine go_istore #[.val (.ref a1), .val (.int p1), .val (.long q0), .second, .val (.int p1), .val (.long q0), .second, .val (.int (p1 + (1 : Int32))), .unset, .unset] 33 rfl d2_31 rfl rfl ?_
  refine go_lload 35 rfl d2_33 rfl ?_
  refine go_ldc2 (v := (10 : Int64)) 38 rfl d2_35 (wd hw 28 rfl) ?_
  refine go_ldiv 39 rfl d2_38 rfl (by decide) ?_
  refine go_lstore #[.val (.ref a1), .val (.int p1), .val (.long q0), .second, .val (.int p1), .val (.long q0), .second, .val (.int (p1 + (1 : Int32))), .val (.long (q0 / (10 : Int64))), .second] 41 rfl d2_39 rfl rfl ?_
  have hr : q0.toInt = (q0.toInt.toNat : Int) := by
    omega
  have hs : p1.toInt = ((p1.toInt.toNat : Nat) : Int) := by
    omega
  refine lp1 Z a0 hw h0 a1 p1 q0 p1 _ q0.toInt.toNat p1.toInt.toNat hs (by omega) (big19 q0 (by omega)) q0 hr 18 1 _ _ rfl (Nat.le_refl _) ?_ ?_ (Or.inl rfl)
  · have a := c_iadd p1 1; have b := rng32 (p1 + 1); have e : (1 : Int32).toInt = 1 := rfl; omega
  · rw [ldiv10 q0 (by omega), hr, Nat.pow_one]; rfl
theorem pow19 (i : Nat) (h : i ≤ 18) : ∃ P : Int64, ([(.long (1 : Int64)), (.long (10 : Int64)), (.long (100 : Int64)), (.long (1000 : Int64)), (.long (10000 : Int64)), (.long (100000 : Int64)), (.long (1000000 : Int64)), (.long (10000000 : Int64)), (.long (100000000 : Int64)), (.long (1000000000 : Int64)), (.long (10000000000 : Int64)), (.long (100000000000 : Int64)), (.long (1000000000000 : Int64)), (.long (10000000000000 : Int64)), (.long (100000000000000 : Int64)), (.long (1000000000000000 : Int64)), (.long (10000000000000000 : Int64)), (.long (100000000000000000 : Int64)), (.long (1000000000000000000 : Int64))] : List Value)[i]? = some (.long P) ∧ P.toInt = ((10 ^ i : Nat) : Int) := by
  have : i = 0 ∨ i = 1 ∨ i = 2 ∨ i = 3 ∨ i = 4 ∨ i = 5 ∨ i = 6 ∨ i = 7 ∨ i = 8 ∨ i = 9 ∨ i = 10 ∨ i = 11 ∨ i = 12 ∨ i = 13 ∨ i = 14 ∨ i = 15 ∨ i = 16 ∨ i = 17 ∨ i = 18 := by omega
  rcases this with rfl | rfl | rfl | rfl | rfl | rfl | rfl | rfl | rfl | rfl | rfl | rfl | rfl | rfl | rfl | rfl | rfl | rfl | rfl
  · exact ⟨1, rfl, by decide⟩
  · exact ⟨10, rfl, by decide⟩
  · exact ⟨100, rfl, by decide⟩
  · exact ⟨1000, rfl, by decide⟩
  · exact ⟨10000, rfl, by decide⟩
  · exact ⟨100000, rfl, by decide⟩
  · exact ⟨1000000, rfl, by decide⟩
  · exact ⟨10000000, rfl, by decide⟩
  · exact ⟨100000000, rfl, by decide⟩
  · exact ⟨1000000000, rfl, by decide⟩
  · exact ⟨10000000000, rfl, by decide⟩
  · exact ⟨100000000000, rfl, by decide⟩
  · exact ⟨1000000000000, rfl, by decide⟩
  · exact ⟨10000000000000, rfl, by decide⟩
  · exact ⟨100000000000000, rfl, by decide⟩
  · exact ⟨1000000000000000, rfl, by decide⟩
  · exact ⟨10000000000000000, rfl, by decide⟩
  · exact ⟨100000000000000000, rfl, by decide⟩
  · exact ⟨1000000000000000000, rfl, by decide⟩
theorem d3_0 : decode method_2_code 0 = .ok (.bipush 19, 2) := by decide +kernel
theorem d3_2 : decode method_2_code 2 = .ok (.newarray .long, 2) := by decide +kernel
theorem d3_4 : decode method_2_code 4 = .ok (.dup, 1) := by decide +kernel
theorem d3_5 : decode method_2_code 5 = .ok (.iconst 0, 1) := by decide +kernel
theorem d3_6 : decode method_2_code 6 = .ok (.lconst 1, 1) := by decide +kernel
theorem d3_7 : decode method_2_code 7 = .ok (.lastore, 1) := by decide +kernel
theorem d3_8 : decode method_2_code 8 = .ok (.dup, 1) := by decide +kernel
theorem d3_9 : decode method_2_code 9 = .ok (.iconst 1, 1) := by decide +kernel
theorem d3_10 : decode method_2_code 10 = .ok (.ldc2_w 7, 3) := by decide +kernel
theorem d3_13 : decode method_2_code 13 = .ok (.lastore, 1) := by decide +kernel
theorem d3_14 : decode method_2_code 14 = .ok (.dup, 1) := by decide +kernel
theorem d3_15 : decode method_2_code 15 = .ok (.iconst 2, 1) := by decide +kernel
theorem d3_16 : decode method_2_code 16 = .ok (.ldc2_w 9, 3) := by decide +kernel
theorem d3_19 : decode method_2_code 19 = .ok (.lastore, 1) := by decide +kernel
theorem d3_20 : decode method_2_code 20 = .ok (.dup, 1) := by decide +kernel
theorem d3_21 : decode method_2_code 21 = .ok (.iconst 3, 1) := by decide +kernel
theorem d3_22 : decode method_2_code 22 = .ok (.ldc2_w 11, 3) := by decide +kernel
theorem d3_25 : decode method_2_code 25 = .ok (.lastore, 1) := by decide +kernel
theorem d3_26 : decode method_2_code 26 = .ok (.dup, 1) := by decide +kernel
theorem d3_27 : decode method_2_code 27 = .ok (.iconst 4, 1) := by decide +kernel
theorem d3_28 : decode method_2_code 28 = .ok (.ldc2_w 13, 3) := by decide +kernel
theorem d3_31 : decode method_2_code 31 = .ok (.lastore, 1) := by decide +kernel
theorem d3_32 : decode method_2_code 32 = .ok (.dup, 1) := by decide +kernel
theorem d3_33 : decode method_2_code 33 = .ok (.iconst 5, 1) := by decide +kernel
theorem d3_34 : decode method_2_code 34 = .ok (.ldc2_w 15, 3) := by decide +kernel
theorem d3_37 : decode method_2_code 37 = .ok (.lastore, 1) := by decide +kernel
theorem d3_38 : decode method_2_code 38 = .ok (.dup, 1) := by decide +kernel
theorem d3_39 : decode method_2_code 39 = .ok (.bipush 6, 2) := by decide +kernel
theorem d3_41 : decode method_2_code 41 = .ok (.ldc2_w 17, 3) := by decide +kernel
theorem d3_44 : decode method_2_code 44 = .ok (.lastore, 1) := by decide +kernel
theorem d3_45 : decode method_2_code 45 = .ok (.dup, 1) := by decide +kernel
theorem d3_46 : decode method_2_code 46 = .ok (.bipush 7, 2) := by decide +kernel
theorem d3_48 : decode method_2_code 48 = .ok (.ldc2_w 19, 3) := by decide +kernel
theorem d3_51 : decode method_2_code 51 = .ok (.lastore, 1) := by decide +kernel
theorem d3_52 : decode method_2_code 52 = .ok (.dup, 1) := by decide +kernel
theorem d3_53 : decode method_2_code 53 = .ok (.bipush 8, 2) := by decide +kernel
theorem d3_55 : decode method_2_code 55 = .ok (.ldc2_w 21, 3) := by decide +kernel
theorem d3_58 : decode method_2_code 58 = .ok (.lastore, 1) := by decide +kernel
theorem d3_59 : decode method_2_code 59 = .ok (.dup, 1) := by decide +kernel
theorem d3_60 : decode method_2_code 60 = .ok (.bipush 9, 2) := by decide +kernel
theorem d3_62 : decode method_2_code 62 = .ok (.ldc2_w 23, 3) := by decide +kernel
theorem d3_65 : decode method_2_code 65 = .ok (.lastore, 1) := by decide +kernel
theorem d3_66 : decode method_2_code 66 = .ok (.dup, 1) := by decide +kernel
theorem d3_67 : decode method_2_code 67 = .ok (.bipush 10, 2) := by decide +kernel
theorem d3_69 : decode method_2_code 69 = .ok (.ldc2_w 25, 3) := by decide +kernel
theorem d3_72 : decode method_2_code 72 = .ok (.lastore, 1) := by decide +kernel
theorem d3_73 : decode method_2_code 73 = .ok (.dup, 1) := by decide +kernel
theorem d3_74 : decode method_2_code 74 = .ok (.bipush 11, 2) := by decide +kernel
theorem d3_76 : decode method_2_code 76 = .ok (.ldc2_w 27, 3) := by decide +kernel
theorem d3_79 : decode method_2_code 79 = .ok (.lastore, 1) := by decide +kernel
theorem d3_80 : decode method_2_code 80 = .ok (.dup, 1) := by decide +kernel
theorem d3_81 : decode method_2_code 81 = .ok (.bipush 12, 2) := by decide +kernel
theorem d3_83 : decode method_2_code 83 = .ok (.ldc2_w 29, 3) := by decide +kernel
theorem d3_86 : decode method_2_code 86 = .ok (.lastore, 1) := by decide +kernel
theorem d3_87 : decode method_2_code 87 = .ok (.dup, 1) := by decide +kernel
theorem d3_88 : decode method_2_code 88 = .ok (.bipush 13, 2) := by decide +kernel
theorem d3_90 : decode method_2_code 90 = .ok (.ldc2_w 31, 3) := by decide +kernel
theorem d3_93 : decode method_2_code 93 = .ok (.lastore, 1) := by decide +kernel
theorem d3_94 : decode method_2_code 94 = .ok (.dup, 1) := by decide +kernel
theorem d3_95 : decode method_2_code 95 = .ok (.bipush 14, 2) := by decide +kernel
theorem d3_97 : decode method_2_code 97 = .ok (.ldc2_w 33, 3) := by decide +kernel
theorem d3_100 : decode method_2_code 100 = .ok (.lastore, 1) := by decide +kernel
theorem d3_101 : decode method_2_code 101 = .ok (.dup, 1) := by decide +kernel
theorem d3_102 : decode method_2_code 102 = .ok (.bipush 15, 2) := by decide +kernel
theorem d3_104 : decode method_2_code 104 = .ok (.ldc2_w 35, 3) := by decide +kernel
theorem d3_107 : decode method_2_code 107 = .ok (.lastore, 1) := by decide +kernel
theorem d3_108 : decode method_2_code 108 = .ok (.dup, 1) := by decide +kernel
theorem d3_109 : decode method_2_code 109 = .ok (.bipush 16, 2) := by decide +kernel
theorem d3_111 : decode method_2_code 111 = .ok (.ldc2_w 37, 3) := by decide +kernel
theorem d3_114 : decode method_2_code 114 = .ok (.lastore, 1) := by decide +kernel
theorem d3_115 : decode method_2_code 115 = .ok (.dup, 1) := by decide +kernel
theorem d3_116 : decode method_2_code 116 = .ok (.bipush 17, 2) := by decide +kernel
theorem d3_118 : decode method_2_code 118 = .ok (.ldc2_w 39, 3) := by decide +kernel
theorem d3_121 : decode method_2_code 121 = .ok (.lastore, 1) := by decide +kernel
theorem d3_122 : decode method_2_code 122 = .ok (.dup, 1) := by decide +kernel
theorem d3_123 : decode method_2_code 123 = .ok (.bipush 18, 2) := by decide +kernel
theorem d3_125 : decode method_2_code 125 = .ok (.ldc2_w 41, 3) := by decide +kernel
theorem d3_128 : decode method_2_code 128 = .ok (.lastore, 1) := by decide +kernel
theorem d3_129 : decode method_2_code 129 = .ok (.astore_n 1, 1) := by decide +kernel
theorem d3_130 : decode method_2_code 130 = .ok (.aload_n 1, 1) := by decide +kernel
theorem d3_131 : decode method_2_code 131 = .ok (.iload_n 0, 1) := by decide +kernel
theorem d3_132 : decode method_2_code 132 = .ok (.laload, 1) := by decide +kernel
theorem d3_133 : decode method_2_code 133 = .ok (.lreturn, 1) := by decide +kernel
theorem pn3 : plainFor (⟨"com/example/cartonmark/cartonmark/pdf/PdfFilePutWholePinLaw", "pow10", "(I)J"⟩ : MethodName) = true := by first | (apply plainFor_of_name; simp [plainName, overriddenIn]; done) | decide +kernel
def B3 : Bdy := (⟨"com/example/cartonmark/cartonmark/pdf/PdfFilePutWholePinLaw", "pow10", "(I)J"⟩, method_2_code, 2, (some .long), ({ frames := 0, cells := 1, slots := 19, locals := 0 } : Room))
set_option maxRecDepth 65536 in
set_option maxHeartbeats 4000000 in
theorem m_pow (Z : State) (a0 : Array Value) (hw : ∀ d ∈ tables_1, d.before a0 Z = true) (h0 : Heap) (a1 : Addr) (g0 : Nat → Int32) (p1 : Int32) (hp : 0 ≤ p1.toInt ∧ p1.toInt ≤ 18) :
    Met B3 Z a0 h0 #[(.int p1)] [ar a1 .byte (tab g0)] (fun v ds' => ∃ (P : Int64) (b1 : Addr) (vs : List Value), v = some (.long P) ∧ P.toInt = ((10 ^ p1.toInt.toNat : Nat) : Int) ∧ ds' = [ar a1 .byte (tab g0), ar b1 .long vs]) := by
  refine Met.of pn3 (ls := #[.val (.int p1), .unset]) (fun m => by first | (simp [entryFrame, mkF, argsToLocals, Value.category, B3]; done) | rfl) ?_
  show Go B3 Z a0 h0 _ 0 0 [ar a1 .byte (tab g0)] 0 #[.val (.int p1), .unset] []
  refine go_bipush (19 : Int32) 2 rfl d3_0 rfl ?_
  refine go_newarr 4 rfl d3_2 rfl (wd hw 33 rfl) (by decide) 19 (by decide) (by decide) (by decide) (by decide) (fun a6 => ?_)
  show Go B3 Z a0 h0 _ 1 19 (mem1 a1 g0 a6) 4 #[.val (.int p1), .unset] [(.ref a6)]
  refine go_dup 5 rfl d3_4 rfl rfl ?_
  refine go_iconst (0 : Int32) 6 rfl d3_5 rfl ?_
  refine go_lconst (1 : Int64) 7 rfl d3_6 rfl ?_
  refine go_lastore 1 8 rfl d3_7 rfl rfl (by decide) (Nat.le_of_ble_eq_true rfl) ?_
  show Go B3 Z a0 h0 _ 1 19 (mem2 a1 g0 a6) 8 #[.val (.int p1), .unset] [(.ref a6)]
  refine go_dup 9 rfl d3_8 rfl rfl ?_
  refine go_iconst (1 : Int32) 10 rfl d3_9 rfl ?_
  refine go_ldc2 (v := (10 : Int64)) 13 rfl d3_10 (wd hw 6 rfl) ?_
  refine go_lastore 1 14 rfl d3_13 rfl rfl (by decide) (Nat.le_of_ble_eq_true rfl) ?_
  show Go B3 Z a0 h0 _ 1 19 (mem3 a1 g0 a6) 14 #[.val (.int p1), .unset] [(.ref a6)]
  refine go_dup 15 rfl d3_14 rfl rfl ?_
  refine go_iconst (2 : Int32) 16 rfl d3_15 rfl ?_
  refine go_ldc2 (v := (100 : Int64)) 19 rfl d3_16 (wd hw 7 rfl) ?_
  refine go_lastore 1 20 rfl d3_19 rfl rfl (by decide) (Nat.le_of_ble_eq_true rfl) ?_
  show Go B3 Z a0 h0 _ 1 19 (mem4 a1 g0 a6) 20 #[.val (.int p1), .unset] [(.ref a6)]
  refine go_dup 21 rfl d3_20 rfl rfl ?_
  refine go_iconst (3 : Int32) 22 rfl d3_21 rfl ?_
  refine go_ldc2 (v := (1000 : Int64)) 25 rfl d3_22 (wd hw 8 rfl) ?_
  refine go_lastore 1 26 rfl d3_25 rfl rfl (by decide) (Nat.le_of_ble_eq_true rfl) ?_
  show Go B3 Z a0 h0 _ 1 19 (mem5 a1 g0 a6) 26 #[.val (.int p1), .unset] [(.ref a6)]
  refine go_dup 27 rfl d3_26 rfl rfl ?_
  refine go_iconst (4 : Int32) 28 rfl d3_27 rfl ?_
  refine go_ldc2 (v := (10000 : Int64)) 31 rfl d3_28 (wd hw 9 rfl) ?_
  refine go_lastore 1 32 rfl d3_31 rfl rfl (by decide) (Nat.le_of_ble_eq_true rfl) ?_
  show Go B3 Z a0 h0 _ 1 19 (mem6 a1 g0 a6) 32 #[.val (.int p1), .unset] [(.ref a6)]
  refine go_dup 33 rfl d3_32 rfl rfl ?_
  refine go_iconst (5 : Int32) 34 rfl d3_33 rfl ?_
  refine go_ldc2 (v := (100000 : Int64)) 37 rfl d3_34 (wd hw 10 rfl) ?_
  refine go_lastore 1 38 rfl d3_37 rfl rfl (by decide) (Nat.le_of_ble_eq_true rfl) ?_
  show Go B3 Z a0 h0 _ 1 19 (mem7 a1 g0 a6) 38 #[.val (.int p1), .unset] [(.ref a6)]
  refine go_dup 39 rfl d3_38 rfl rfl ?_
  refine go_bipush (6 : Int32) 41 rfl d3_39 rfl ?_
  refine go_ldc2 (v := (1000000 : Int64)) 44 rfl d3_41 (wd hw 11 rfl) ?_
  refine go_lastore 1 45 rfl d3_44 rfl rfl (by decide) (Nat.le_of_ble_eq_true rfl) ?_
  show Go B3 Z a0 h0 _ 1 19 (mem8 a1 g0 a6) 45 #[.val (.int p1), .unset] [(.ref a6)]
  refine go_dup 46 rfl d3_45 rfl rfl ?_
  refine go_bipush (7 : Int32) 48 rfl d3_46 rfl ?_
  refine go_ldc2 (v := (10000000 : Int64)) 51 rfl d3_48 (wd hw 12 rfl) ?_
  refine go_lastore 1 52 rfl d3_51 rfl rfl (by decide) (Nat.le_of_ble_eq_true rfl) ?_
  show Go B3 Z a0 h0 _ 1 19 (mem9 a1 g0 a6) 52 #[.val (.int p1), .unset] [(.ref a6)]
  refine go_dup 53 rfl d3_52 rfl rfl ?_
  refine go_bipush (8 : Int32) 55 rfl d3_53 rfl ?_
  refine go_ldc2 (v := (100000000 : Int64)) 58 rfl d3_55 (wd hw 13 rfl) ?_
  refine go_lastore 1 59 rfl d3_58 rfl rfl (by decide) (Nat.le_of_ble_eq_true rfl) ?_
  show Go B3 Z a0 h0 _ 1 19 (mem10 a1 g0 a6) 59 #[.val (.int p1), .unset] [(.ref a6)]
  refine go_dup 60 rfl d3_59 rfl rfl ?_
  refine go_bipush (9 : Int32) 62 rfl d3_60 rfl ?_
  refine go_ldc2 (v := (1000000000 : Int64)) 65 rfl d3_62 (wd hw 14 rfl) ?_
  refine go_lastore 1 66 rfl d3_65 rfl rfl (by decide) (Nat.le_of_ble_eq_true rfl) ?_
  show Go B3 Z a0 h0 _ 1 19 (mem11 a1 g0 a6) 66 #[.val (.int p1), .unset] [(.ref a6)]
  refine go_dup 67 rfl d3_66 rfl rfl ?_
  refine go_bipush (10 : Int32) 69 rfl d3_67 rfl ?_
  refine go_ldc2 (v := (10000000000 : Int64)) 72 rfl d3_69 (wd hw 15 rfl) ?_
  refine go_lastore 1 73 rfl d3_72 rfl rfl (by decide) (Nat.le_of_ble_eq_true rfl) ?_
  show Go B3 Z a0 h0 _ 1 19 (mem12 a1 g0 a6) 73 #[.val (.int p1), .unset] [(.ref a6)]
  refine go_dup 74 rfl d3_73 rfl rfl ?_
  refine go_bipush (11 : Int32) 76 rfl d3_74 rfl ?_
  refine go_ldc2 (v := (100000000000 : Int64)) 79 rfl d3_76 (wd hw 16 rfl) ?_
  refine go_lastore 1 80 rfl d3_79 rfl rfl (by decide) (Nat.le_of_ble_eq_true rfl) ?_
  show Go B3 Z a0 h0 _ 1 19 (mem13 a1 g0 a6) 80 #[.val (.int p1), .unset] [(.ref a6)]
  refine go_dup 81 rfl d3_80 rfl rfl ?_
  refine go_bipush (12 : Int32) 83 rfl d3_81 rfl ?_
  refine go_ldc2 (v := (1000000000000 : Int64)) 86 rfl d3_83 (wd hw 17 rfl) ?_
  refine go_lastore 1 87 rfl d3_86 rfl rfl (by decide) (Nat.le_of_ble_eq_true rfl) ?_
  show Go B3 Z a0 h0 _ 1 19 (mem14 a1 g0 a6) 87 #[.val (.int p1), .unset] [(.ref a6)]
  refine go_dup 88 rfl d3_87 rfl rfl ?_
  refine go_bipush (13 : Int32) 90 rfl d3_88 rfl ?_
  refine go_ldc2 (v := (10000000000000 : Int64)) 93 rfl d3_90 (wd hw 18 rfl) ?_
  refine go_lastore 1 94 rfl d3_93 rfl rfl (by decide) (Nat.le_of_ble_eq_true rfl) ?_
  show Go B3 Z a0 h0 _ 1 19 (mem15 a1 g0 a6) 94 #[.val (.int p1), .unset] [(.ref a6)]
  refine go_dup 95 rfl d3_94 rfl rfl ?_
  refine go_bipush (14 : Int32) 97 rfl d3_95 rfl ?_
  refine go_ldc2 (v := (100000000000000 : Int64)) 100 rfl d3_97 (wd hw 19 rfl) ?_
  refine go_lastore 1 101 rfl d3_100 rfl rfl (by decide) (Nat.le_of_ble_eq_true rfl) ?_
  show Go B3 Z a0 h0 _ 1 19 (mem16 a1 g0 a6) 101 #[.val (.int p1), .unset] [(.ref a6)]
  refine go_dup 102 rfl d3_101 rfl rfl ?_
  refine go_bipush (15 : Int32) 104 rfl d3_102 rfl ?_
  refine go_ldc2 (v := (1000000000000000 : Int64)) 107 rfl d3_104 (wd hw 20 rfl) ?_
  refine go_lastore 1 108 rfl d3_107 rfl rfl (by decide) (Nat.le_of_ble_eq_true rfl) ?_
  show Go B3 Z a0 h0 _ 1 19 (mem17 a1 g0 a6) 108 #[.val (.int p1), .unset] [(.ref a6)]
  refine go_dup 109 rfl d3_108 rfl rfl ?_
  refine go_bipush (16 : Int32) 111 rfl d3_109 rfl ?_
  refine go_ldc2 (v := (10000000000000000 : Int64)) 114 rfl d3_111 (wd hw 21 rfl) ?_
  refine go_lastore 1 115 rfl d3_114 rfl rfl (by decide) (Nat.le_of_ble_eq_true rfl) ?_
  show Go B3 Z a0 h0 _ 1 19 (mem18 a1 g0 a6) 115 #[.val (.int p1), .unset] [(.ref a6)]
  refine go_dup 116 rfl d3_115 rfl rfl ?_
  refine go_bipush (17 : Int32) 118 rfl d3_116 rfl ?_
  refine go_ldc2 (v := (100000000000000000 : Int64)) 121 rfl d3_118 (wd hw 22 rfl) ?_
  refine go_lastore 1 122 rfl d3_121 rfl rfl (by decide) (Nat.le_of_ble_eq_true rfl) ?_
  show Go B3 Z a0 h0 _ 1 19 (mem19 a1 g0 a6) 122 #[.val (.int p1), .unset] [(.ref a6)]
  refine go_dup 123 rfl d3_122 rfl rfl ?_
  refine go_bipush (18 : Int32) 125 rfl d3_123 rfl ?_
  refine go_ldc2 (v := (1000000000000000000 : Int64)) 128 rfl d3_125 (wd hw 23 rfl) ?_
  refine go_lastore 1 129 rfl d3_128 rfl rfl (by decide) (Nat.le_of_ble_eq_true rfl) ?_
  show Go B3 Z a0 h0 _ 1 19 (mem20 a1 g0 a6) 129 #[.val (.int p1), .unset] [(.ref a6)]
  refine go_astoreN #[.val (.int p1), .val (.ref a6)] 130 rfl d3_129 rfl rfl rfl ?_
  refine go_aloadN 131 rfl d3_130 rfl rfl ?_
  refine go_iloadN 132 rfl d3_131 rfl ?_
  obtain ⟨P, gP, hP⟩ := pow19 p1.toInt.toNat (by omega)
  refine go_laload (v := .long P) 133 rfl d3_132 rfl (Mo.el (i := 1) rfl (by rw [Int32.lt_iff_toInt_lt]; have : (0 : Int32).toInt = 0 := rfl; omega) gP) ?_
  exact go_lreturn d3_133 rfl rfl (by decide) (by decide) ⟨P, _, _, rfl, hP, rfl⟩
theorem pn0 : plainFor (⟨"com/example/cartonmark/cartonmark/pdf/PdfFilePutWholePinLaw", "law", "(JIII)Z"⟩ : MethodName) = true := by first | (apply plainFor_of_name; simp [plainName, overriddenIn]; done) | decide +kernel
def B0 : Bdy := (x, code, maxLocals, ret, room_1)
set_option maxRecDepth 65536 in
set_option maxHeartbeats 4000000 in
theorem law_met (Z : State) (a0 : Array Value) (hw : ∀ d ∈ tables_1, d.before a0 Z = true) (h0 : Heap) (q1 : Int64) (p1 p2 p3 : Int32) :
    Met B0 Z a0 h0 #[(.long q1), (.int p1), (.int p2), (.int p3)] [] (fun v _ => v = some (.int 1)) := by
  refine Met.of pn0 (ls := #[.val (.long q1), .second, .val (.int p1), .val (.int p2), .val (.int p3), .unset, .unset, .unset, .unset, .unset, .unset, .unset, .unset, .unset, .unset, .unset, .unset]) (fun m => by first | (simp [entryFrame, mkF, argsToLocals, Value.category, B0, maxLocals]; done) | rfl) ?_
  show Go B0 Z a0 h0 _ 0 0 [] 0 #[.val (.long q1), .second, .val (.int p1), .val (.int p2), .val (.int p3), .unset, .unset, .unset, .unset, .unset, .unset, .unset, .unset, .unset, .unset, .unset, .unset] []
  refine go_lloadN 1 rfl at_0 rfl ?_
  refine go_iloadN 2 rfl at_1 rfl ?_
  refine go_bipush (63 : Int32) 4 rfl at_2 rfl ?_
  refine go_iand 5 rfl at_4 rfl ?_
  refine go_lshr 6 rfl at_5 rfl ?_
  generalize e2 : (q1 >>> ((p1 &&& (63 : Int32)) &&& 0x3f).toInt64) = q2
  have h9 := c_lcmp q2 (-9223372036854775808 : Int64)
  have e9 : (-9223372036854775808 : Int64).toInt = -9223372036854775808 := rfl
  have h8 := c_lcmp q2 0
  have e8 : (0 : Int64).toInt = 0 := rfl
  have r9 := rng64 q2
  refine go_lstore #[.val (.long q1), .second, .val (.int p1), .val (.int p2), .val (.int p3), .val (.long q2), .second, .unset, .unset, .unset, .unset, .unset, .unset, .unset, .unset, .unset, .unset] 8 rfl at_6 rfl rfl ?_
  refine go_lload 10 rfl at_8 rfl ?_
  refine go_ldc2 (v := (-9223372036854775808 : Int64)) 13 rfl at_10 (wd hw 0 rfl) ?_
  refine go_lcmp 14 rfl at_13 rfl ?_
  refine go_if 19 17 rfl (by decide) rfl at_14 rfl (fun (hm : (lcmpW q2 (-9223372036854775808 : Int64)).toInt ≠ 0) => ?_) (fun (hm : ¬ ((lcmpW q2 (-9223372036854775808 : Int64)).toInt ≠ 0)) => ?_)
  · refine go_iloadN 20 rfl at_19 rfl ?_
    refine go_bipush (7 : Int32) 22 rfl at_20 rfl ?_
    refine go_iand 23 rfl at_22 rfl ?_
    generalize e4 : (p2 &&& (7 : Int32)) = p4
    have h4 : 0 ≤ p4.toInt ∧ p4.toInt ≤ 7 := by rw [← e4]; exact c_and p2 (7 : Int32) (by decide)
    refine go_istore #[.val (.long q1), .second, .val (.int p1), .val (.int p2), .val (.int p3), .val (.long q2), .second, .val (.int p4), .unset, .unset, .unset, .unset, .unset, .unset, .unset, .unset, .unset] 25 rfl at_23 rfl rfl ?_
    refine go_iload 27 rfl at_25 rfl ?_
    refine go_bipush (31 : Int32) 29 rfl at_27 rfl ?_
    refine go_iand 30 rfl at_29 rfl ?_
    generalize e5 : (p3 &&& (31 : Int32)) = p5
    have h5 : 0 ≤ p5.toInt ∧ p5.toInt ≤ 31 := by rw [← e5]; exact c_and p3 (31 : Int32) (by decide)
    refine go_istore #[.val (.long q1), .second, .val (.int p1), .val (.int p2), .val (.int p3), .val (.long q2), .second, .val (.int p4), .val (.int p5), .unset, .unset, .unset, .unset, .unset, .unset, .unset, .unset] 32 rfl at_30 rfl rfl ?_
    refine go_bipush (32 : Int32) 34 rfl at_32 rfl ?_
    refine go_newarr 36 rfl at_34 rfl (wd hw 1 rfl) (by decide) 32 (by decide) (by decide) (by decide) (by decide) (fun a1 => ?_)
    show Go B0 Z a0 h0 _ 1 32 (mem21 a1) 36 #[.val (.long q1), .second, .val (.int p1), .val (.int p2), .val (.int p3), .val (.long q2), .second, .val (.int p4), .val (.int p5), .unset, .unset, .unset, .unset, .unset, .unset, .unset, .unset] [(.ref a1)]
    refine go_dup 37 rfl at_36 rfl rfl ?_
    refine go_iconst (0 : Int32) 38 rfl at_37 rfl ?_
    refine go_bipush (85 : Int32) 40 rfl at_38 rfl ?_
    refine go_bastore 0 41 rfl at_40 rfl rfl (by decide) (Nat.le_of_ble_eq_true rfl) ?_
    show Go B0 Z a0 h0 _ 1 32 (mem22 a1) 41 #[.val (.long q1), .second, .val (.int p1), .val (.int p2), .val (.int p3), .val (.long q2), .second, .val (.int p4), .val (.int p5), .unset, .unset, .unset, .unset, .unset, .unset, .unset, .unset] [(.ref a1)]
    refine go_dup 42 rfl at_41 rfl rfl ?_
    refine go_iconst (1 : Int32) 43 rfl at_42 rfl ?_
    refine go_bipush (85 : Int32) 45 rfl at_43 rfl ?_
    refine go_bastore 0 46 rfl at_45 rfl rfl (by decide) (Nat.le_of_ble_eq_true rfl) ?_
    show Go B0 Z a0 h0 _ 1 32 (mem23 a1) 46 #[.val (.long q1), .second, .val (.int p1), .val (.int p2), .val (.int p3), .val (.long q2), .second, .val (.int p4), .val (.int p5), .unset, .unset, .unset, .unset, .unset, .unset, .unset, .unset] [(.ref a1)]
    refine go_dup 47 rfl at_46 rfl rfl ?_
    refine go_iconst (2 : Int32) 48 rfl at_47 rfl ?_
    refine go_bipush (85 : Int32) 50 rfl at_48 rfl ?_
    refine go_bastore 0 51 rfl at_50 rfl rfl (by decide) (Nat.le_of_ble_eq_true rfl) ?_
    show Go B0 Z a0 h0 _ 1 32 (mem24 a1) 51 #[.val (.long q1), .second, .val (.int p1), .val (.int p2), .val (.int p3), .val (.long q2), .second, .val (.int p4), .val (.int p5), .unset, .unset, .unset, .unset, .unset, .unset, .unset, .unset] [(.ref a1)]
    refine go_dup 52 rfl at_51 rfl rfl ?_
    refine go_iconst (3 : Int32) 53 rfl at_52 rfl ?_
    refine go_bipush (85 : Int32) 55 rfl at_53 rfl ?_
    refine go_bastore 0 56 rfl at_55 rfl rfl (by decide) (Nat.le_of_ble_eq_true rfl) ?_
    show Go B0 Z a0 h0 _ 1 32 (mem25 a1) 56 #[.val (.long q1), .second, .val (.int p1), .val (.int p2), .val (.int p3), .val (.long q2), .second, .val (.int p4), .val (.int p5), .unset, .unset, .unset, .unset, .unset, .unset, .unset, .unset] [(.ref a1)]
    refine go_dup 57 rfl at_56 rfl rfl ?_
    refine go_iconst (4 : Int32) 58 rfl at_57 rfl ?_
    refine go_bipush (85 : Int32) 60 rfl at_58 rfl ?_
    refine go_bastore 0 61 rfl at_60 rfl rfl (by decide) (Nat.le_of_ble_eq_true rfl) ?_
    show Go B0 Z a0 h0 _ 1 32 (mem26 a1) 61 #[.val (.long q1), .second, .val (.int p1), .val (.int p2), .val (.int p3), .val (.long q2), .second, .val (.int p4), .val (.int p5), .unset, .unset, .unset, .unset, .unset, .unset, .unset, .unset] [(.ref a1)]
    refine go_dup 62 rfl at_61 rfl rfl ?_
    refine go_iconst (5 : Int32) 63 rfl at_62 rfl ?_
    refine go_bipush (85 : Int32) 65 rfl at_63 rfl ?_
    refine go_bastore 0 66 rfl at_65 rfl rfl (by decide) (Nat.le_of_ble_eq_true rfl) ?_
    show Go B0 Z a0 h0 _ 1 32 (mem27 a1) 66 #[.val (.long q1), .second, .val (.int p1), .val (.int p2), .val (.int p3), .val (.long q2), .second, .val (.int p4), .val (.int p5), .unset, .unset, .unset, .unset, .unset, .unset, .unset, .unset] [(.ref a1)]
    refine go_dup 67 rfl at_66 rfl rfl ?_
    refine go_bipush (6 : Int32) 69 rfl at_67 rfl ?_
    refine go_bipush (85 : Int32) 71 rfl at_69 rfl ?_
    refine go_bastore 0 72 rfl at_71 rfl rfl (by decide) (Nat.le_of_ble_eq_true rfl) ?_
    show Go B0 Z a0 h0 _ 1 32 (mem28 a1) 72 #[.val (.long q1), .second, .val (.int p1), .val (.int p2), .val (.int p3), .val (.long q2), .second, .val (.int p4), .val (.int p5), .unset, .unset, .unset, .unset, .unset, .unset, .unset, .unset] [(.ref a1)]
    refine go_dup 73 rfl at_72 rfl rfl ?_
    refine go_bipush (7 : Int32) 75 rfl at_73 rfl ?_
    refine go_bipush (85 : Int32) 77 rfl at_75 rfl ?_
    refine go_bastore 0 78 rfl at_77 rfl rfl (by decide) (Nat.le_of_ble_eq_true rfl) ?_
    show Go B0 Z a0 h0 _ 1 32 (mem29 a1) 78 #[.val (.long q1), .second, .val (.int p1), .val (.int p2), .val (.int p3), .val (.long q2), .second, .val (.int p4), .val (.int p5), .unset, .unset, .unset, .unset, .unset, .unset, .unset, .unset] [(.ref a1)]
    refine go_dup 79 rfl at_78 rfl rfl ?_
    refine go_bipush (8 : Int32) 81 rfl at_79 rfl ?_
    refine go_bipush (85 : Int32) 83 rfl at_81 rfl ?_
    refine go_bastore 0 84 rfl at_83 rfl rfl (by decide) (Nat.le_of_ble_eq_true rfl) ?_
    show Go B0 Z a0 h0 _ 1 32 (mem30 a1) 84 #[.val (.long q1), .second, .val (.int p1), .val (.int p2), .val (.int p3), .val (.long q2), .second, .val (.int p4), .val (.int p5), .unset, .unset, .unset, .unset, .unset, .unset, .unset, .unset] [(.ref a1)]
    refine go_dup 85 rfl at_84 rfl rfl ?_
    refine go_bipush (9 : Int32) 87 rfl at_85 rfl ?_
    refine go_bipush (85 : Int32) 89 rfl at_87 rfl ?_
    refine go_bastore 0 90 rfl at_89 rfl rfl (by decide) (Nat.le_of_ble_eq_true rfl) ?_
    show Go B0 Z a0 h0 _ 1 32 (mem31 a1) 90 #[.val (.long q1), .second, .val (.int p1), .val (.int p2), .val (.int p3), .val (.long q2), .second, .val (.int p4), .val (.int p5), .unset, .unset, .unset, .unset, .unset, .unset, .unset, .unset] [(.ref a1)]
    refine go_dup 91 rfl at_90 rfl rfl ?_
    refine go_bipush (10 : Int32) 93 rfl at_91 rfl ?_
    refine go_bipush (85 : Int32) 95 rfl at_93 rfl ?_
    refine go_bastore 0 96 rfl at_95 rfl rfl (by decide) (Nat.le_of_ble_eq_true rfl) ?_
    show Go B0 Z a0 h0 _ 1 32 (mem32 a1) 96 #[.val (.long q1), .second, .val (.int p1), .val (.int p2), .val (.int p3), .val (.long q2), .second, .val (.int p4), .val (.int p5), .unset, .unset, .unset, .unset, .unset, .unset, .unset, .unset] [(.ref a1)]
    refine go_dup 97 rfl at_96 rfl rfl ?_
    refine go_bipush (11 : Int32) 99 rfl at_97 rfl ?_
    refine go_bipush (85 : Int32) 101 rfl at_99 rfl ?_
    refine go_bastore 0 102 rfl at_101 rfl rfl (by decide) (Nat.le_of_ble_eq_true rfl) ?_
    show Go B0 Z a0 h0 _ 1 32 (mem33 a1) 102 #[.val (.long q1), .second, .val (.int p1), .val (.int p2), .val (.int p3), .val (.long q2), .second, .val (.int p4), .val (.int p5), .unset, .unset, .unset, .unset, .unset, .unset, .unset, .unset] [(.ref a1)]
    refine go_dup 103 rfl at_102 rfl rfl ?_
    refine go_bipush (12 : Int32) 105 rfl at_103 rfl ?_
    refine go_bipush (85 : Int32) 107 rfl at_105 rfl ?_
    refine go_bastore 0 108 rfl at_107 rfl rfl (by decide) (Nat.le_of_ble_eq_true rfl) ?_
    show Go B0 Z a0 h0 _ 1 32 (mem34 a1) 108 #[.val (.long q1), .second, .val (.int p1), .val (.int p2), .val (.int p3), .val (.long q2), .second, .val (.int p4), .val (.int p5), .unset, .unset, .unset, .unset, .unset, .unset, .unset, .unset] [(.ref a1)]
    refine go_dup 109 rfl at_108 rfl rfl ?_
    refine go_bipush (13 : Int32) 111 rfl at_109 rfl ?_
    refine go_bipush (85 : Int32) 113 rfl at_111 rfl ?_
    refine go_bastore 0 114 rfl at_113 rfl rfl (by decide) (Nat.le_of_ble_eq_true rfl) ?_
    show Go B0 Z a0 h0 _ 1 32 (mem35 a1) 114 #[.val (.long q1), .second, .val (.int p1), .val (.int p2), .val (.int p3), .val (.long q2), .second, .val (.int p4), .val (.int p5), .unset, .unset, .unset, .unset, .unset, .unset, .unset, .unset] [(.ref a1)]
    refine go_dup 115 rfl at_114 rfl rfl ?_
    refine go_bipush (14 : Int32) 117 rfl at_115 rfl ?_
    refine go_bipush (85 : Int32) 119 rfl at_117 rfl ?_
    refine go_bastore 0 120 rfl at_119 rfl rfl (by decide) (Nat.le_of_ble_eq_true rfl) ?_
    show Go B0 Z a0 h0 _ 1 32 (mem36 a1) 120 #[.val (.long q1), .second, .val (.int p1), .val (.int p2), .val (.int p3), .val (.long q2), .second, .val (.int p4), .val (.int p5), .unset, .unset, .unset, .unset, .unset, .unset, .unset, .unset] [(.ref a1)]
    refine go_dup 121 rfl at_120 rfl rfl ?_
    refine go_bipush (15 : Int32) 123 rfl at_121 rfl ?_
    refine go_bipush (85 : Int32) 125 rfl at_123 rfl ?_
    refine go_bastore 0 126 rfl at_125 rfl rfl (by decide) (Nat.le_of_ble_eq_true rfl) ?_
    show Go B0 Z a0 h0 _ 1 32 (mem37 a1) 126 #[.val (.long q1), .second, .val (.int p1), .val (.int p2), .val (.int p3), .val (.long q2), .second, .val (.int p4), .val (.int p5), .unset, .unset, .unset, .unset, .unset, .unset, .unset, .unset] [(.ref a1)]
    refine go_dup 127 rfl at_126 rfl rfl ?_
    refine go_bipush (16 : Int32) 129 rfl at_127 rfl ?_
    refine go_bipush (85 : Int32) 131 rfl at_129 rfl ?_
    refine go_bastore 0 132 rfl at_131 rfl rfl (by decide) (Nat.le_of_ble_eq_true rfl) ?_
    show Go B0 Z a0 h0 _ 1 32 (mem38 a1) 132 #[.val (.long q1), .second, .val (.int p1), .val (.int p2), .val (.int p3), .val (.long q2), .second, .val (.int p4), .val (.int p5), .unset, .unset, .unset, .unset, .unset, .unset, .unset, .unset] [(.ref a1)]
    refine go_dup 133 rfl at_132 rfl rfl ?_
    refine go_bipush (17 : Int32) 135 rfl at_133 rfl ?_
    refine go_bipush (85 : Int32) 137 rfl at_135 rfl ?_
    refine go_bastore 0 138 rfl at_137 rfl rfl (by decide) (Nat.le_of_ble_eq_true rfl) ?_
    show Go B0 Z a0 h0 _ 1 32 (mem39 a1) 138 #[.val (.long q1), .second, .val (.int p1), .val (.int p2), .val (.int p3), .val (.long q2), .second, .val (.int p4), .val (.int p5), .unset, .unset, .unset, .unset, .unset, .unset, .unset, .unset] [(.ref a1)]
    refine go_dup 139 rfl at_138 rfl rfl ?_
    refine go_bipush (18 : Int32) 141 rfl at_139 rfl ?_
    refine go_bipush (85 : Int32) 143 rfl at_141 rfl ?_
    refine go_bastore 0 144 rfl at_143 rfl rfl (by decide) (Nat.le_of_ble_eq_true rfl) ?_
    show Go B0 Z a0 h0 _ 1 32 (mem40 a1) 144 #[.val (.long q1), .second, .val (.int p1), .val (.int p2), .val (.int p3), .val (.long q2), .second, .val (.int p4), .val (.int p5), .unset, .unset, .unset, .unset, .unset, .unset, .unset, .unset] [(.ref a1)]
    refine go_dup 145 rfl at_144 rfl rfl ?_
    refine go_bipush (19 : Int32) 147 rfl at_145 rfl ?_
    refine go_bipush (85 : Int32) 149 rfl at_147 rfl ?_
    refine go_bastore 0 150 rfl at_149 rfl rfl (by decide) (Nat.le_of_ble_eq_true rfl) ?_
    show Go B0 Z a0 h0 _ 1 32 (mem41 a1) 150 #[.val (.long q1), .second, .val (.int p1), .val (.int p2), .val (.int p3), .val (.long q2), .second, .val (.int p4), .val (.int p5), .unset, .unset, .unset, .unset, .unset, .unset, .unset, .unset] [(.ref a1)]
    refine go_dup 151 rfl at_150 rfl rfl ?_
    refine go_bipush (20 : Int32) 153 rfl at_151 rfl ?_
    refine go_bipush (85 : Int32) 155 rfl at_153 rfl ?_
    refine go_bastore 0 156 rfl at_155 rfl rfl (by decide) (Nat.le_of_ble_eq_true rfl) ?_
    show Go B0 Z a0 h0 _ 1 32 (mem42 a1) 156 #[.val (.long q1), .second, .val (.int p1), .val (.int p2), .val (.int p3), .val (.long q2), .second, .val (.int p4), .val (.int p5), .unset, .unset, .unset, .unset, .unset, .unset, .unset, .unset] [(.ref a1)]
    refine go_dup 157 rfl at_156 rfl rfl ?_
    refine go_bipush (21 : Int32) 159 rfl at_157 rfl ?_
    refine go_bipush (85 : Int32) 161 rfl at_159 rfl ?_
    refine go_bastore 0 162 rfl at_161 rfl rfl (by decide) (Nat.le_of_ble_eq_true rfl) ?_
    show Go B0 Z a0 h0 _ 1 32 (mem43 a1) 162 #[.val (.long q1), .second, .val (.int p1), .val (.int p2), .val (.int p3), .val (.long q2), .second, .val (.int p4), .val (.int p5), .unset, .unset, .unset, .unset, .unset, .unset, .unset, .unset] [(.ref a1)]
    refine go_dup 163 rfl at_162 rfl rfl ?_
    refine go_bipush (22 : Int32) 165 rfl at_163 rfl ?_
    refine go_bipush (85 : Int32) 167 rfl at_165 rfl ?_
    refine go_bastore 0 168 rfl at_167 rfl rfl (by decide) (Nat.le_of_ble_eq_true rfl) ?_
    show Go B0 Z a0 h0 _ 1 32 (mem44 a1) 168 #[.val (.long q1), .second, .val (.int p1), .val (.int p2), .val (.int p3), .val (.long q2), .second, .val (.int p4), .val (.int p5), .unset, .unset, .unset, .unset, .unset, .unset, .unset, .unset] [(.ref a1)]
    refine go_dup 169 rfl at_168 rfl rfl ?_
    refine go_bipush (23 : Int32) 171 rfl at_169 rfl ?_
    refine go_bipush (85 : Int32) 173 rfl at_171 rfl ?_
    refine go_bastore 0 174 rfl at_173 rfl rfl (by decide) (Nat.le_of_ble_eq_true rfl) ?_
    show Go B0 Z a0 h0 _ 1 32 (mem45 a1) 174 #[.val (.long q1), .second, .val (.int p1), .val (.int p2), .val (.int p3), .val (.long q2), .second, .val (.int p4), .val (.int p5), .unset, .unset, .unset, .unset, .unset, .unset, .unset, .unset] [(.ref a1)]
    refine go_dup 175 rfl at_174 rfl rfl ?_
    refine go_bipush (24 : Int32) 177 rfl at_175 rfl ?_
    refine go_bipush (85 : Int32) 179 rfl at_177 rfl ?_
    refine go_bastore 0 180 rfl at_179 rfl rfl (by decide) (Nat.le_of_ble_eq_true rfl) ?_
    show Go B0 Z a0 h0 _ 1 32 (mem46 a1) 180 #[.val (.long q1), .second, .val (.int p1), .val (.int p2), .val (.int p3), .val (.long q2), .second, .val (.int p4), .val (.int p5), .unset, .unset, .unset, .unset, .unset, .unset, .unset, .unset] [(.ref a1)]
    refine go_dup 181 rfl at_180 rfl rfl ?_
    refine go_bipush (25 : Int32) 183 rfl at_181 rfl ?_
    refine go_bipush (85 : Int32) 185 rfl at_183 rfl ?_
    refine go_bastore 0 186 rfl at_185 rfl rfl (by decide) (Nat.le_of_ble_eq_true rfl) ?_
    show Go B0 Z a0 h0 _ 1 32 (mem47 a1) 186 #[.val (.long q1), .second, .val (.int p1), .val (.int p2), .val (.int p3), .val (.long q2), .second, .val (.int p4), .val (.int p5), .unset, .unset, .unset, .unset, .unset, .unset, .unset, .unset] [(.ref a1)]
    refine go_dup 187 rfl at_186 rfl rfl ?_
    refine go_bipush (26 : Int32) 189 rfl at_187 rfl ?_
    refine go_bipush (85 : Int32) 191 rfl at_189 rfl ?_
    refine go_bastore 0 192 rfl at_191 rfl rfl (by decide) (Nat.le_of_ble_eq_true rfl) ?_
    show Go B0 Z a0 h0 _ 1 32 (mem48 a1) 192 #[.val (.long q1), .second, .val (.int p1), .val (.int p2), .val (.int p3), .val (.long q2), .second, .val (.int p4), .val (.int p5), .unset, .unset, .unset, .unset, .unset, .unset, .unset, .unset] [(.ref a1)]
    refine go_dup 193 rfl at_192 rfl rfl ?_
    refine go_bipush (27 : Int32) 195 rfl at_193 rfl ?_
    refine go_bipush (85 : Int32) 197 rfl at_195 rfl ?_
    refine go_bastore 0 198 rfl at_197 rfl rfl (by decide) (Nat.le_of_ble_eq_true rfl) ?_
    show Go B0 Z a0 h0 _ 1 32 (mem49 a1) 198 #[.val (.long q1), .second, .val (.int p1), .val (.int p2), .val (.int p3), .val (.long q2), .second, .val (.int p4), .val (.int p5), .unset, .unset, .unset, .unset, .unset, .unset, .unset, .unset] [(.ref a1)]
    refine go_dup 199 rfl at_198 rfl rfl ?_
    refine go_bipush (28 : Int32) 201 rfl at_199 rfl ?_
    refine go_bipush (85 : Int32) 203 rfl at_201 rfl ?_
    refine go_bastore 0 204 rfl at_203 rfl rfl (by decide) (Nat.le_of_ble_eq_true rfl) ?_
    show Go B0 Z a0 h0 _ 1 32 (mem50 a1) 204 #[.val (.long q1), .second, .val (.int p1), .val (.int p2), .val (.int p3), .val (.long q2), .second, .val (.int p4), .val (.int p5), .unset, .unset, .unset, .unset, .unset, .unset, .unset, .unset] [(.ref a1)]
    refine go_dup 205 rfl at_204 rfl rfl ?_
    refine go_bipush (29 : Int32) 207 rfl at_205 rfl ?_
    refine go_bipush (85 : Int32) 209 rfl at_207 rfl ?_
    refine go_bastore 0 210 rfl at_209 rfl rfl (by decide) (Nat.le_of_ble_eq_true rfl) ?_
    show Go B0 Z a0 h0 _ 1 32 (mem51 a1) 210 #[.val (.long q1), .second, .val (.int p1), .val (.int p2), .val (.int p3), .val (.long q2), .second, .val (.int p4), .val (.int p5), .unset, .unset, .unset, .unset, .unset, .unset, .unset, .unset] [(.ref a1)]
    refine go_dup 211 rfl at_210 rfl rfl ?_
    refine go_bipush (30 : Int32) 213 rfl at_211 rfl ?_
    refine go_bipush (85 : Int32) 215 rfl at_213 rfl ?_
    refine go_bastore 0 216 rfl at_215 rfl rfl (by decide) (Nat.le_of_ble_eq_true rfl) ?_
    show Go B0 Z a0 h0 _ 1 32 (mem52 a1) 216 #[.val (.long q1), .second, .val (.int p1), .val (.int p2), .val (.int p3), .val (.long q2), .second, .val (.int p4), .val (.int p5), .unset, .unset, .unset, .unset, .unset, .unset, .unset, .unset] [(.ref a1)]
    refine go_dup 217 rfl at_216 rfl rfl ?_
    refine go_bipush (31 : Int32) 219 rfl at_217 rfl ?_
    refine go_bipush (85 : Int32) 221 rfl at_219 rfl ?_
    refine go_bastore 0 222 rfl at_221 rfl rfl (by decide) (Nat.le_of_ble_eq_true rfl) ?_
    show Go B0 Z a0 h0 _ 1 32 (mem53 a1) 222 #[.val (.long q1), .second, .val (.int p1), .val (.int p2), .val (.int p3), .val (.long q2), .second, .val (.int p4), .val (.int p5), .unset, .unset, .unset, .unset, .unset, .unset, .unset, .unset] [(.ref a1)]
    show Go B0 Z a0 h0 _ 1 32 [ar a1 .byte (tab (fun _ => (85 : Int32)))] 222 #[.val (.long q1), .second, .val (.int p1), .val (.int p2), .val (.int p3), .val (.long q2), .second, .val (.int p4), .val (.int p5), .unset, .unset, .unset, .unset, .unset, .unset, .unset, .unset] [(.ref a1)]
    refine go_astore #[.val (.long q1), .second, .val (.int p1), .val (.int p2), .val (.int p3), .val (.long q2), .second, .val (.int p4), .val (.int p5), .val (.ref a1), .unset, .unset, .unset, .unset, .unset, .unset, .unset] 224 rfl at_222 rfl rfl rfl ?_
    refine go_lload 226 rfl at_224 rfl ?_
    refine go_lconst (0 : Int64) 227 rfl at_226 rfl ?_
    refine go_lcmp 228 rfl at_227 rfl ?_
    refine go_if 235 231 rfl (by decide) rfl at_228 rfl (fun (hs : 0 ≤ (lcmpW q2 (0 : Int64)).toInt) => ?_) (fun (hs : ¬ (0 ≤ (lcmpW q2 (0 : Int64)).toInt)) => ?_)
    · refine go_iconst (0 : Int32) 236 rfl at_235 rfl ?_
      refine go_istore #[.val (.long q1), .second, .val (.int p1), .val (.int p2), .val (.int p3), .val (.long q2), .second, .val (.int p4), .val (.int p5), .val (.ref a1), .val (.int (0 : Int32)), .unset, .unset, .unset, .unset, .unset, .unset] 238 rfl at_236 rfl rfl ?_
      refine go_iload 240 rfl at_238 rfl ?_
      refine go_if 249 243 rfl (by decide) rfl at_240 rfl (fun (hc : (0 : Int) = 0) => ?_) (fun (hc : ¬ ((0 : Int) = 0)) => absurd hc (by decide))
      refine go_lload 251 rfl at_249 rfl ?_
      refine go_lstore #[.val (.long q1), .second, .val (.int p1), .val (.int p2), .val (.int p3), .val (.long q2), .second, .val (.int p4), .val (.int p5), .val (.ref a1), .val (.int (0 : Int32)), .val (.long q2), .second, .unset, .unset, .unset, .unset] 253 rfl at_251 rfl rfl ?_
      refine go_iload 255 rfl at_253 rfl ?_
      refine go_iload 257 rfl at_255 rfl ?_
      refine go_if 264 260 rfl (by decide) rfl at_257 rfl (fun (hc : (0 : Int) = 0) => ?_) (fun (hc : ¬ ((0 : Int) = 0)) => absurd hc (by decide))
      refine go_iconst (0 : Int32) 265 rfl at_264 rfl ?_
      refine go_iadd 266 rfl at_265 rfl ?_
      refine go_istore #[.val (.long q1), .second, .val (.int p1), .val (.int p2), .val (.int p3), .val (.long q2), .second, .val (.int p4), .val (.int p5), .val (.ref a1), .val (.int (0 : Int32)), .val (.long q2), .second, .val (.int (p4 + (0 : Int32))), .unset, .unset, .unset] 268 rfl at_266 rfl rfl ?_
      refine go_iload 270 rfl at_268 rfl ?_
      refine go_lload 272 rfl at_270 rfl ?_
      have hr0 : 0 ≤ q2.toInt := by omega
      refine go_callS 275 rfl at_272 (wd hw 2 rfl) (wd hw 3 rfl) (wd hw 4 rfl) (wd hw 5 rfl) (by decide) (m_dc Z a0 hw h0 [ar a1 .byte (tab (fun _ => (85 : Int32)))] q2 hr0) (argsL := [(.long q2)]) (rest := [(.int (p4 + (0 : Int32)))]) rfl (ps := [.long]) (by decide +kernel) rfl rfl 1 rfl (by decide) (by decide) (by decide) (by decide) ?_
      rintro _ _ ⟨z1, j1, rfl, rfl, hj1, hD1⟩
      show Go B0 Z a0 h0 _ 1 32 [ar a1 .byte (tab (fun _ => (85 : Int32)))] 275 #[.val (.long q1), .second, .val (.int p1), .val (.int p2), .val (.int p3), .val (.long q2), .second, .val (.int p4), .val (.int p5), .val (.ref a1), .val (.int (0 : Int32)), .val (.long q2), .second, .val (.int (p4 + (0 : Int32))), .unset, .unset, .unset] [(.int z1), (.int (p4 + (0 : Int32)))]
      refine go_iadd 276 rfl at_275 rfl ?_
      refine go_istore #[.val (.long q1), .second, .val (.int p1), .val (.int p2), .val (.int p3), .val (.long q2), .second, .val (.int p4), .val (.int p5), .val (.ref a1), .val (.int (0 : Int32)), .val (.long q2), .second, .val (.int (p4 + (0 : Int32))), .val (.int ((p4 + (0 : Int32)) + z1)), .unset, .unset] 278 rfl at_276 rfl rfl ?_
      refine go_aload 280 rfl at_278 rfl rfl ?_
      refine go_iload 282 rfl at_280 rfl ?_
      refine go_lload 284 rfl at_282 rfl ?_
      refine go_callS 287 rfl at_284 (wd hw 24 rfl) (wd hw 25 rfl) (wd hw 26 rfl) (wd hw 27 rfl) (by decide) (m_putP Z a0 hw h0 a1 p4 q2 (fun _ => (85 : Int32)) h4 (by omega)) (argsL := [(.ref a1), (.int p4), (.long q2)]) (rest := []) rfl (ps := [(.array .byte), .int, .long]) (by decide +kernel) rfl rfl 0 rfl (by decide) (by decide) (by decide) (by decide) ?_
      rintro _ _ ⟨z2, j2, rfl, hj2, hD2, rfl⟩
      show Go B0 Z a0 h0 _ 1 32 [ar a1 .byte (tab (Wf q2.toInt.toNat p4.toInt.toNat j2 (fun _ => (85 : Int32)) 0))] 287 #[.val (.long q1), .second, .val (.int p1), .val (.int p2), .val (.int p3), .val (.long q2), .second, .val (.int p4), .val (.int p5), .val (.ref a1), .val (.int (0 : Int32)), .val (.long q2), .second, .val (.int (p4 + (0 : Int32))), .val (.int ((p4 + (0 : Int32)) + z1)), .unset, .unset] [(.int z2)]
      obtain rfl : j2 = j1 := hD2.uniq hD1
      have ka1 := c_iadd p4 1; have kb1 := rng32 (p4 + 1); have kf1 : (1 : Int32).toInt = 1 := rfl; have ka2 := c_iadd p4 0; have kb2 := rng32 (p4 + 0); have kf0 : (0 : Int32).toInt = 0 := rfl; have kx1 := c_iadd (p4 + (0 : Int32)) z1; have ky1 := rng32 ((p4 + (0 : Int32)) + z1)
      have j19 : j2 ≤ 19 := by
        have h := hD2.2.2
        have g := big19 _ hr0
        rcases h with h | h
        · omega
        · have : 10 ^ (j2 - 1) < 10 ^ 19 := Nat.lt_of_le_of_lt h g
          have := (Nat.pow_lt_pow_iff_right (by decide : 1 < 10)).mp this
          omega
      have j01 := hD2.1
      refine go_istore #[.val (.long q1), .second, .val (.int p1), .val (.int p2), .val (.int p3), .val (.long q2), .second, .val (.int p4), .val (.int p5), .val (.ref a1), .val (.int (0 : Int32)), .val (.long q2), .second, .val (.int (p4 + (0 : Int32))), .val (.int ((p4 + (0 : Int32)) + z1)), .val (.int z2), .unset] 289 rfl at_287 rfl rfl ?_
      refine go_iload 291 rfl at_289 rfl ?_
      refine go_iload 293 rfl at_291 rfl ?_
      refine go_icmp 298 296 rfl (by decide) rfl at_293 rfl (fun (hc : z2.toInt = ((p4 + (0 : Int32)) + z1).toInt) => ?_) (fun (hc : ¬ (z2.toInt = ((p4 + (0 : Int32)) + z1).toInt)) => absurd hc (by omega))
      refine go_iload 300 rfl at_298 rfl ?_
      refine go_iload 302 rfl at_300 rfl ?_
      refine go_icmp 312 305 rfl (by decide) rfl at_302 rfl (fun (hi : p5.toInt < p4.toInt) => ?_) (fun (hi : ¬ (p5.toInt < p4.toInt)) => ?_)
      · refine go_bipush (85 : Int32) 314 rfl at_312 rfl ?_
        refine go_istore #[.val (.long q1), .second, .val (.int p1), .val (.int p2), .val (.int p3), .val (.long q2), .second, .val (.int p4), .val (.int p5), .val (.ref a1), .val (.int (0 : Int32)), .val (.long q2), .second, .val (.int (p4 + (0 : Int32))), .val (.int ((p4 + (0 : Int32)) + z1)), .val (.int z2), .val (.int (85 : Int32))] 316 rfl at_314 rfl rfl ?_
        refine go_goto 356 (by decide) rfl at_316 ?_
        refine go_aload 358 rfl at_356 rfl rfl ?_
        refine go_iload 360 rfl at_358 rfl ?_
        have n5 : ¬ p5 < 0 := by rw [Int32.lt_iff_toInt_lt]; omega
        have ix : p5.toNatClampNeg = p5.toInt.toNat := rfl
        refine go_baload (v := .int (Wf q2.toInt.toNat p4.toInt.toNat j2 (fun _ => (85 : Int32)) 0 p5.toInt.toNat)) 361 rfl at_360 rfl (Mo.el (i := 0) rfl n5 (by rw [ix]; exact tab_get _ _ (by omega))) ?_
        refine go_iload 363 rfl at_361 rfl ?_
        refine go_i2b 364 rfl at_363 rfl ?_
        have hF : (Wf q2.toInt.toNat p4.toInt.toNat j2 (fun _ => (85 : Int32)) 0 p5.toInt.toNat).toInt = ((85 : Int32).toInt8.toInt32).toInt := by
          unfold Wf; rw [if_neg (by omega)]; rfl
        refine go_icmp 371 367 rfl (by decide) rfl at_364 rfl (fun (hc : (Wf q2.toInt.toNat p4.toInt.toNat j2 (fun _ => (85 : Int32)) 0 p5.toInt.toNat).toInt ≠ ((85 : Int32).toInt8.toInt32).toInt) => absurd hc (by omega)) (fun (hc : ¬ ((Wf q2.toInt.toNat p4.toInt.toNat j2 (fun _ => (85 : Int32)) 0 p5.toInt.toNat).toInt ≠ ((85 : Int32).toInt8.toInt32).toInt)) => ?_)
        refine go_iconst (1 : Int32) 368 rfl at_367 rfl ?_
        refine go_goto 372 (by decide) rfl at_368 ?_
        exact go_ireturn at_372 rfl (Or.inr (Or.inl rfl)) rfl rfl (by decide) (by decide) rfl
      · refine go_iload 307 rfl at_305 rfl ?_
        refine go_iload 309 rfl at_307 rfl ?_
        refine go_icmp 319 312 rfl (by decide) rfl at_309 rfl (fun (hj : p5.toInt < ((p4 + (0 : Int32)) + z1).toInt) => ?_) (fun (hj : ¬ (p5.toInt < ((p4 + (0 : Int32)) + z1).toInt)) => ?_)
        · refine go_iload 321 rfl at_319 rfl ?_
          refine go_iload 323 rfl at_321 rfl ?_
          refine go_icmp 333 326 rfl (by decide) rfl at_323 rfl (fun (hc : (p4 + (0 : Int32)).toInt ≤ p5.toInt) => ?_) (fun (hc : ¬ ((p4 + (0 : Int32)).toInt ≤ p5.toInt)) => absurd hc (by omega))
          refine go_bipush (48 : Int32) 335 rfl at_333 rfl ?_
          refine go_lload 337 rfl at_335 rfl ?_
          refine go_iload 339 rfl at_337 rfl ?_
          refine go_iconst (1 : Int32) 340 rfl at_339 rfl ?_
          refine go_isub 341 rfl at_340 rfl ?_
          refine go_iload 343 rfl at_341 rfl ?_
          refine go_isub 344 rfl at_343 rfl ?_
          have kx2 := c_isub ((p4 + (0 : Int32)) + z1) 1; have ky2 := rng32 (((p4 + (0 : Int32)) + z1) - 1); have kx3 := c_isub (((p4 + (0 : Int32)) + z1) - 1) p5; have ky3 := rng32 ((((p4 + (0 : Int32)) + z1) - 1) - p5)
          refine go_callS 347 rfl at_344 (wd hw 30 rfl) (wd hw 31 rfl) (wd hw 4 rfl) (wd hw 32 rfl) (by decide) (m_pow Z a0 hw h0 a1 _ ((((p4 + (0 : Int32)) + z1) - (1 : Int32)) - p5) (by omega)) (argsL := [(.int ((((p4 + (0 : Int32)) + z1) - (1 : Int32)) - p5))]) (rest := [(.long q2), (.int (48 : Int32))]) rfl (ps := [.int]) (by decide +kernel) rfl rfl 3 rfl (by decide) (by decide) (by decide) (by decide) ?_
          rintro _ _ ⟨q7, b1, vs, rfl, hP, rfl⟩
          show Go B0 Z a0 h0 _ 2 51 [ar a1 .byte (tab (Wf q2.toInt.toNat p4.toInt.toNat j2 (fun _ => (85 : Int32)) 0)), ar b1 .long vs] 347 #[.val (.long q1), .second, .val (.int p1), .val (.int p2), .val (.int p3), .val (.long q2), .second, .val (.int p4), .val (.int p5), .val (.ref a1), .val (.int (0 : Int32)), .val (.long q2), .second, .val (.int (p4 + (0 : Int32))), .val (.int ((p4 + (0 : Int32)) + z1)), .val (.int z2), .unset] [(.long q7), (.long q2), (.int (48 : Int32))]
          have pp : 0 < q7.toInt := by rw [hP]; exact Int.natCast_pos.mpr (Nat.pow_pos (by decide))
          refine go_ldiv 348 rfl at_347 rfl (fun q => by rw [q] at pp; exact absurd pp (by decide)) ?_
          refine go_ldc2 (v := (10 : Int64)) 351 rfl at_348 (wd hw 6 rfl) ?_
          refine go_lrem 352 rfl at_351 rfl (by decide) ?_
          refine go_l2i 353 rfl at_352 rfl ?_
          refine go_iadd 354 rfl at_353 rfl ?_
          refine go_istore #[.val (.long q1), .second, .val (.int p1), .val (.int p2), .val (.int p3), .val (.long q2), .second, .val (.int p4), .val (.int p5), .val (.ref a1), .val (.int (0 : Int32)), .val (.long q2), .second, .val (.int (p4 + (0 : Int32))), .val (.int ((p4 + (0 : Int32)) + z1)), .val (.int z2), .val (.int ((48 : Int32) + (((q2 / q7) % (10 : Int64)).toInt32)))] 356 rfl at_354 rfl rfl ?_
          refine go_aload 358 rfl at_356 rfl rfl ?_
          refine go_iload 360 rfl at_358 rfl ?_
          have n5 : ¬ p5 < 0 := by rw [Int32.lt_iff_toInt_lt]; omega
          have ix : p5.toNatClampNeg = p5.toInt.toNat := rfl
          refine go_baload (v := .int (Wf q2.toInt.toNat p4.toInt.toNat j2 (fun _ => (85 : Int32)) 0 p5.toInt.toNat)) 361 rfl at_360 rfl (Mo.el (i := 0) rfl n5 (by rw [ix]; exact tab_get _ _ (by omega))) ?_
          refine go_iload 363 rfl at_361 rfl ?_
          refine go_i2b 364 rfl at_363 rfl ?_
          have hF : (Wf q2.toInt.toNat p4.toInt.toNat j2 (fun _ => (85 : Int32)) 0 p5.toInt.toNat).toInt = (((48 : Int32) + (((q2 / q7) % (10 : Int64)).toInt32)).toInt8.toInt32).toInt := by
            unfold Wf; rw [if_pos (by omega), dgI_toInt]
            have n1 : q7 ≠ -1 := fun q => by rw [q] at pp; exact absurd pp (by decide)
            have d1 := (c_ldiv q2 q7 _ rfl n1).1 hr0
            have d2 : 0 ≤ (q2 / q7).toInt := by rw [d1]; exact Int.ediv_nonneg hr0 (by omega)
            have d3 := lmod10 (q2 / q7) d2
            have d4 := c_l2i ((q2 / q7) % 10)
            have d5 := rng32 ((q2 / q7) % 10).toInt32
            have d6 := c_iadd 48 ((q2 / q7) % 10).toInt32
            have d7 := rng32 (48 + ((q2 / q7) % 10).toInt32)
            have d8 := c_i2b (48 + ((q2 / q7) % 10).toInt32)
            have f48 : (48 : Int32).toInt = 48 := rfl
            have ex : p4.toInt.toNat + j2 - 1 - p5.toInt.toNat = ((((p4 + (0 : Int32)) + z1) - (1 : Int32)) - p5).toInt.toNat := by omega
            rw [ex]
            have key : (q2 / q7).toInt = ((q2.toInt.toNat / 10 ^ ((((p4 + (0 : Int32)) + z1) - (1 : Int32)) - p5).toInt.toNat : Nat) : Int) := by
              rw [d1, hP, Int.natCast_ediv, Int.toNat_of_nonneg hr0]
            rw [Int.natCast_emod, ← key]
            have f10 : ((10 : Nat) : Int) = 10 := rfl
            omega
          refine go_icmp 371 367 rfl (by decide) rfl at_364 rfl (fun (hc : (Wf q2.toInt.toNat p4.toInt.toNat j2 (fun _ => (85 : Int32)) 0 p5.toInt.toNat).toInt ≠ (((48 : Int32) + (((q2 / q7) % (10 : Int64)).toInt32)).toInt8.toInt32).toInt) => absurd hc (by omega)) (fun (hc : ¬ ((Wf q2.toInt.toNat p4.toInt.toNat j2 (fun _ => (85 : Int32)) 0 p5.toInt.toNat).toInt ≠ (((48 : Int32) + (((q2 / q7) % (10 : Int64)).toInt32)).toInt8.toInt32).toInt)) => ?_)
          refine go_iconst (1 : Int32) 368 rfl at_367 rfl ?_
          refine go_goto 372 (by decide) rfl at_368 ?_
          exact go_ireturn at_372 rfl (Or.inr (Or.inl rfl)) rfl rfl (by decide) (by decide) rfl
        · refine go_bipush (85 : Int32) 314 rfl at_312 rfl ?_
          refine go_istore #[.val (.long q1), .second, .val (.int p1), .val (.int p2), .val (.int p3), .val (.long q2), .second, .val (.int p4), .val (.int p5), .val (.ref a1), .val (.int (0 : Int32)), .val (.long q2), .second, .val (.int (p4 + (0 : Int32))), .val (.int ((p4 + (0 : Int32)) + z1)), .val (.int z2), .val (.int (85 : Int32))] 316 rfl at_314 rfl rfl ?_
          refine go_goto 356 (by decide) rfl at_316 ?_
          refine go_aload 358 rfl at_356 rfl rfl ?_
          refine go_iload 360 rfl at_358 rfl ?_
          have n5 : ¬ p5 < 0 := by rw [Int32.lt_iff_toInt_lt]; omega
          have ix : p5.toNatClampNeg = p5.toInt.toNat := rfl
          refine go_baload (v := .int (Wf q2.toInt.toNat p4.toInt.toNat j2 (fun _ => (85 : Int32)) 0 p5.toInt.toNat)) 361 rfl at_360 rfl (Mo.el (i := 0) rfl n5 (by rw [ix]; exact tab_get _ _ (by omega))) ?_
          refine go_iload 363 rfl at_361 rfl ?_
          refine go_i2b 364 rfl at_363 rfl ?_
          have hF : (Wf q2.toInt.toNat p4.toInt.toNat j2 (fun _ => (85 : Int32)) 0 p5.toInt.toNat).toInt = ((85 : Int32).toInt8.toInt32).toInt := by
            unfold Wf; rw [if_neg (by omega)]; rfl
          refine go_icmp 371 367 rfl (by decide) rfl at_364 rfl (fun (hc : (Wf q2.toInt.toNat p4.toInt.toNat j2 (fun _ => (85 : Int32)) 0 p5.toInt.toNat).toInt ≠ ((85 : Int32).toInt8.toInt32).toInt) => absurd hc (by omega)) (fun (hc : ¬ ((Wf q2.toInt.toNat p4.toInt.toNat j2 (fun _ => (85 : Int32)) 0 p5.toInt.toNat).toInt ≠ ((85 : Int32).toInt8.toInt32).toInt)) => ?_)
          refine go_iconst (1 : Int32) 368 rfl at_367 rfl ?_
          refine go_goto 372 (by decide) rfl at_368 ?_
          exact go_ireturn at_372 rfl (Or.inr (Or.inl rfl)) rfl rfl (by decide) (by decide) rfl
    · refine go_iconst (1 : Int32) 232 rfl at_231 rfl ?_
      refine go_goto 236 (by decide) rfl at_232 ?_
      refine go_istore #[.val (.long q1), .second, .val (.int p1), .val (.int p2), .val (.int p3), .val (.long q2), .second, .val (.int p4), .val (.int p5), .val (.ref a1), .val (.int (1 : Int32)), .unset, .unset, .unset, .unset, .unset, .unset] 238 rfl at_236 rfl rfl ?_
      refine go_iload 240 rfl at_238 rfl ?_
      refine go_if 249 243 rfl (by decide) rfl at_240 rfl (fun (hc : (1 : Int) = 0) => absurd hc (by decide)) (fun (hc : ¬ ((1 : Int) = 0)) => ?_)
      refine go_lload 245 rfl at_243 rfl ?_
      refine go_lneg 246 rfl at_245 rfl ?_
      refine go_goto 251 (by decide) rfl at_246 ?_
      refine go_lstore #[.val (.long q1), .second, .val (.int p1), .val (.int p2), .val (.int p3), .val (.long q2), .second, .val (.int p4), .val (.int p5), .val (.ref a1), .val (.int (1 : Int32)), .val (.long (-q2)), .second, .unset, .unset, .unset, .unset] 253 rfl at_251 rfl rfl ?_
      refine go_iload 255 rfl at_253 rfl ?_
      refine go_iload 257 rfl at_255 rfl ?_
      refine go_if 264 260 rfl (by decide) rfl at_257 rfl (fun (hc : (1 : Int) = 0) => absurd hc (by decide)) (fun (hc : ¬ ((1 : Int) = 0)) => ?_)
      refine go_iconst (1 : Int32) 261 rfl at_260 rfl ?_
      refine go_goto 265 (by decide) rfl at_261 ?_
      refine go_iadd 266 rfl at_265 rfl ?_
      refine go_istore #[.val (.long q1), .second, .val (.int p1), .val (.int p2), .val (.int p3), .val (.long q2), .second, .val (.int p4), .val (.int p5), .val (.ref a1), .val (.int (1 : Int32)), .val (.long (-q2)), .second, .val (.int (p4 + (1 : Int32))), .unset, .unset, .unset] 268 rfl at_266 rfl rfl ?_
      refine go_iload 270 rfl at_268 rfl ?_
      refine go_lload 272 rfl at_270 rfl ?_
      have hr0 : 0 ≤ (-q2).toInt := by have a := c_lneg q2; have b := rng64 (-q2); omega
      refine go_callS 275 rfl at_272 (wd hw 2 rfl) (wd hw 3 rfl) (wd hw 4 rfl) (wd hw 5 rfl) (by decide) (m_dc Z a0 hw h0 [ar a1 .byte (tab (fun _ => (85 : Int32)))] (-q2) hr0) (argsL := [(.long (-q2))]) (rest := [(.int (p4 + (1 : Int32)))]) rfl (ps := [.long]) (by decide +kernel) rfl rfl 1 rfl (by decide) (by decide) (by decide) (by decide) ?_
      rintro _ _ ⟨z1, j1, rfl, rfl, hj1, hD1⟩
      show Go B0 Z a0 h0 _ 1 32 [ar a1 .byte (tab (fun _ => (85 : Int32)))] 275 #[.val (.long q1), .second, .val (.int p1), .val (.int p2), .val (.int p3), .val (.long q2), .second, .val (.int p4), .val (.int p5), .val (.ref a1), .val (.int (1 : Int32)), .val (.long (-q2)), .second, .val (.int (p4 + (1 : Int32))), .unset, .unset, .unset] [(.int z1), (.int (p4 + (1 : Int32)))]
      refine go_iadd 276 rfl at_275 rfl ?_
      refine go_istore #[.val (.long q1), .second, .val (.int p1), .val (.int p2), .val (.int p3), .val (.long q2), .second, .val (.int p4), .val (.int p5), .val (.ref a1), .val (.int (1 : Int32)), .val (.long (-q2)), .second, .val (.int (p4 + (1 : Int32))), .val (.int ((p4 + (1 : Int32)) + z1)), .unset, .unset] 278 rfl at_276 rfl rfl ?_
      refine go_aload 280 rfl at_278 rfl rfl ?_
      refine go_iload 282 rfl at_280 rfl ?_
      refine go_lload 284 rfl at_282 rfl ?_
      refine go_callS 287 rfl at_284 (wd hw 24 rfl) (wd hw 25 rfl) (wd hw 26 rfl) (wd hw 27 rfl) (by decide) (m_putN Z a0 hw h0 a1 p4 q2 (fun _ => (85 : Int32)) h4 (by omega) (by omega)) (argsL := [(.ref a1), (.int p4), (.long q2)]) (rest := []) rfl (ps := [(.array .byte), .int, .long]) (by decide +kernel) rfl rfl 0 rfl (by decide) (by decide) (by decide) (by decide) ?_
      rintro _ _ ⟨z2, j2, rfl, hj2, hD2, rfl⟩
      show Go B0 Z a0 h0 _ 1 32 [ar a1 .byte (tab (Wf (-q2).toInt.toNat (p4 + (1 : Int32)).toInt.toNat j2 (fun i => if i = p4.toInt.toNat then (45 : Int32) else (fun _ => (85 : Int32)) i) 0))] 287 #[.val (.long q1), .second, .val (.int p1), .val (.int p2), .val (.int p3), .val (.long q2), .second, .val (.int p4), .val (.int p5), .val (.ref a1), .val (.int (1 : Int32)), .val (.long (-q2)), .second, .val (.int (p4 + (1 : Int32))), .val (.int ((p4 + (1 : Int32)) + z1)), .unset, .unset] [(.int z2)]
      obtain rfl : j2 = j1 := hD2.uniq hD1
      have ka1 := c_iadd p4 1; have kb1 := rng32 (p4 + 1); have kf1 : (1 : Int32).toInt = 1 := rfl; have ka2 := c_iadd p4 0; have kb2 := rng32 (p4 + 0); have kf0 : (0 : Int32).toInt = 0 := rfl; have kx1 := c_iadd (p4 + (1 : Int32)) z1; have ky1 := rng32 ((p4 + (1 : Int32)) + z1)
      have j19 : j2 ≤ 19 := by
        have h := hD2.2.2
        have g := big19 _ hr0
        rcases h with h | h
        · omega
        · have : 10 ^ (j2 - 1) < 10 ^ 19 := Nat.lt_of_le_of_lt h g
          have := (Nat.pow_lt_pow_iff_right (by decide : 1 < 10)).mp this
          omega
      have j01 := hD2.1
      refine go_istore #[.val (.long q1), .second, .val (.int p1), .val (.int p2), .val (.int p3), .val (.long q2), .second, .val (.int p4), .val (.int p5), .val (.ref a1), .val (.int (1 : Int32)), .val (.long (-q2)), .second, .val (.int (p4 + (1 : Int32))), .val (.int ((p4 + (1 : Int32)) + z1)), .val (.int z2), .unset] 289 rfl at_287 rfl rfl ?_
      refine go_iload 291 rfl at_289 rfl ?_
      refine go_iload 293 rfl at_291 rfl ?_
      refine go_icmp 298 296 rfl (by decide) rfl at_293 rfl (fun (hc : z2.toInt = ((p4 + (1 : Int32)) + z1).toInt) => ?_) (fun (hc : ¬ (z2.toInt = ((p4 + (1 : Int32)) + z1).toInt)) => absurd hc (by omega))
      refine go_iload 300 rfl at_298 rfl ?_
      refine go_iload 302 rfl at_300 rfl ?_
      refine go_icmp 312 305 rfl (by decide) rfl at_302 rfl (fun (hi : p5.toInt < p4.toInt) => ?_) (fun (hi : ¬ (p5.toInt < p4.toInt)) => ?_)
      · refine go_bipush (85 : Int32) 314 rfl at_312 rfl ?_
        refine go_istore #[.val (.long q1), .second, .val (.int p1), .val (.int p2), .val (.int p3), .val (.long q2), .second, .val (.int p4), .val (.int p5), .val (.ref a1), .val (.int (1 : Int32)), .val (.long (-q2)), .second, .val (.int (p4 + (1 : Int32))), .val (.int ((p4 + (1 : Int32)) + z1)), .val (.int z2), .val (.int (85 : Int32))] 316 rfl at_314 rfl rfl ?_
        refine go_goto 356 (by decide) rfl at_316 ?_
        refine go_aload 358 rfl at_356 rfl rfl ?_
        refine go_iload 360 rfl at_358 rfl ?_
        have n5 : ¬ p5 < 0 := by rw [Int32.lt_iff_toInt_lt]; omega
        have ix : p5.toNatClampNeg = p5.toInt.toNat := rfl
        refine go_baload (v := .int (Wf (-q2).toInt.toNat (p4 + (1 : Int32)).toInt.toNat j2 (fun i => if i = p4.toInt.toNat then (45 : Int32) else (fun _ => (85 : Int32)) i) 0 p5.toInt.toNat)) 361 rfl at_360 rfl (Mo.el (i := 0) rfl n5 (by rw [ix]; exact tab_get _ _ (by omega))) ?_
        refine go_iload 363 rfl at_361 rfl ?_
        refine go_i2b 364 rfl at_363 rfl ?_
        have hF : (Wf (-q2).toInt.toNat (p4 + (1 : Int32)).toInt.toNat j2 (fun i => if i = p4.toInt.toNat then (45 : Int32) else (fun _ => (85 : Int32)) i) 0 p5.toInt.toNat).toInt = ((85 : Int32).toInt8.toInt32).toInt := by
          unfold Wf; rw [if_neg (by omega)]; dsimp only; rw [if_neg (by omega)]; rfl
        refine go_icmp 371 367 rfl (by decide) rfl at_364 rfl (fun (hc : (Wf (-q2).toInt.toNat (p4 + (1 : Int32)).toInt.toNat j2 (fun i => if i = p4.toInt.toNat then (45 : Int32) else (fun _ => (85 : Int32)) i) 0 p5.toInt.toNat).toInt ≠ ((85 : Int32).toInt8.toInt32).toInt) => absurd hc (by omega)) (fun (hc : ¬ ((Wf (-q2).toInt.toNat (p4 + (1 : Int32)).toInt.toNat j2 (fun i => if i = p4.toInt.toNat then (45 : Int32) else (fun _ => (85 : Int32)) i) 0 p5.toInt.toNat).toInt ≠ ((85 : Int32).toInt8.toInt32).toInt)) => ?_)
        refine go_iconst (1 : Int32) 368 rfl at_367 rfl ?_
        refine go_goto 372 (by decide) rfl at_368 ?_
        exact go_ireturn at_372 rfl (Or.inr (Or.inl rfl)) rfl rfl (by decide) (by decide) rfl
      · refine go_iload 307 rfl at_305 rfl ?_
        refine go_iload 309 rfl at_307 rfl ?_
        refine go_icmp 319 312 rfl (by decide) rfl at_309 rfl (fun (hj : p5.toInt < ((p4 + (1 : Int32)) + z1).toInt) => ?_) (fun (hj : ¬ (p5.toInt < ((p4 + (1 : Int32)) + z1).toInt)) => ?_)
        · refine go_iload 321 rfl at_319 rfl ?_
          refine go_iload 323 rfl at_321 rfl ?_
          refine go_icmp 333 326 rfl (by decide) rfl at_323 rfl (fun (hk : (p4 + (1 : Int32)).toInt ≤ p5.toInt) => ?_) (fun (hk : ¬ ((p4 + (1 : Int32)).toInt ≤ p5.toInt)) => ?_)
          · refine go_bipush (48 : Int32) 335 rfl at_333 rfl ?_
            refine go_lload 337 rfl at_335 rfl ?_
            refine go_iload 339 rfl at_337 rfl ?_
            refine go_iconst (1 : Int32) 340 rfl at_339 rfl ?_
            refine go_isub 341 rfl at_340 rfl ?_
            refine go_iload 343 rfl at_341 rfl ?_
            refine go_isub 344 rfl at_343 rfl ?_
            have kx2 := c_isub ((p4 + (1 : Int32)) + z1) 1; have ky2 := rng32 (((p4 + (1 : Int32)) + z1) - 1); have kx3 := c_isub (((p4 + (1 : Int32)) + z1) - 1) p5; have ky3 := rng32 ((((p4 + (1 : Int32)) + z1) - 1) - p5)
            refine go_callS 347 rfl at_344 (wd hw 30 rfl) (wd hw 31 rfl) (wd hw 4 rfl) (wd hw 32 rfl) (by decide) (m_pow Z a0 hw h0 a1 _ ((((p4 + (1 : Int32)) + z1) - (1 : Int32)) - p5) (by omega)) (argsL := [(.int ((((p4 + (1 : Int32)) + z1) - (1 : Int32)) - p5))]) (rest := [(.long (-q2)), (.int (48 : Int32))]) rfl (ps := [.int]) (by decide +kernel) rfl rfl 3 rfl (by decide) (by decide) (by decide) (by decide) ?_
            rintro _ _ ⟨q7, b1, vs, rfl, hP, rfl⟩
            show Go B0 Z a0 h0 _ 2 51 [ar a1 .byte (tab (Wf (-q2).toInt.toNat (p4 + (1 : Int32)).toInt.toNat j2 (fun i => if i = p4.toInt.toNat then (45 : Int32) else (fun _ => (85 : Int32)) i) 0)), ar b1 .long vs] 347 #[.val (.long q1), .second, .val (.int p1), .val (.int p2), .val (.int p3), .val (.long q2), .second, .val (.int p4), .val (.int p5), .val (.ref a1), .val (.int (1 : Int32)), .val (.long (-q2)), .second, .val (.int (p4 + (1 : Int32))), .val (.int ((p4 + (1 : Int32)) + z1)), .val (.int z2), .unset] [(.long q7), (.long (-q2)), (.int (48 : Int32))]
            have pp : 0 < q7.toInt := by rw [hP]; exact Int.natCast_pos.mpr (Nat.pow_pos (by decide))
            refine go_ldiv 348 rfl at_347 rfl (fun q => by rw [q] at pp; exact absurd pp (by decide)) ?_
            refine go_ldc2 (v := (10 : Int64)) 351 rfl at_348 (wd hw 6 rfl) ?_
            refine go_lrem 352 rfl at_351 rfl (by decide) ?_
            refine go_l2i 353 rfl at_352 rfl ?_
            refine go_iadd 354 rfl at_353 rfl ?_
            refine go_istore #[.val (.long q1), .second, .val (.int p1), .val (.int p2), .val (.int p3), .val (.long q2), .second, .val (.int p4), .val (.int p5), .val (.ref a1), .val (.int (1 : Int32)), .val (.long (-q2)), .second, .val (.int (p4 + (1 : Int32))), .val (.int ((p4 + (1 : Int32)) + z1)), .val (.int z2), .val (.int ((48 : Int32) + ((((-q2) / q7) % (10 : Int64)).toInt32)))] 356 rfl at_354 rfl rfl ?_
            refine go_aload 358 rfl at_356 rfl rfl ?_
            refine go_iload 360 rfl at_358 rfl ?_
            have n5 : ¬ p5 < 0 := by rw [Int32.lt_iff_toInt_lt]; omega
            have ix : p5.toNatClampNeg = p5.toInt.toNat := rfl
            refine go_baload (v := .int (Wf (-q2).toInt.toNat (p4 + (1 : Int32)).toInt.toNat j2 (fun i => if i = p4.toInt.toNat then (45 : Int32) else (fun _ => (85 : Int32)) i) 0 p5.toInt.toNat)) 361 rfl at_360 rfl (Mo.el (i := 0) rfl n5 (by rw [ix]; exact tab_get _ _ (by omega))) ?_
            refine go_iload 363 rfl at_361 rfl ?_
            refine go_i2b 364 rfl at_363 rfl ?_
            have hF : (Wf (-q2).toInt.toNat (p4 + (1 : Int32)).toInt.toNat j2 (fun i => if i = p4.toInt.toNat then (45 : Int32) else (fun _ => (85 : Int32)) i) 0 p5.toInt.toNat).toInt = (((48 : Int32) + ((((-q2) / q7) % (10 : Int64)).toInt32)).toInt8.toInt32).toInt := by
              unfold Wf; rw [if_pos (by omega), dgI_toInt]
              have n1 : q7 ≠ -1 := fun q => by rw [q] at pp; exact absurd pp (by decide)
              have d1 := (c_ldiv (-q2) q7 _ rfl n1).1 hr0
              have d2 : 0 ≤ ((-q2) / q7).toInt := by rw [d1]; exact Int.ediv_nonneg hr0 (by omega)
              have d3 := lmod10 ((-q2) / q7) d2
              have d4 := c_l2i (((-q2) / q7) % 10)
              have d5 := rng32 (((-q2) / q7) % 10).toInt32
              have d6 := c_iadd 48 (((-q2) / q7) % 10).toInt32
              have d7 := rng32 (48 + (((-q2) / q7) % 10).toInt32)
              have d8 := c_i2b (48 + (((-q2) / q7) % 10).toInt32)
              have f48 : (48 : Int32).toInt = 48 := rfl
              have ex : (p4 + (1 : Int32)).toInt.toNat + j2 - 1 - p5.toInt.toNat = ((((p4 + (1 : Int32)) + z1) - (1 : Int32)) - p5).toInt.toNat := by omega
              rw [ex]
              have key : ((-q2) / q7).toInt = (((-q2).toInt.toNat / 10 ^ ((((p4 + (1 : Int32)) + z1) - (1 : Int32)) - p5).toInt.toNat : Nat) : Int) := by
                rw [d1, hP, Int.natCast_ediv, Int.toNat_of_nonneg hr0]
              rw [Int.natCast_emod, ← key]
              have f10 : ((10 : Nat) : Int) = 10 := rfl
              omega
            refine go_icmp 371 367 rfl (by decide) rfl at_364 rfl (fun (hc : (Wf (-q2).toInt.toNat (p4 + (1 : Int32)).toInt.toNat j2 (fun i => if i = p4.toInt.toNat then (45 : Int32) else (fun _ => (85 : Int32)) i) 0 p5.toInt.toNat).toInt ≠ (((48 : Int32) + ((((-q2) / q7) % (10 : Int64)).toInt32)).toInt8.toInt32).toInt) => absurd hc (by omega)) (fun (hc : ¬ ((Wf (-q2).toInt.toNat (p4 + (1 : Int32)).toInt.toNat j2 (fun i => if i = p4.toInt.toNat then (45 : Int32) else (fun _ => (85 : Int32)) i) 0 p5.toInt.toNat).toInt ≠ (((48 : Int32) + ((((-q2) / q7) % (10 : Int64)).toInt32)).toInt8.toInt32).toInt)) => ?_)
            refine go_iconst (1 : Int32) 368 rfl at_367 rfl ?_
            refine go_goto 372 (by decide) rfl at_368 ?_
            exact go_ireturn at_372 rfl (Or.inr (Or.inl rfl)) rfl rfl (by decide) (by decide) rfl
          · refine go_bipush (45 : Int32) 328 rfl at_326 rfl ?_
            refine go_istore #[.val (.long q1), .second, .val (.int p1), .val (.int p2), .val (.int p3), .val (.long q2), .second, .val (.int p4), .val (.int p5), .val (.ref a1), .val (.int (1 : Int32)), .val (.long (-q2)), .second, .val (.int (p4 + (1 : Int32))), .val (.int ((p4 + (1 : Int32)) + z1)), .val (.int z2), .val (.int (45 : Int32))] 330 rfl at_328 rfl rfl ?_
            refine go_goto 356 (by decide) rfl at_330 ?_
            refine go_aload 358 rfl at_356 rfl rfl ?_
            refine go_iload 360 rfl at_358 rfl ?_
            have n5 : ¬ p5 < 0 := by rw [Int32.lt_iff_toInt_lt]; omega
            have ix : p5.toNatClampNeg = p5.toInt.toNat := rfl
            refine go_baload (v := .int (Wf (-q2).toInt.toNat (p4 + (1 : Int32)).toInt.toNat j2 (fun i => if i = p4.toInt.toNat then (45 : Int32) else (fun _ => (85 : Int32)) i) 0 p5.toInt.toNat)) 361 rfl at_360 rfl (Mo.el (i := 0) rfl n5 (by rw [ix]; exact tab_get _ _ (by omega))) ?_
            refine go_iload 363 rfl at_361 rfl ?_
            refine go_i2b 364 rfl at_363 rfl ?_
            have hF : (Wf (-q2).toInt.toNat (p4 + (1 : Int32)).toInt.toNat j2 (fun i => if i = p4.toInt.toNat then (45 : Int32) else (fun _ => (85 : Int32)) i) 0 p5.toInt.toNat).toInt = ((45 : Int32).toInt8.toInt32).toInt := by
              unfold Wf; rw [if_neg (by omega)]; dsimp only; rw [if_pos (by omega)]; rfl
            refine go_icmp 371 367 rfl (by decide) rfl at_364 rfl (fun (hc : (Wf (-q2).toInt.toNat (p4 + (1 : Int32)).toInt.toNat j2 (fun i => if i = p4.toInt.toNat then (45 : Int32) else (fun _ => (85 : Int32)) i) 0 p5.toInt.toNat).toInt ≠ ((45 : Int32).toInt8.toInt32).toInt) => absurd hc (by omega)) (fun (hc : ¬ ((Wf (-q2).toInt.toNat (p4 + (1 : Int32)).toInt.toNat j2 (fun i => if i = p4.toInt.toNat then (45 : Int32) else (fun _ => (85 : Int32)) i) 0 p5.toInt.toNat).toInt ≠ ((45 : Int32).toInt8.toInt32).toInt)) => ?_)
            refine go_iconst (1 : Int32) 368 rfl at_367 rfl ?_
            refine go_goto 372 (by decide) rfl at_368 ?_
            exact go_ireturn at_372 rfl (Or.inr (Or.inl rfl)) rfl rfl (by decide) (by decide) rfl
        · refine go_bipush (85 : Int32) 314 rfl at_312 rfl ?_
          refine go_istore #[.val (.long q1), .second, .val (.int p1), .val (.int p2), .val (.int p3), .val (.long q2), .second, .val (.int p4), .val (.int p5), .val (.ref a1), .val (.int (1 : Int32)), .val (.long (-q2)), .second, .val (.int (p4 + (1 : Int32))), .val (.int ((p4 + (1 : Int32)) + z1)), .val (.int z2), .val (.int (85 : Int32))] 316 rfl at_314 rfl rfl ?_
          refine go_goto 356 (by decide) rfl at_316 ?_
          refine go_aload 358 rfl at_356 rfl rfl ?_
          refine go_iload 360 rfl at_358 rfl ?_
          have n5 : ¬ p5 < 0 := by rw [Int32.lt_iff_toInt_lt]; omega
          have ix : p5.toNatClampNeg = p5.toInt.toNat := rfl
          refine go_baload (v := .int (Wf (-q2).toInt.toNat (p4 + (1 : Int32)).toInt.toNat j2 (fun i => if i = p4.toInt.toNat then (45 : Int32) else (fun _ => (85 : Int32)) i) 0 p5.toInt.toNat)) 361 rfl at_360 rfl (Mo.el (i := 0) rfl n5 (by rw [ix]; exact tab_get _ _ (by omega))) ?_
          refine go_iload 363 rfl at_361 rfl ?_
          refine go_i2b 364 rfl at_363 rfl ?_
          have hF : (Wf (-q2).toInt.toNat (p4 + (1 : Int32)).toInt.toNat j2 (fun i => if i = p4.toInt.toNat then (45 : Int32) else (fun _ => (85 : Int32)) i) 0 p5.toInt.toNat).toInt = ((85 : Int32).toInt8.toInt32).toInt := by
            unfold Wf; rw [if_neg (by omega)]; dsimp only; rw [if_neg (by omega)]; rfl
          refine go_icmp 371 367 rfl (by decide) rfl at_364 rfl (fun (hc : (Wf (-q2).toInt.toNat (p4 + (1 : Int32)).toInt.toNat j2 (fun i => if i = p4.toInt.toNat then (45 : Int32) else (fun _ => (85 : Int32)) i) 0 p5.toInt.toNat).toInt ≠ ((85 : Int32).toInt8.toInt32).toInt) => absurd hc (by omega)) (fun (hc : ¬ ((Wf (-q2).toInt.toNat (p4 + (1 : Int32)).toInt.toNat j2 (fun i => if i = p4.toInt.toNat then (45 : Int32) else (fun _ => (85 : Int32)) i) 0 p5.toInt.toNat).toInt ≠ ((85 : Int32).toInt8.toInt32).toInt)) => ?_)
          refine go_iconst (1 : Int32) 368 rfl at_367 rfl ?_
          refine go_goto 372 (by decide) rfl at_368 ?_
          exact go_ireturn at_372 rfl (Or.inr (Or.inl rfl)) rfl rfl (by decide) (by decide) rfl
  · refine go_iconst (1 : Int32) 18 rfl at_17 rfl ?_
    exact go_ireturn at_18 rfl (Or.inr (Or.inl rfl)) rfl rfl (by decide) (by decide) rfl
set_option maxRecDepth 65536 in
set_option maxHeartbeats 4000000 in
theorem comes_1 {Post : Tables → Env → Array Value → State → Outcome → State → Prop} (hpost : ∀ tb e args s v u, (limb_1_1.after args s (.returned v) u = true ∧ limb_1_2.after args s (.returned v) u = true ∧ True) → FrameEnd s (.returned v) u (Jvm.fieldLocs frame_1_writes args s ++ Jvm.arrayLocs frame_1_arrays args s ++ Jvm.staticLocs frame_1_statics s) 16 192 → Post tb e args s (.returned v) u) :
    ArmFor flags0 classFile x code maxLocals ret World_1 tables_1 room_1 Calls_1 rest_1 Pre_1 Post := by
  intro l hfl _ _ p e ha hc hk s m args below hf hA hF happ hP
  obtain ⟨hcalls, hrest, hpre⟩ := hP
  obtain ⟨-, -, -, hnamed, -, -, -, hat⟩ := (Spec.applies_iff hf).mp happ
  obtain ⟨hg, hn⟩ := and_e (Cond.before_iff.mp (show (Jvm.Cond.and given_1 narrow_1).before args s = true from hpre))
  obtain ⟨g0, r0⟩ := and_e hg
  obtain ⟨g1, r1⟩ := and_e r0
  obtain ⟨g2, r2⟩ := and_e r1
  obtain ⟨g3, r3⟩ := and_e r2
  obtain ⟨w0, w1, w2, w3, rfl⟩ : ∃ w0 w1 w2 w3 : Value, args = #[w0, w1, w2, w3] := by
    have hs : args.size = 4 := by simpa [Cond.value, given_1] using g0
    obtain ⟨L⟩ := args
    match L, hs with
    | [w0, w1, w2, w3], _ => exact ⟨w0, w1, w2, w3, rfl⟩
  have hw := fun d (hd : d ∈ tables_1) => atoms_spec (ws := Jvm.Cond.code x code maxLocals ret :: tables_1) hat d (List.mem_cons_of_mem _ hd)
  have hfit : Fit s := fun {y c} hc i hi => by
    obtain ⟨ha, rfl⟩ := Array.getElem?_eq_some_iff.mp hc
    have q := List.all_eq_true.mp ((Array.all_eq_true_iff_forall_mem.mp hF) _ (Array.getElem_mem ha)) i (List.mem_range.mpr hi)
    simpa [Array.getElem?_eq_getElem hi] using q
  obtain ⟨i0, e0⟩ := isL_v g1
  obtain rfl : w0 = (.long i0) := Option.some.inj e0
  obtain ⟨i1, e1⟩ := is_v g2
  obtain rfl : w1 = (.int i1) := Option.some.inj e1
  obtain ⟨i2, e2⟩ := is_v g3
  obtain rfl : w2 = (.int i2) := Option.some.inj e2
  obtain ⟨i3, e3⟩ := is_v r3
  obtain rfl : w3 = (.int i3) := Option.some.inj e3
  obtain ⟨n, o, q1, q2, q3, v, L, rfl, ⟨N, ds', M', -, rfl⟩, hq⟩ := law_met s _ hw s.heap i0 i1 i2 i3  l tables_1 s.heap (Mo.start s _ s.heap) p e ha hc hk s m _ below hf ((Spec.applies_iff_loose hf).mp happ).1 ⟨rfl, State.Warmed39.refl s, rfl⟩ trivial
  refine ⟨n, _, q1, q2, q3, hpost _ _ _ _ _ _ ⟨Cond.after_iff.mpr rfl, Cond.after_iff.mpr (eq_i res_at (Term.int_eval (1)) rfl), trivial⟩ ⟨hq.1, hq.2.1, (hq.2.2.sift fun y hy => Or.inr (N y hy)).mono (by decide) (by decide)⟩⟩
theorem main_1_1 : Claimed_1_1 := comes_1 fun _ _ _ _ _ _ h hF => ⟨h.1, hF⟩
theorem main_1_2 : Claimed_1_2 := comes_1 fun _ _ _ _ _ _ h hF => ⟨h.2.1, hF⟩

end Jvm.Pilot.@@N@@
namespace Jvm.Pilot.@@N@@
open Jvm Jvm.ClassFile Sem Op Lib Jvm.Free Jvm.Stand Jvm.Pilot.@@N@@.Jvm.D
/-! MADE BY PROGRAM (witnessworld.py) out of the Statement's table words and the real class files: 11 classes; the members and pool entries that the words name. The judged class is class 1, her method 3. -/
namespace start1
open Jvm.ClassFile
def u (s : String) : CpInfo := .utf8 (stringToUtf16 s)
/-- a pool by its gaps: so many unusable entries, then the entry; so many at the end -/
def gap : Nat → List CpInfo → List CpInfo
  | 0, r => r
  | n + 1, r => .unusable :: gap n r
def poolList (es : List (Nat × CpInfo)) (last : Nat) : List CpInfo := es.foldr (fun e r => gap e.1 (e.2 :: r)) (gap last [])
def pool (es : List (Nat × CpInfo)) (last : Nat) : Array CpInfo := ⟨poolList es last⟩
def fileOf (pool : Array CpInfo) (this : Nat) (attrs : Array Attribute := #[]) (ms : Array MethodInfo := #[]) (fl : Nat := 33) (sup : Nat := 0) (ifs : Array Nat := #[]) (fds : Array FieldInfo := #[]) : ClassFile where
  minorVersion := 0
  majorVersion := 65
  constantPool := pool
  accessFlags := fl
  thisClass := this
  superClass := sup
  interfaces := ifs
  fields := fds
  methods := ms
  attributes := attrs
def plain (name : String) (sup : Option ClassId) : Class where
  name := name
  kind := .ordinary
  loader := none
  accessFlags := 33
  super := sup
  interfaces := #[]
  cf := none
  fields := #[]
  methods := #[]
  instanceTypes := #[]
  staticTypes := #[]
  resolved := #[]
  callSites := []
  init := .initialized
  statics := none
  mirror := none

def pool0 : Array CpInfo := pool [(5, u "<init>"), (0, u "()V"), (1, .class_ 10), (1, u "java/lang/Object")] 113

def k0m0 : Method := { name := "<init>", desc := "()V", sig := { parameters := [], returnType := none }, accessFlags := 1, code := none }
/-- java/lang/Object -/
def k0 : Class := { plain "java/lang/Object" none with
  accessFlags := 33
  interfaces := #[]
  cf := some (fileOf pool0 8 #[] #[{ accessFlags := 1, nameIndex := 5, descriptorIndex := 6, attributes := #[] }] 33 0 #[] #[])
  fields := #[]
  methods := #[k0m0]
  instanceTypes := #[]
  staticTypes := #[]
  resolved := Array.replicate 124 none
  statics := none }

def pool1 : Array CpInfo := pool [(2, .class_ 4), (1, u "java/lang/Object"), (0, u "<init>"), (0, u "()V"), (0, .long 10), (1, .long 100), (1, .long 1000), (1, .long 10000), (1, .long 100000), (1, .long 1000000), (1, .long 10000000), (1, .long 100000000), (1, .long 1000000000), (1, .long 10000000000), (1, .long 100000000000), (1, .long 1000000000000), (1, .long 10000000000000), (1, .long 100000000000000), (1, .long 1000000000000000), (1, .long 10000000000000000), (1, .long 100000000000000000), (1, .long 1000000000000000000), (3, .long 9223372036854775808), (1, .methodref 48 49), (0, .class_ 50), (0, .nameAndType 51 52), (0, u "com/example/cartonmark/cartonmark/pdf/PdfFilePutWholePinLaw"), (0, u "digitCount"), (0, u "(J)I"), (0, .methodref 54 55), (0, .class_ 56), (0, .nameAndType 57 58), (0, u "com/example/cartonmark/cartonmark/pdf/PdfFile"), (0, u "putWhole"), (0, u "([BIJ)I"), (0, .methodref 48 60), (0, .nameAndType 61 62), (0, u "pow10"), (0, u "(I)J"), (3, u "law"), (0, u "(JIII)Z")] 4

def k1m0 : Method := { name := "<init>", desc := "()V", sig := { parameters := [], returnType := none }, accessFlags := 2, code := none }
def k1c1 : Code := { maxStack := 5, maxLocals := 2, code := method_2_code, exceptionTable := #[], attributes := #[] }
def k1m1 : Method := { name := "pow10", desc := "(I)J", sig := { parameters := [.int], returnType := some .long }, accessFlags := 10, code := some k1c1 }
def k1c2 : Code := { maxStack := 5, maxLocals := 2, code := method_3_code, exceptionTable := #[], attributes := #[] }
def k1m2 : Method := { name := "digitCount", desc := "(J)I", sig := { parameters := [.long], returnType := some .int }, accessFlags := 10, code := some k1c2 }
def k1c3 : Code := { maxStack := 5, maxLocals := 17, code := code, exceptionTable := #[], attributes := #[] }
def k1m3 : Method := { name := "law", desc := "(JIII)Z", sig := { parameters := [.long, .int, .int, .int], returnType := some .boolean }, accessFlags := 9, code := some k1c3 }
/-- com/example/cartonmark/cartonmark/pdf/PdfFilePutWholePinLaw -/
def k1 : Class := { plain "com/example/cartonmark/cartonmark/pdf/PdfFilePutWholePinLaw" (some 0) with
  accessFlags := 49
  interfaces := #[]
  cf := some (fileOf pool1 48 #[] #[{ accessFlags := 2, nameIndex := 5, descriptorIndex := 6, attributes := #[] }, { accessFlags := 10, nameIndex := 61, descriptorIndex := 62, attributes := #[] }, { accessFlags := 10, nameIndex := 51, descriptorIndex := 52, attributes := #[] }, { accessFlags := 9, nameIndex := 66, descriptorIndex := 67, attributes := #[] }] 49 2 #[] #[])
  fields := #[]
  methods := #[k1m0, k1m1, k1m2, k1m3]
  instanceTypes := #[]
  staticTypes := #[]
  resolved := Array.replicate 72 none
  statics := none }

def pool2 : Array CpInfo := pool [(3, .class_ 4), (0, u "com/example/cartonmark/cartonmark/pdf/PdfFile"), (1, .class_ 8), (1, u "java/lang/Object"), (5, u "buffer"), (0, u "[B"), (3, u "offsets"), (0, u "[[B"), (2, u "digits"), (5, u "deflater"), (0, u "Ljava/util/zip/Deflater;"), (2, u "compressed"), (2, u "out"), (0, u "Ljava/io/OutputStream;"), (24, u "objects"), (0, u "I"), (23, u "writing"), (49, u "position"), (0, u "J"), (31, u "buffered"), (22, u "POWERS_OF_TEN"), (0, u "[J"), (8, u "putWhole"), (0, u "([BIJ)I"), (0, .long 10), (1, .long 48), (52, u "HEADER"), (0, u "Ljava/lang/String;"), (1, u "COMPRESSION"), (1, u "FRACTION_DIGITS"), (1, u "BUFFER_SIZE"), (0, u "MAX_DIGITS"), (1, u "MOST_NUMBER_BYTES"), (1, u "OFFSET_DIGITS"), (1, u "MAX_OFFSET"), (0, u "OFFSET_BYTES"), (1, u "OFFSETS_PER_BLOCK"), (1, u "BLOCKS")] 47

def k2c0 : Code := { maxStack := 8, maxLocals := 10, code := prog_19_method_16_code, exceptionTable := #[], attributes := #[] }
def k2m0 : Method := { name := "putWhole", desc := "([BIJ)I", sig := { parameters := [(.array .byte), .int, .long], returnType := some .int }, accessFlags := 8, code := some k2c0 }
/-- com/example/cartonmark/cartonmark/pdf/PdfFile -/
def k2 : Class := { plain "com/example/cartonmark/cartonmark/pdf/PdfFile" (some 0) with
  accessFlags := 49
  interfaces := #[]
  cf := some (fileOf pool2 3 #[] #[{ accessFlags := 8, nameIndex := 203, descriptorIndex := 204, attributes := #[] }] 49 6 #[] #[{ accessFlags := 26, nameIndex := 260, descriptorIndex := 261, attributes := #[] }, { accessFlags := 26, nameIndex := 263, descriptorIndex := 63, attributes := #[] }, { accessFlags := 26, nameIndex := 265, descriptorIndex := 63, attributes := #[] }, { accessFlags := 26, nameIndex := 193, descriptorIndex := 194, attributes := #[] }, { accessFlags := 26, nameIndex := 267, descriptorIndex := 63, attributes := #[] }, { accessFlags := 26, nameIndex := 268, descriptorIndex := 63, attributes := #[] }, { accessFlags := 24, nameIndex := 270, descriptorIndex := 63, attributes := #[] }, { accessFlags := 26, nameIndex := 272, descriptorIndex := 63, attributes := #[] }, { accessFlags := 26, nameIndex := 274, descriptorIndex := 138, attributes := #[] }, { accessFlags := 26, nameIndex := 275, descriptorIndex := 63, attributes := #[] }, { accessFlags := 26, nameIndex := 277, descriptorIndex := 63, attributes := #[] }, { accessFlags := 26, nameIndex := 279, descriptorIndex := 63, attributes := #[] }, { accessFlags := 18, nameIndex := 36, descriptorIndex := 37, attributes := #[] }, { accessFlags := 18, nameIndex := 14, descriptorIndex := 15, attributes := #[] }, { accessFlags := 2, nameIndex := 170, descriptorIndex := 63, attributes := #[] }, { accessFlags := 2, nameIndex := 137, descriptorIndex := 138, attributes := #[] }, { accessFlags := 2, nameIndex := 19, descriptorIndex := 20, attributes := #[] }, { accessFlags := 2, nameIndex := 62, descriptorIndex := 63, attributes := #[] }, { accessFlags := 2, nameIndex := 87, descriptorIndex := 63, attributes := #[] }, { accessFlags := 18, nameIndex := 23, descriptorIndex := 15, attributes := #[] }, { accessFlags := 18, nameIndex := 29, descriptorIndex := 30, attributes := #[] }, { accessFlags := 2, nameIndex := 33, descriptorIndex := 15, attributes := #[] }])
  fields := #[{ name := "HEADER", type := (.object "java/lang/String"), accessFlags := 26, slot := 0, constantValue := 0 }, { name := "COMPRESSION", type := .int, accessFlags := 26, slot := 1, constantValue := 0 }, { name := "FRACTION_DIGITS", type := .int, accessFlags := 26, slot := 2, constantValue := 0 }, { name := "POWERS_OF_TEN", type := (.array .long), accessFlags := 26, slot := 3, constantValue := 0 }, { name := "BUFFER_SIZE", type := .int, accessFlags := 26, slot := 4, constantValue := 0 }, { name := "MAX_DIGITS", type := .int, accessFlags := 26, slot := 5, constantValue := 0 }, { name := "MOST_NUMBER_BYTES", type := .int, accessFlags := 24, slot := 6, constantValue := 0 }, { name := "OFFSET_DIGITS", type := .int, accessFlags := 26, slot := 7, constantValue := 0 }, { name := "MAX_OFFSET", type := .long, accessFlags := 26, slot := 8, constantValue := 0 }, { name := "OFFSET_BYTES", type := .int, accessFlags := 26, slot := 9, constantValue := 0 }, { name := "OFFSETS_PER_BLOCK", type := .int, accessFlags := 26, slot := 10, constantValue := 0 }, { name := "BLOCKS", type := .int, accessFlags := 26, slot := 11, constantValue := 0 }, { name := "out", type := (.object "java/io/OutputStream"), accessFlags := 18, slot := 0, constantValue := 0 }, { name := "buffer", type := (.array .byte), accessFlags := 18, slot := 1, constantValue := 0 }, { name := "buffered", type := .int, accessFlags := 2, slot := 2, constantValue := 0 }, { name := "position", type := .long, accessFlags := 2, slot := 3, constantValue := 0 }, { name := "offsets", type := (.array (.array .byte)), accessFlags := 2, slot := 4, constantValue := 0 }, { name := "objects", type := .int, accessFlags := 2, slot := 5, constantValue := 0 }, { name := "writing", type := .int, accessFlags := 2, slot := 6, constantValue := 0 }, { name := "digits", type := (.array .byte), accessFlags := 18, slot := 7, constantValue := 0 }, { name := "deflater", type := (.object "java/util/zip/Deflater"), accessFlags := 18, slot := 8, constantValue := 0 }, { name := "compressed", type := (.array .byte), accessFlags := 2, slot := 9, constantValue := 0 }]
  methods := #[k2m0]
  instanceTypes := #[(.object "java/io/OutputStream"), (.array .byte), .int, .long, (.array (.array .byte)), .int, .int, (.array .byte), (.object "java/util/zip/Deflater"), (.array .byte)]
  staticTypes := #[(.object "java/lang/String"), .int, .int, (.array .long), .int, .int, .int, .int, .long, .int, .int, .int]
  resolved := Array.replicate 327 none
  statics := none }

def pool3 : Array CpInfo := pool [(1, u "java/lang/Cloneable"), (0, .class_ 1), (0, u "java/lang/Object"), (0, .class_ 3)] 3

/-- java/lang/Cloneable -/
def k3 : Class := { plain "java/lang/Cloneable" (some 0) with
  accessFlags := 1537
  interfaces := #[]
  cf := some (fileOf pool3 2 #[] #[] 1537 4 #[] #[])
  fields := #[]
  methods := #[]
  instanceTypes := #[]
  staticTypes := #[]
  resolved := Array.replicate 8 none
  statics := none }

def pool4 : Array CpInfo := pool [(1, u "java/io/Serializable"), (0, .class_ 1), (0, u "java/lang/Object"), (0, .class_ 3)] 3

/-- java/io/Serializable -/
def k4 : Class := { plain "java/io/Serializable" (some 0) with
  accessFlags := 1537
  interfaces := #[]
  cf := some (fileOf pool4 2 #[] #[] 1537 4 #[] #[])
  fields := #[]
  methods := #[]
  instanceTypes := #[]
  staticTypes := #[]
  resolved := Array.replicate 8 none
  statics := none }

/-- the primitive byte -/
def k5 : Class := { plain "byte" none with kind := .primitive 'B', accessFlags := 0x411 }
/-- [B -/
def k6 : Class := { plain "[B" (some 0) with kind := .array 5 .byte, interfaces := #[3, 4], accessFlags := 1041 }

/-- the primitive int -/
def k7 : Class := { plain "int" none with kind := .primitive 'I', accessFlags := 0x411 }
/-- [I -/
def k8 : Class := { plain "[I" (some 0) with kind := .array 7 .int, interfaces := #[3, 4], accessFlags := 1041 }

/-- the primitive long -/
def k9 : Class := { plain "long" none with kind := .primitive 'J', accessFlags := 0x411 }
/-- [J -/
def k10 : Class := { plain "[J" (some 0) with kind := .array 9 .long, interfaces := #[3, 4], accessFlags := 1041 }

def heap : Heap := #[]
def classes : Array Class := #[k0, k1, k2, k3, k4, k5, k6, k7, k8, k9, k10]
def interned : List (Array UInt16 × Addr) := []
def slotsUsed : Nat := 0
def theMethod : MethodId := ⟨1, 3⟩
def args0 : Array Value := #[.long 5, .int 0, .int 2, .int 3]
def aboutOver (below : List Frame) : State where
  vm := { classes := classes, interned := interned.toArray }
  heap := heap
  slotsUsed := slotsUsed
  threads := #[{ frames := .invoking theMethod args0 :: below }]
def below0 : List Frame := [.native { method := ⟨0, 0⟩, args := #[] }]
def about1 : State := aboutOver below0
def p0 : Program := .bare "" "" ""
def e0 : Env := launch0.env 0 0 0
theorem w_frames : about1.frames = Frame.invoking theMethod args0 :: below0 := rfl
set_option maxRecDepth 65536 in
theorem w_args : argsFit about1.vm theMethod args0 = true := by decide +kernel
set_option maxRecDepth 65536 in
theorem w_heap : heapFits about1 = true := by decide +kernel
set_option maxRecDepth 65536 in
theorem w_runnable : about1.curStatus? = some .runnable := by decide +kernel
set_option maxRecDepth 65536 in
theorem w_alone : about1.alone = true := by decide +kernel
set_option maxRecDepth 65536 in
theorem w_named : about1.methodNamed? x = some theMethod := by decide +kernel
set_option maxRecDepth 65536 in
theorem w_hears : about1.hears theMethod below0 = true := by decide +kernel
set_option maxRecDepth 65536 in
theorem w_ripe : about1.ripe theMethod args0 below0 = true := by decide +kernel
theorem w_running : about1.status = .running := rfl
set_option maxRecDepth 65536 in
theorem w_room : about1.hasRoom e0.platform room_1 = true :=
  launch0.hasRoom_least _ room_1 (by decide +kernel) (by decide +kernel) (by decide +kernel) (by decide +kernel) (by decide +kernel) (by decide +kernel)
theorem allAtoms_all (ts : List Jvm.Cond) (a : Array Jvm.Value) (st : Jvm.State) : (allAtoms ts).before a st = ts.all (fun c => c.before a st) := by
  induction ts with
  | nil => rfl
  | cons c t ih =>
    show (Jvm.Cond.and c (allAtoms t)).before a st = _
    rw [Jvm.Cond.before_and, ih, List.all_cons]
def words1 : List Jvm.Cond := Jvm.Cond.code x code maxLocals ret :: tables_1
/-- a 'code' word, met by the world's own term for the bytes: nothing is compared byte by byte -/
theorem code_word {y : MethodName} {bytes : ByteArray} {mx : Nat} {rt : Option FieldType} {a : Array Value} {s : State} {m : MethodId} {meth : Method} {c : Code} (h1 : s.methodNamed? y = some m) (h2 : s.vm.method? m = some meth) (h3 : meth.code = some c) (h4 : c.code = bytes)
    (h5 : (c.maxLocals == mx && c.exceptionTable.isEmpty && decide (c.maxStack ≤ mostOperands) && decide (meth.sig.returnType = rt) && !meth.locks && decide (parseMethodDescriptor y.desc = some meth.sig)) = true) : (Jvm.Cond.code y bytes mx rt).before a s = true := by
  simp only [Bool.and_eq_true, beq_iff_eq, Bool.not_eq_true', decide_eq_true_eq] at h5
  obtain ⟨⟨⟨⟨⟨g1, g2⟩, g3⟩, g4⟩, g5⟩, g6⟩ := h5
  simp [Cond.before, Cond.holds, Cond.value, h1, h2, h3, h4, g1, g2, g3, g4, g5, g6]
def isCode : Jvm.Cond → Bool
  | .code _ _ _ _ => true
  | _ => false
theorem all_split {L : List Jvm.Cond} {P : Jvm.Cond → Bool} (h1 : L.all (fun c => isCode c || P c) = true) (h2 : ∀ c ∈ L.filter isCode, P c = true) : L.all P = true := by
  refine List.all_eq_true.mpr fun c hc => ?_
  have h := List.all_eq_true.mp h1 c hc
  rcases Bool.eq_false_or_eq_true (isCode c) with hi | hi
  · exact h2 c (List.mem_filter.mpr ⟨hc, hi⟩)
  · simpa [hi] using h
set_option maxRecDepth 65536 in
theorem w_c0 : (Jvm.Cond.code x code maxLocals ret).before args0 about1 = true := code_word (m := ⟨1, 3⟩) (meth := k1m3) (c := k1c3) (by decide +kernel) rfl rfl rfl (by decide +kernel)
set_option maxRecDepth 65536 in
theorem w_c1 : (Jvm.Cond.code ({ cls := "com/example/cartonmark/cartonmark/pdf/PdfFilePutWholePinLaw", name := "digitCount", desc := "(J)I" } : Jvm.MethodName) method_3_code (2 : Nat) (Option.some Jvm.ClassFile.FieldType.int)).before args0 about1 = true := code_word (m := ⟨1, 2⟩) (meth := k1m2) (c := k1c2) (by decide +kernel) rfl rfl rfl (by decide +kernel)
set_option maxRecDepth 65536 in
theorem w_c2 : (Jvm.Cond.code ({ cls := "com/example/cartonmark/cartonmark/pdf/PdfFile", name := "putWhole", desc := "([BIJ)I" } : Jvm.MethodName) prog_19_method_16_code (10 : Nat) (Option.some Jvm.ClassFile.FieldType.int)).before args0 about1 = true := code_word (m := ⟨2, 0⟩) (meth := k2m0) (c := k2c0) (by decide +kernel) rfl rfl rfl (by decide +kernel)
set_option maxRecDepth 65536 in
theorem w_c3 : (Jvm.Cond.code ({ cls := "com/example/cartonmark/cartonmark/pdf/PdfFilePutWholePinLaw", name := "pow10", desc := "(I)J" } : Jvm.MethodName) method_2_code (2 : Nat) (Option.some Jvm.ClassFile.FieldType.long)).before args0 about1 = true := code_word (m := ⟨1, 1⟩) (meth := k1m1) (c := k1c1) (by decide +kernel) rfl rfl rfl (by decide +kernel)
def codes1 : List Jvm.Cond := [Jvm.Cond.code x code maxLocals ret, Jvm.Cond.code ({ cls := "com/example/cartonmark/cartonmark/pdf/PdfFilePutWholePinLaw", name := "digitCount", desc := "(J)I" } : Jvm.MethodName) method_3_code (2 : Nat) (Option.some Jvm.ClassFile.FieldType.int), Jvm.Cond.code ({ cls := "com/example/cartonmark/cartonmark/pdf/PdfFile", name := "putWhole", desc := "([BIJ)I" } : Jvm.MethodName) prog_19_method_16_code (10 : Nat) (Option.some Jvm.ClassFile.FieldType.int), Jvm.Cond.code ({ cls := "com/example/cartonmark/cartonmark/pdf/PdfFilePutWholePinLaw", name := "pow10", desc := "(I)J" } : Jvm.MethodName) method_2_code (2 : Nat) (Option.some Jvm.ClassFile.FieldType.long)]
set_option maxRecDepth 65536 in
theorem codes_eq : words1.filter isCode = codes1 := rfl
theorem w_codes : ∀ c ∈ words1.filter isCode, c.before args0 about1 = true := by
  rw [codes_eq]
  intro c hc
  simp only [codes1, List.mem_cons, List.not_mem_nil, or_false] at hc
  rcases hc with rfl | rfl | rfl | rfl
  · exact w_c0
  · exact w_c1
  · exact w_c2
  · exact w_c3
set_option maxRecDepth 65536 in
theorem w_t1 : (words1.take 24).all (fun c => isCode c || c.before args0 about1) = true := by decide +kernel
set_option maxRecDepth 65536 in
theorem w_t2 : (words1.drop 24).all (fun c => isCode c || c.before args0 about1) = true := by decide +kernel
theorem w_tables : (allAtoms (Jvm.Cond.code x code maxLocals ret :: tables_1)).before args0 about1 = true := by
  rw [allAtoms_all]
  show words1.all (fun c => c.before args0 about1) = true
  refine all_split ?_ w_codes
  rw [← List.take_append_drop 24 words1, List.all_append, w_t1, w_t2]
  rfl
set_option maxRecDepth 65536 in
theorem w_case : (Jvm.Cond.and given_1 narrow_1).before args0 about1 = true := by decide +kernel
theorem w_applies : (headSpec (Jvm.Cond.code x code maxLocals ret :: tables_1) room_1).applies x e0.platform about1 = true :=
  (Spec.applies_iff w_frames).mpr ⟨w_running, w_runnable, w_alone, w_named, w_hears, w_ripe, w_room, w_tables⟩
theorem atStart : AtStart classFile x code maxLocals ret World_1 tables_1 room_1 Calls_1 rest_1 Pre_1 launch0 p0 e0 about1 theMethod args0 below0 :=
  ⟨lists_1, trivial, launch0.admits_env _ _ _, launch0.least_env, fairChoices_fair.cas, fairChoices_fair.clock, w_frames, w_args, w_heap, w_applies, trivial, trivial, w_case⟩
end start1
theorem witness_1 : WitnessClaimed_1 := ⟨start1.p0, start1.e0, start1.about1, start1.theMethod, start1.args0, start1.below0, start1.atStart⟩
end Jvm.Pilot.@@N@@
