import PyProof.Rows.All
import Wide.All
import OpenK.AllK
import Wide.FinOn
import PySem.Challenge.RW_zo0012_01
set_option Elab.async false
section
open PySem PySem.W PyProof.Rows PySem.Spec PySem.Calls
set_option Elab.async false
set_option maxRecDepth 100000
set_option maxHeartbeats 8000000
set_option pp.deepTerms false
set_option pp.deepTerms.threshold 3
set_option pp.proofs false
namespace Mine
-- A1
section
section
variable {prog : Program} {w : World} {A : Around} {E : Value → Shared → Prop} {s : Shared}
theorem args_max3 (a b c : Value) : argsOk "max" ⟨[a, b, c], []⟩ := by unfold argsOk; kernel_rfl
theorem args_min3 (a b c : Value) : argsOk "min" ⟨[a, b, c], []⟩ := by unfold argsOk; kernel_rfl
theorem call_max_three {a b c : Value} {Q : Value → Shared → Prop}
    (h : wpAny (model prog w) A.in1 (pyIter (.ref s.heap.objs.size)) (fun it s₂ => ∃ I fp wr n P St bt, it = .ref I ∧ Walks prog w A.in1 I fp wr n P St ∧ St 0 s₂.heap ∧ (∀ b ∈ fp, b < s₂.heap.objs.size) ∧ 0 < n ∧ CmpOf prog w A.in1 .Gt P bt ∧
      ∀ v h' tk, P (argBest bt (n - 1)) v → (∀ b o, b ∉ wr → s₂.heap.get? b = some o → h'.get? b = some o) → Q v { s₂ with heap := h', toks := tk }) E
      { s with heap := s.heap.push { cls := .type "tuple", data := .seq #[a, b, c] } }) :
    wpAny (model prog w) A (call (.builtin "max") [a, b, c]) Q E s := by
  have hname : (toString "max" ++ toString ".loop" : String) = "max.loop" := by decide
  refine call_function_tree F.kind_max F.plain_max F.entry_max (args_max3 _ _ _) ?_
  show wpAny _ A.in1 (Builtin.Builtins.bindParams "max" ["key", "default"] 0 ⟨[], []⟩ >>= _) _ _ s
  refine wpAny_bind (wpAny_of_eq (show Builtin.Builtins.bindParams "max" ["key", "default"] 0 ⟨[], []⟩ = pure [none, none] from rfl) ?_)
  show wpAny _ A.in1 (newTuple [a, b, c] >>= _) _ _ s
  refine wpAny_bind (wpAny_newObj_type ?_)
  refine wpAny_bind (wpAny_mono h (fun it s₂ h₂ => ?_) fun _ _ e => e)
  obtain ⟨I, fp, wr, n, P, St, bt, rfl, W, hst, hfp, hn, hcmp, hQ⟩ := h₂
  refine wpAny_bind (wpAny_newObj_type ?_)
  have hSf : s₂.heap.objs.size ∉ fp := fun hm => Nat.lt_irrefl _ (hfp _ hm)
  rw [hname]
  refine wpAny_pure ⟨plainId_quiet F.plain_max_loop _, codeAny_max_loop_first W bt hcmp s₂.heap.objs.size hSf hn (W.frame _ _ _ hst fun b _ o e => Heap.get?_push_of_some _ e) (Heap.get?_push_size _ rfl) fun v h' tk hP hk => ?_⟩
  exact hQ v h' tk hP fun b o hbw e => hk b o hbw (Nat.ne_of_lt (Heap.lt_size e)) (Heap.get?_push_of_some _ e)
theorem call_min_three {a b c : Value} {Q : Value → Shared → Prop}
    (h : wpAny (model prog w) A.in1 (pyIter (.ref s.heap.objs.size)) (fun it s₂ => ∃ I fp wr n P St bt, it = .ref I ∧ Walks prog w A.in1 I fp wr n P St ∧ St 0 s₂.heap ∧ (∀ b ∈ fp, b < s₂.heap.objs.size) ∧ 0 < n ∧ CmpOf prog w A.in1 .Lt P bt ∧
      ∀ v h' tk, P (argBest bt (n - 1)) v → (∀ b o, b ∉ wr → s₂.heap.get? b = some o → h'.get? b = some o) → Q v { s₂ with heap := h', toks := tk }) E
      { s with heap := s.heap.push { cls := .type "tuple", data := .seq #[a, b, c] } }) :
    wpAny (model prog w) A (call (.builtin "min") [a, b, c]) Q E s := by
  have hname : (toString "min" ++ toString ".loop" : String) = "min.loop" := by decide
  refine call_function_tree F.kind_min F.plain_min F.entry_min (args_min3 _ _ _) ?_
  show wpAny _ A.in1 (Builtin.Builtins.bindParams "min" ["key", "default"] 0 ⟨[], []⟩ >>= _) _ _ s
  refine wpAny_bind (wpAny_of_eq (show Builtin.Builtins.bindParams "min" ["key", "default"] 0 ⟨[], []⟩ = pure [none, none] from rfl) ?_)
  show wpAny _ A.in1 (newTuple [a, b, c] >>= _) _ _ s
  refine wpAny_bind (wpAny_newObj_type ?_)
  refine wpAny_bind (wpAny_mono h (fun it s₂ h₂ => ?_) fun _ _ e => e)
  obtain ⟨I, fp, wr, n, P, St, bt, rfl, W, hst, hfp, hn, hcmp, hQ⟩ := h₂
  refine wpAny_bind (wpAny_newObj_type ?_)
  have hSf : s₂.heap.objs.size ∉ fp := fun hm => Nat.lt_irrefl _ (hfp _ hm)
  rw [hname]
  refine wpAny_pure ⟨plainId_quiet F.plain_min_loop _, codeAny_min_loop_first W bt hcmp s₂.heap.objs.size hSf hn (W.frame _ _ _ hst fun b _ o e => Heap.get?_push_of_some _ e) (Heap.get?_push_size _ rfl) fun v h' tk hP hk => ?_⟩
  exact hQ v h' tk hP fun b o hbw e => hk b o hbw (Nat.ne_of_lt (Heap.lt_size e)) (Heap.get?_push_of_some _ e)

theorem max3_k {a b c : Value} {Q : Value → Shared → Prop} (hh : A.handled = none) (P : Nat → Value → Prop) (bt : Nat → Nat → Bool)
    (hP : ∀ i v, #[a, b, c][i]? = some v → P i v) (hc : CmpOf prog w A.in1 .Gt P bt)
    (h : ∀ v h' tk, #[a, b, c][argBest bt 2]? = some v → (∀ b o, s.heap.get? b = some o → h'.get? b = some o) → Q v { s with heap := h', toks := tk }) :
    wpAny (model prog w) A (call (.builtin "max") [a, b, c]) Q E s := by
  have hT : (s.heap.push { cls := .type "tuple", data := .seq #[a, b, c] }).IsTuple s.heap.objs.size #[a, b, c] := ⟨_, Heap.get?_push_size _ rfl, rfl, 0, rfl⟩
  refine call_max_three (wpAny_pyIter_tuple hT ?_)
  have hsz : (s.heap.push { cls := .type "tuple", data := .seq #[a, b, c] }).objs.size = s.heap.objs.size + 1 := Heap.size_push ..
  refine ⟨_, [_, s.heap.objs.size], [_], _, _, _, bt, rfl, Walks.tuple (A := A.in1) hh _ s.heap.objs.size (by rw [hsz]; exact Nat.ne_of_lt (Nat.lt_succ_self _)) #[a, b, c],
    ⟨⟨_, Heap.get?_push_size _ rfl, rfl, rfl⟩, hT.push _⟩, fun c hc => ?_, by simp, fun i j vi vj s Q E hi hj h => hc i j vi vj s Q E (hP _ _ hi) (hP _ _ hj) h, fun v h' tk hP hk => ?_⟩
  · show c < ((s.heap.push _).push _).objs.size
    rw [Heap.size_push, hsz]
    rcases List.mem_cons.mp hc with rfl | hc
    · rw [hsz]; exact Nat.lt_succ_self _
    · rcases List.mem_cons.mp hc with rfl | hc
      · exact Nat.lt_succ_of_lt (Nat.lt_succ_self _)
      · cases hc
  · refine h v h' tk hP fun c o e => ?_
    refine hk c o (fun hm => ?_) (Heap.get?_push_of_some _ (Heap.get?_push_of_some _ e))
    rcases List.mem_cons.mp hm with e1 | hm
    · have := Heap.lt_size e; rw [e1, hsz] at this; exact Nat.lt_irrefl _ (Nat.lt_of_succ_lt this)
    · cases hm
theorem min3_k {a b c : Value} {Q : Value → Shared → Prop} (hh : A.handled = none) (P : Nat → Value → Prop) (bt : Nat → Nat → Bool)
    (hP : ∀ i v, #[a, b, c][i]? = some v → P i v) (hc : CmpOf prog w A.in1 .Lt P bt)
    (h : ∀ v h' tk, #[a, b, c][argBest bt 2]? = some v → (∀ b o, s.heap.get? b = some o → h'.get? b = some o) → Q v { s with heap := h', toks := tk }) :
    wpAny (model prog w) A (call (.builtin "min") [a, b, c]) Q E s := by
  have hT : (s.heap.push { cls := .type "tuple", data := .seq #[a, b, c] }).IsTuple s.heap.objs.size #[a, b, c] := ⟨_, Heap.get?_push_size _ rfl, rfl, 0, rfl⟩
  refine call_min_three (wpAny_pyIter_tuple hT ?_)
  have hsz : (s.heap.push { cls := .type "tuple", data := .seq #[a, b, c] }).objs.size = s.heap.objs.size + 1 := Heap.size_push ..
  refine ⟨_, [_, s.heap.objs.size], [_], _, _, _, bt, rfl, Walks.tuple (A := A.in1) hh _ s.heap.objs.size (by rw [hsz]; exact Nat.ne_of_lt (Nat.lt_succ_self _)) #[a, b, c],
    ⟨⟨_, Heap.get?_push_size _ rfl, rfl, rfl⟩, hT.push _⟩, fun c hc => ?_, by simp, fun i j vi vj s Q E hi hj h => hc i j vi vj s Q E (hP _ _ hi) (hP _ _ hj) h, fun v h' tk hP hk => ?_⟩
  · show c < ((s.heap.push _).push _).objs.size
    rw [Heap.size_push, hsz]
    rcases List.mem_cons.mp hc with rfl | hc
    · rw [hsz]; exact Nat.lt_succ_self _
    · rcases List.mem_cons.mp hc with rfl | hc
      · exact Nat.lt_succ_of_lt (Nat.lt_succ_self _)
      · cases hc
  · refine h v h' tk hP fun c o e => ?_
    refine hk c o (fun hm => ?_) (Heap.get?_push_of_some _ (Heap.get?_push_of_some _ e))
    rcases List.mem_cons.mp hm with e1 | hm
    · have := Heap.lt_size e; rw [e1, hsz] at this; exact Nat.lt_irrefl _ (Nat.lt_of_succ_lt this)
    · cases hm
noncomputable def mx (x y : UInt64) : UInt64 := if Flt.gtB y x then y else x
noncomputable def mn (x y : UInt64) : UInt64 := if Flt.ltB y x then y else x
theorem max3_f {x y z : UInt64} {t u v : Tok} {Q : Value → Shared → Prop} {h₀ : Heap} {L : Addr} {m : Str → Option Value} {news : List (Addr × Obj)} (hh : A.handled = none) (F : Fr h₀ L s.heap m) (N : News h₀ L s.heap news)
    (h : ∀ h' tk t', Fr h₀ L h' m → News h₀ L h' news → Q (.float (mx (mx x y) z) t') { s with heap := h', toks := tk }) :
    wpAny (model prog w) A (call (.builtin "max") [.float x t, .float y u, .float z v]) Q E s := by
  refine max3_k hh (fun i v => ∃ t', v = .float ([x, y, z].getD i 0) t') (fun i j => Flt.gtB ([x, y, z].getD i 0) ([x, y, z].getD j 0)) (fun i v hv => ?_) (fun i j vi vj s Q E hi hj h => ?_) (fun v h' tk hv hk => ?_)
  · rcases i with _ | _ | _ | i
    · simp at hv; exact ⟨_, hv.symm⟩
    · simp at hv; exact ⟨_, hv.symm⟩
    · simp at hv; exact ⟨_, hv.symm⟩
    · simp at hv
  · obtain ⟨t1, rfl⟩ := hi
    obtain ⟨t2, rfl⟩ := hj
    exact AutoFloatOps.gt_0 (by rw [Flt.cmp_gt]; exact h)
  · obtain ⟨t', rfl⟩ : ∃ t', v = .float (mx (mx x y) z) t' := by
      simp only [argBest, mx] at hv ⊢
      by_cases h1 : Flt.gtB y x = true
      · by_cases h2 : Flt.gtB z y = true <;> simp [h1, h2] at hv ⊢ <;> exact ⟨_, hv.symm⟩
      · by_cases h2 : Flt.gtB z x = true <;> simp [h1, h2] at hv ⊢ <;> exact ⟨_, hv.symm⟩
    exact h h' tk t' (F.grownK hk) (N.grown hk)
theorem min3_f {x y z : UInt64} {t u v : Tok} {Q : Value → Shared → Prop} {h₀ : Heap} {L : Addr} {m : Str → Option Value} {news : List (Addr × Obj)} (hh : A.handled = none) (F : Fr h₀ L s.heap m) (N : News h₀ L s.heap news)
    (h : ∀ h' tk t', Fr h₀ L h' m → News h₀ L h' news → Q (.float (mn (mn x y) z) t') { s with heap := h', toks := tk }) :
    wpAny (model prog w) A (call (.builtin "min") [.float x t, .float y u, .float z v]) Q E s := by
  refine min3_k hh (fun i v => ∃ t', v = .float ([x, y, z].getD i 0) t') (fun i j => Flt.ltB ([x, y, z].getD i 0) ([x, y, z].getD j 0)) (fun i v hv => ?_) (fun i j vi vj s Q E hi hj h => ?_) (fun v h' tk hv hk => ?_)
  · rcases i with _ | _ | _ | i
    · simp at hv; exact ⟨_, hv.symm⟩
    · simp at hv; exact ⟨_, hv.symm⟩
    · simp at hv; exact ⟨_, hv.symm⟩
    · simp at hv
  · obtain ⟨t1, rfl⟩ := hi
    obtain ⟨t2, rfl⟩ := hj
    exact AutoFloatOps.lt_0 h
  · obtain ⟨t', rfl⟩ : ∃ t', v = .float (mn (mn x y) z) t' := by
      simp only [argBest, mn] at hv ⊢
      by_cases h1 : Flt.ltB y x = true
      · by_cases h2 : Flt.ltB z y = true <;> simp [h1, h2] at hv ⊢ <;> exact ⟨_, hv.symm⟩
      · by_cases h2 : Flt.ltB z x = true <;> simp [h1, h2] at hv ⊢ <;> exact ⟨_, hv.symm⟩
    exact h h' tk t' (F.grownK hk) (N.grown hk)
end
end
-- A2
section
open PySem.Float64
noncomputable def qf (n : Nat) : UInt64 := ofFrac false n 1024
noncomputable def chk (n : Nat) : Bool := match decode (qf n) with
  | .fin false m e => (m * 2 ^ (e + 1074).toNat == n * 2 ^ 1064) && (isZero (qf n) == (n == 0)) && (Flt.toInt truncOf (mul (qf n) (ofInt 1024)) == (n : Int)) && isFinite (mul (qf n) (ofInt 1024))
  | _ => false
set_option maxRecDepth 100000 in
theorem chk_all : (List.range 600).all chk = true := by decide +kernel
theorem chk_at {n : Nat} (h : n < 600) : chk n = true := List.all_eq_true.mp chk_all n (List.mem_range.mpr h)
noncomputable def chk2 (n : Nat) : Bool := (Flt.toInt truncOf (mul (div (qf n) 0x4000000000000000) (ofInt 2048)) == (n : Int)) && isFinite (mul (div (qf n) 0x4000000000000000) (ofInt 2048)) && (n ≥ 512 || cmp (div (qf n) 0x4000000000000000) 0x3FE0000000000000 == some .lt)
set_option maxRecDepth 100000 in
theorem chk2_all : (List.range 256).all chk2 = true := by decide +kernel
theorem chk2_at {n : Nat} (h : n < 256) : chk2 n = true := List.all_eq_true.mp chk2_all n (List.mem_range.mpr h)
theorem qf_dec {n : Nat} (h : n < 600) : (∃ m e, decode (qf n) = .fin false m e) ∧ val (qf n) = (n * 2 ^ 1064 : Nat) ∧ (isZero (qf n) = (n == 0)) ∧ Flt.toInt truncOf (mul (qf n) (ofInt 1024)) = n ∧ isFinite (mul (qf n) (ofInt 1024)) = true := by
  have c := chk_at h
  unfold chk at c
  split at c
  · rename_i m e hd
    simp only [Bool.and_eq_true, beq_iff_eq] at c
    obtain ⟨⟨⟨c1, c2⟩, c3⟩, c4⟩ := c
    refine ⟨⟨m, e, hd⟩, ?_, c2, c3, c4⟩
    rw [val_eq hd]
    show ((m * 2 ^ (e + 1074).toNat : Nat) : Int) = _
    rw [c1]
  · cases c
theorem qf_cmp {a b : Nat} (ha : a < 600) (hb : b < 600) : cmp (qf a) (qf b) = some (compare a b) := by
  obtain ⟨⟨m, e, hd⟩, hv, _⟩ := qf_dec ha
  obtain ⟨⟨k, f, hd'⟩, hv', _⟩ := qf_dec hb
  rw [cmp_right hd hd', hv, hv']
  have hp : 0 < 2 ^ 1064 := Nat.two_pow_pos 1064
  generalize 2 ^ 1064 = P at *
  congr 1
  rcases Nat.lt_trichotomy a b with h | h | h
  · rw [Nat.compare_eq_lt.mpr h, Int.compare_eq_lt.mpr (Int.ofNat_lt.mpr (Nat.mul_lt_mul_of_pos_right h hp))]
  · subst h; simp
  · rw [Nat.compare_eq_gt.mpr h, Int.compare_eq_gt.mpr (Int.ofNat_lt.mpr (Nat.mul_lt_mul_of_pos_right h hp))]
theorem qf_eq {a b : Nat} (ha : a < 600) (hb : b < 600) : (cmp (qf a) (qf b) == some .eq) = (a == b) := by
  rw [qf_cmp ha hb]
  rcases Nat.lt_trichotomy a b with h | h | h
  · rw [Nat.compare_eq_lt.mpr h]; have : a ≠ b := by lia
    simp [this]
  · subst h; simp
  · rw [Nat.compare_eq_gt.mpr h]; have : a ≠ b := by lia
    simp [this]
theorem qf_mx {a b : Nat} (ha : a < 600) (hb : b < 600) : mx (qf a) (qf b) = qf (max a b) := by
  unfold mx Flt.gtB
  rw [qf_cmp ha hb]
  rcases Nat.lt_trichotomy a b with h | h | h
  · rw [Nat.compare_eq_lt.mpr h, Nat.max_eq_right (by lia)]; simp
  · subst h; simp
  · rw [Nat.compare_eq_gt.mpr h, Nat.max_eq_left (by lia)]; simp
theorem qf_mn {a b : Nat} (ha : a < 600) (hb : b < 600) : mn (qf a) (qf b) = qf (min a b) := by
  unfold mn Flt.ltB
  rw [qf_cmp hb ha]
  rcases Nat.lt_trichotomy b a with h | h | h
  · rw [Nat.compare_eq_lt.mpr h, Nat.min_eq_right (by lia)]; simp
  · subst h; simp
  · rw [Nat.compare_eq_gt.mpr h, Nat.min_eq_left (by lia)]; simp
theorem qf_pack (n : Nat) : qf n = pack false (roundMag n 1024) := by unfold qf ofFrac; rfl
theorem V_inj {t u : Nat} (h : V t = V u) : t = u := by
  rcases Nat.lt_trichotomy t u with q | q | q
  · have := V_lt q; lia
  · exact q
  · have := V_lt q; lia
theorem qf_V {n : Nat} (h : n < 600) : roundMag n 1024 < infMag ∧ V (roundMag n 1024) = n * 2 ^ 1064 := by
  obtain ⟨⟨m, e, hd⟩, hv, _⟩ := qf_dec h
  have hlt : roundMag n 1024 < infMag := by
    have hle : roundMag n 1024 ≤ infMag := by rw [roundMag_min]; lia
    rcases Nat.lt_or_ge (roundMag n 1024) infMag with q | q
    · exact q
    · exfalso
      have e : roundMag n 1024 = infMag := Nat.le_antisymm hle q
      rw [qf_pack, e] at hd
      have : isInf (pack false infMag) = true := by decide +kernel
      unfold isInf at this; rw [hd] at this; cases this
  refine ⟨hlt, ?_⟩
  rw [qf_pack, val_pack false hlt] at hv
  exact Int.ofNat.inj hv
theorem exact_of {r : UInt64} {W t : Nat} (R : Right r false W 1) (ht : t < infMag) (hV : V t = W) : r = pack false t := by
  obtain ⟨u, rfl, hu, hi, hn⟩ := R
  have hi' := hi.mp
  clear hi
  have hne : u < infMag := by
    rcases Nat.lt_or_ge u infMag with q | q
    · exact q
    · exfalso
      have e : u = infMag := Nat.le_antisymm hu q
      have h1 := hi' e
      have h2 : V t ≤ V (infMag - 1) := V_mono (by lia)
      have h3 : V (infMag - 1) = (2 ^ 53 - 1) * 2 ^ 2045 := by decide +kernel
      rw [h3, hV] at h2
      have h4 : (1 : Nat) * ((2 ^ 54 - 1) * 2 ^ 2045) ≤ 2 * ((2 ^ 53 - 1) * 2 ^ 2045) := Nat.le_trans h1 (Nat.mul_le_mul_left 2 h2)
      exact absurd h4 (by decide +kernel)
  clear hi'
  have h1 := (hn hne t).1
  rw [Nat.one_mul, Nat.one_mul, hV] at h1
  have h2 : V u = W := by unfold dist at h1; lia
  rw [V_inj (h2.trans hV.symm)]
theorem qf_add {a b : Nat} (h : a + b < 600) : add (qf a) (qf b) = qf (a + b) := by
  have ha : a < 600 := by lia
  have hb : b < 600 := by lia
  obtain ⟨⟨m, e, hd⟩, hv, _⟩ := qf_dec ha
  obtain ⟨⟨k, f, hd'⟩, hv', _⟩ := qf_dec hb
  have R := add_right hd hd'
  rw [hv, hv'] at R
  obtain ⟨h1, h2⟩ := qf_V h
  by_cases hz : a + b = 0
  · have za : a = 0 := by lia
    have zb : b = 0 := by lia
    subst za; subst zb
    decide +kernel
  · have hp : 0 < 2 ^ 1064 := Nat.two_pow_pos 1064
    generalize 2 ^ 1064 = P at *
    have hs : ((a * P : Nat) : Int) + ((b * P : Nat) : Int) = (((a + b) * P : Nat) : Int) := by rw [Nat.add_mul]; rfl
    have hpos : 0 < (a + b) * P := Nat.mul_pos (by lia) hp
    rw [hs] at R
    have R2 := R.2 (by lia)
    have hneg : decide ((((a + b) * P : Nat) : Int) < 0) = false := decide_eq_false (by lia)
    rw [hneg, Int.natAbs_natCast] at R2
    rw [qf_pack (a + b)]; exact exact_of R2 h1 h2
end
-- A3
section
open PySem.Float64
theorem zero_pack {c : Bool} {t W : Nat} (hW : 0 < W) (h0 : t < infMag → dist W (1 * V t) ≤ dist W (1 * V 1)) (e2 : t ≤ infMag) (h : isZero (pack c t) = true) : False := by
  rcases Nat.lt_or_ge t infMag with q' | q'
  · obtain ⟨m, e, hd, hV⟩ := decode_pack c q'
    unfold isZero at h
    rw [hd] at h
    have hm : m = 0 := by
      cases m with
      | zero => rfl
      | succ m => cases h
    subst hm
    rw [Nat.zero_mul] at hV
    have := h0 q'
    have hV1 : V 1 = 1 := by decide +kernel
    rw [← hV, hV1] at this
    unfold dist at this
    omega
  · have e : t = infMag := Nat.le_antisymm e2 q'
    rw [e] at h
    have hc : ∀ c, isZero (pack c infMag) = false := by decide +kernel
    rw [hc] at h; cases h
theorem qf_sub_ne {a b : Nat} (ha : a < 600) (hb : b < 600) (h : isZero (sub (qf a) (qf b)) = true) : a = b := by
  obtain ⟨⟨m, e, hd⟩, hv, _⟩ := qf_dec ha
  obtain ⟨⟨k, f, hd'⟩, hv', _⟩ := qf_dec hb
  have R := (sub_right hd hd').2
  rw [hv, hv'] at R
  have hp : 0 < 2 ^ 1064 := Nat.two_pow_pos 1064
  have key : ((a * 2 ^ 1064 : Nat) : Int) - ((b * 2 ^ 1064 : Nat) : Int) ≠ 0 → False := by
    intro hne
    obtain ⟨t, e1, e2, e3, e4⟩ := R hne
    rw [e1] at h
    exact zero_pack (Int.natAbs_pos.mpr hne) (fun q => (e4 q 1).1) e2 h
  clear R h hv hv' hd hd'
  generalize 2 ^ 1064 = P at *
  rcases Nat.lt_trichotomy a b with q | q | q
  · have := Nat.mul_lt_mul_of_pos_right q hp
    exact absurd (fun e => key e) (by intro k; exact k (by omega))
  · exact q
  · have := Nat.mul_lt_mul_of_pos_right q hp
    exact absurd (fun e => key e) (by intro k; exact k (by omega))
end
-- A4
section
noncomputable def subst1 (c : Nat) (z : List Nat) (l : List Nat) : List Nat := l.flatMap fun k => if k = c then z else [k]
theorem subst1_free (c : Nat) (z : List Nat) : ∀ l : List Nat, c ∉ l → subst1 c z l = l
  | [], _ => rfl
  | k :: r, h => by
    have h1 : k ≠ c := fun e => h (e ▸ List.mem_cons_self ..)
    have ih := subst1_free c z r fun m => h (List.mem_cons_of_mem _ m)
    unfold subst1 at ih ⊢
    rw [List.flatMap_cons, ih, if_neg h1]; rfl
theorem subst1_append (c : Nat) (z a b : List Nat) : subst1 c z (a ++ b) = subst1 c z a ++ subst1 c z b := by unfold subst1; rw [List.flatMap_append]
theorem subst1_join (c : Nat) (z : Str) : ∀ parts : List Str, (∀ p ∈ parts, c ∉ p.cps.toList) → subst1 c z.cps.toList (Str.join ⟨#[c]⟩ parts).cps.toList = (Str.join z parts).cps.toList
  | [], _ => rfl
  | [p], h => subst1_free c _ _ (h p (List.mem_singleton.mpr rfl))
  | p :: q :: r, h => by
    have ih := subst1_join c z (q :: r) fun a ha => h a (List.mem_cons_of_mem _ ha)
    show subst1 c z.cps.toList (p ++ ⟨#[c]⟩ ++ Str.join ⟨#[c]⟩ (q :: r)).cps.toList = (p ++ z ++ Str.join z (q :: r)).cps.toList
    simp only [Str.cps_append, Array.toList_append, subst1_append]
    rw [ih, subst1_free c _ _ (h p (List.mem_cons_self ..))]
    have : subst1 c z.cps.toList [c] = z.cps.toList := by simp [subst1]
    rw [this]
theorem replace_subst (x z : Str) (c : Nat) : (Txt.replace x ⟨#[c]⟩ z).cps.toList = subst1 c z.cps.toList x.cps.toList := by
  rw [StrLaws.replace_one, ← subst1_join c z _ (StrLaws.split_free x c), StrLaws.join_split]
theorem mem_subst1 {c k : Nat} {z l : List Nat} (h : k ∈ subst1 c z l) : k ∈ l ∨ k ∈ z := by
  unfold subst1 at h
  obtain ⟨a, ha, hk⟩ := List.mem_flatMap.mp h
  split at hk
  · exact .inr hk
  · exact .inl (List.mem_singleton.mp hk ▸ ha)
theorem len_subst1 {c : Nat} {z : List Nat} {n : Nat} (hz : z.length ≤ n) (hn : 1 ≤ n) : ∀ l : List Nat, (subst1 c z l).length ≤ n * l.length
  | [] => by simp [subst1]
  | k :: r => by
    have ih := len_subst1 (c := c) hz hn r
    unfold subst1 at ih ⊢
    rw [List.flatMap_cons, List.length_append, List.length_cons, Nat.mul_succ]
    generalize (List.flatMap (fun k => if k = c then z else [k]) r).length = e at *
    split
    · lia
    · rw [List.length_singleton]; lia
noncomputable def escC (k : Nat) : List Nat := if k = 60 then [38, 108, 116, 59] else if k = 34 then [38, 113, 117, 111, 116, 59] else [k]
noncomputable def escL (l : List Nat) : List Nat := l.flatMap escC
noncomputable def escS (x : Str) : Str := ⟨(escL x.cps.toList).toArray⟩
/-- a text of the pieces >, < and the quotation mark -/
noncomputable def Plain (x : Str) : Prop := (∀ k ∈ x.cps.toList, k = 62 ∨ k = 60 ∨ k = 34) ∧ x.cps.toList.length ≤ 30
theorem escL_two (l : List Nat) : subst1 34 [38, 113, 117, 111, 116, 59] (subst1 60 [38, 108, 116, 59] l) = escL l := by
  induction l with
  | nil => rfl
  | cons k r ih =>
    have e1 : subst1 60 [38, 108, 116, 59] (k :: r) = (if k = 60 then [38, 108, 116, 59] else [k]) ++ subst1 60 [38, 108, 116, 59] r := by unfold subst1; rw [List.flatMap_cons]
    rw [e1, subst1_append, ih]
    unfold escL
    rw [List.flatMap_cons]
    congr 1
    unfold escC
    by_cases h : k = 60
    · subst h; decide
    · rw [if_neg h, if_neg h]
      unfold subst1
      rw [List.flatMap_cons, List.flatMap_nil, List.append_nil]
theorem str_ext {x y : Str} (h : x.cps.toList = y.cps.toList) : x = y := by
  obtain ⟨⟨a⟩⟩ := x; obtain ⟨⟨b⟩⟩ := y
  have : a = b := h
  rw [this]
noncomputable abbrev rLt (x : Str) : Str := Txt.replace x (Str.ofString "<") (Str.ofString "&lt;")
noncomputable abbrev rQu (x : Str) : Str := Txt.replace x (Str.ofString "\"") (Str.ofString "&quot;")
theorem lit_lt : Str.ofString "<" = ⟨#[60]⟩ := by decide +kernel
theorem lit_qu : Str.ofString "\"" = ⟨#[34]⟩ := by decide +kernel
theorem lit_am : Str.ofString "&" = ⟨#[38]⟩ := by decide +kernel
theorem lit_t : Str.ofString "\t" = ⟨#[9]⟩ := by decide +kernel
theorem lit_n : Str.ofString "\n" = ⟨#[10]⟩ := by decide +kernel
theorem lit_r : Str.ofString "\r" = ⟨#[13]⟩ := by decide +kernel
theorem lit_lt4 : Str.ofString "&lt;" = ⟨#[38, 108, 116, 59]⟩ := by decide +kernel
theorem lit_qu6 : Str.ofString "&quot;" = ⟨#[38, 113, 117, 111, 116, 59]⟩ := by decide +kernel
theorem rLt_list (x : Str) : (rLt x).cps.toList = subst1 60 [38, 108, 116, 59] x.cps.toList := by
  unfold rLt; rw [lit_lt, lit_lt4, replace_subst]
theorem rQu_list (x : Str) : (rQu x).cps.toList = subst1 34 [38, 113, 117, 111, 116, 59] x.cps.toList := by
  unfold rQu; rw [lit_qu, lit_qu6, replace_subst]
/-- c is not among the signs of y -/
theorem notin_of {y : Str} {c : Nat} (h : c ∉ y.cps.toList) (e : (Builtin.Str.occurrences y ⟨#[c]⟩ 0 y.length 1).isEmpty = false) : False := by
  have := StrLaws.found_one y c
  rw [e] at this
  exact h (by simpa using this)
theorem nin_of {y : Str} {c : Nat} (e : (Builtin.Str.occurrences y ⟨#[c]⟩ 0 y.length 1).isEmpty = true) : c ∉ y.cps.toList := by
  have := StrLaws.found_one y c
  rw [e] at this
  simpa using this
theorem esc_no {x : Str} (h : Plain x) : ∀ c ∈ [9, 10, 13], c ∉ x.cps.toList ∧ c ∉ (rLt x).cps.toList ∧ c ∉ (rQu x).cps.toList ∧ c ∉ (rQu (rLt x)).cps.toList := by
  intro c hc
  have h0 : c ∉ x.cps.toList := fun m => by
    rcases h.1 c m with rfl | rfl | rfl <;> revert hc <;> decide
  have hz1 : c ∉ [38, 108, 116, 59] := (by decide : ∀ c ∈ [9, 10, 13], c ∉ [38, 108, 116, 59]) c hc
  have hz2 : c ∉ [38, 113, 117, 111, 116, 59] := (by decide : ∀ c ∈ [9, 10, 13], c ∉ [38, 113, 117, 111, 116, 59]) c hc
  have h1 : c ∉ (rLt x).cps.toList := fun m => by
    rw [rLt_list] at m
    exact (mem_subst1 m).elim h0 hz1
  refine ⟨h0, h1, fun m => ?_, fun m => ?_⟩
  · rw [rQu_list] at m; exact (mem_subst1 m).elim h0 hz2
  · rw [rQu_list] at m; exact (mem_subst1 m).elim h1 hz2
theorem esc_amp {x : Str} (h : Plain x) (e : (Builtin.Str.occurrences x (Str.ofString "&") 0 x.length 1).isEmpty = false) : False := by
  rw [lit_am] at e
  refine notin_of (fun m => ?_) e
  rcases h.1 _ m with q | q | q <;> revert q <;> decide
theorem esc_len {x : Str} (h : Plain x) : x.length ≤ 1048576 ∧ (rLt x).length ≤ 1048576 := by
  have l0 : x.length = x.cps.toList.length := by simp [Str.length]
  have l1 : (rLt x).length = (rLt x).cps.toList.length := by simp [Str.length]
  have l2 := len_subst1 (c := 60) (z := [38, 108, 116, 59]) (n := 4) (by decide) (by decide) x.cps.toList
  rw [← rLt_list, ← l1] at l2
  have := h.2
  constructor <;> lia
theorem esc_end0 {x : Str} (h1 : (Builtin.Str.occurrences x (Str.ofString "<") 0 x.length 1).isEmpty = true) (h2 : (Builtin.Str.occurrences x (Str.ofString "\"") 0 x.length 1).isEmpty = true) : escS x = x := by
  rw [lit_lt] at h1; rw [lit_qu] at h2
  refine str_ext ?_
  show escL x.cps.toList = _
  rw [← escL_two, subst1_free 60 _ _ (nin_of h1), subst1_free 34 _ _ (nin_of h2)]
theorem esc_end1 {x : Str} (h1 : (Builtin.Str.occurrences x (Str.ofString "<") 0 x.length 1).isEmpty = true) : escS x = rQu x := by
  rw [lit_lt] at h1
  refine str_ext ?_
  show escL x.cps.toList = _
  rw [← escL_two, subst1_free 60 _ _ (nin_of h1), rQu_list]
theorem esc_end2 {x : Str} (h2 : (Builtin.Str.occurrences (rLt x) (Str.ofString "\"") 0 (rLt x).length 1).isEmpty = true) : escS x = rLt x := by
  rw [lit_qu] at h2
  refine str_ext ?_
  show escL x.cps.toList = _
  rw [← escL_two, ← rLt_list, subst1_free 34 _ _ (nin_of h2)]
theorem esc_end3 {x : Str} : escS x = rQu (rLt x) := by
  refine str_ext ?_
  show escL x.cps.toList = _
  rw [← escL_two, ← rLt_list, ← rQu_list]
theorem esc_t {x y : Str} (h : Plain x) (hy : y = x ∨ y = rLt x ∨ y = rQu x ∨ y = rQu (rLt x)) (e : (Builtin.Str.occurrences y (Str.ofString "\t") 0 y.length 1).isEmpty = false) : False := by
  rw [lit_t] at e
  have := esc_no h 9 (by decide)
  rcases hy with rfl | rfl | rfl | rfl
  · exact notin_of this.1 e
  · exact notin_of this.2.1 e
  · exact notin_of this.2.2.1 e
  · exact notin_of this.2.2.2 e
theorem esc_n {x y : Str} (h : Plain x) (hy : y = x ∨ y = rLt x ∨ y = rQu x ∨ y = rQu (rLt x)) (e : (Builtin.Str.occurrences y (Str.ofString "\n") 0 y.length 1).isEmpty = false) : False := by
  rw [lit_n] at e
  have := esc_no h 10 (by decide)
  rcases hy with rfl | rfl | rfl | rfl
  · exact notin_of this.1 e
  · exact notin_of this.2.1 e
  · exact notin_of this.2.2.1 e
  · exact notin_of this.2.2.2 e
theorem esc_r {x y : Str} (h : Plain x) (hy : y = x ∨ y = rLt x ∨ y = rQu x ∨ y = rQu (rLt x)) (e : (Builtin.Str.occurrences y (Str.ofString "\r") 0 y.length 1).isEmpty = false) : False := by
  rw [lit_r] at e
  have := esc_no h 13 (by decide)
  rcases hy with rfl | rfl | rfl | rfl
  · exact notin_of this.1 e
  · exact notin_of this.2.1 e
  · exact notin_of this.2.2.1 e
  · exact notin_of this.2.2.2 e
end
-- EP
section
open PySem PySem.W
/-- where P fails, if it fails anywhere -/
@[irreducible] noncomputable def pick {α : Type} (_ : Nonempty α) (P : α → Prop) : α := Classical.epsilon fun a => ¬ P a
theorem pick_all {α : Type} {ne : Nonempty α} {P : α → Prop} {k : α} (e : k = pick ne P) (h : P k) (a : α) : P a :=
  Classical.byContradiction fun n => by
    subst e
    unfold pick at h
    exact (Classical.epsilon_spec (p := fun a => ¬ P a) ⟨a, n⟩) h
theorem ne_World : Nonempty World := ⟨aWorld 0⟩
theorem ne_Around : Nonempty Around := ⟨{}⟩
theorem ne_Shared : Nonempty Shared := ⟨⟨default, #[], {}, 0, default⟩⟩
theorem by_op {G : Prop} (h : ∀ P : Prop, (G → P) → P) : G := h G id
theorem dpa {u b c n : Nat} (h : u + b < n) (e : Nat.ble c b = true) : u + c < n := Nat.lt_of_le_of_lt (Nat.add_le_add_left (Nat.le_of_ble_eq_true e) u) h
theorem dp1 {u b c n : Nat} (h : u + b < n) (e : Nat.ble (1 + c) b = true) : u + 1 + c < n := Nat.add_assoc u 1 c ▸ dpa h e
theorem dp0 {u b n : Nat} (h : u + b < n) : u < n := Nat.lt_of_le_of_lt (Nat.le_add_right u b) h
theorem un3 {u b c n : Nat} (h : u + b < n) (e : Nat.ble (3 + c) b = true) : u + 3 + c < n := Nat.add_assoc u 3 c ▸ dpa h e
theorem nk1 (a : Nat) : a ≠ a + 1 := Nat.ne_of_lt (Nat.lt_add_of_pos_right (n := a) (k := 1) (Nat.succ_pos _))
theorem nk2 (a : Nat) : a ≠ a + 1 + 1 := Nat.ne_of_lt (Nat.lt_add_of_pos_right (n := a) (k := 2) (Nat.succ_pos _))
theorem nk3 (a : Nat) : a ≠ a + 1 + 1 + 1 := Nat.ne_of_lt (Nat.lt_add_of_pos_right (n := a) (k := 3) (Nat.succ_pos _))
theorem nk4 (a : Nat) : a ≠ a + 1 + 1 + 1 + 1 := Nat.ne_of_lt (Nat.lt_add_of_pos_right (n := a) (k := 4) (Nat.succ_pos _))
theorem nk5 (a : Nat) : a ≠ a + 1 + 1 + 1 + 1 + 1 := Nat.ne_of_lt (Nat.lt_add_of_pos_right (n := a) (k := 5) (Nat.succ_pos _))
theorem nk6 (a : Nat) : a ≠ a + 1 + 1 + 1 + 1 + 1 + 1 := Nat.ne_of_lt (Nat.lt_add_of_pos_right (n := a) (k := 6) (Nat.succ_pos _))
theorem nk7 (a : Nat) : a ≠ a + 1 + 1 + 1 + 1 + 1 + 1 + 1 := Nat.ne_of_lt (Nat.lt_add_of_pos_right (n := a) (k := 7) (Nat.succ_pos _))
theorem nk8 (a : Nat) : a ≠ a + 1 + 1 + 1 + 1 + 1 + 1 + 1 + 1 := Nat.ne_of_lt (Nat.lt_add_of_pos_right (n := a) (k := 8) (Nat.succ_pos _))
theorem nk9 (a : Nat) : a ≠ a + 1 + 1 + 1 + 1 + 1 + 1 + 1 + 1 + 1 := Nat.ne_of_lt (Nat.lt_add_of_pos_right (n := a) (k := 9) (Nat.succ_pos _))
theorem nk10 (a : Nat) : a ≠ a + 1 + 1 + 1 + 1 + 1 + 1 + 1 + 1 + 1 + 1 := Nat.ne_of_lt (Nat.lt_add_of_pos_right (n := a) (k := 10) (Nat.succ_pos _))
theorem nk11 (a : Nat) : a ≠ a + 1 + 1 + 1 + 1 + 1 + 1 + 1 + 1 + 1 + 1 + 1 := Nat.ne_of_lt (Nat.lt_add_of_pos_right (n := a) (k := 11) (Nat.succ_pos _))
theorem nk12 (a : Nat) : a ≠ a + 1 + 1 + 1 + 1 + 1 + 1 + 1 + 1 + 1 + 1 + 1 + 1 := Nat.ne_of_lt (Nat.lt_add_of_pos_right (n := a) (k := 12) (Nat.succ_pos _))
end
-- M0
section
theorem max_some (a b : Nat) : max a b = a ∨ max a b = b := (Nat.le_total b a).imp Nat.max_eq_left Nat.max_eq_right
theorem imax_some (a b : Int) : max a b = a ∨ max a b = b := (Int.le_total b a).imp Int.max_eq_left Int.max_eq_right
theorem imin_some (a b : Int) : min a b = a ∨ min a b = b := (Int.le_total a b).imp Int.min_eq_left Int.min_eq_right
theorem max3_ge1 (a b c : Nat) : a ≤ max (max a b) c := Nat.le_trans (Nat.le_max_left a b) (Nat.le_max_left _ c)
theorem max3_ge2 (a b c : Nat) : b ≤ max (max a b) c := Nat.le_trans (Nat.le_max_right a b) (Nat.le_max_left _ c)
theorem max3_ge3 (a b c : Nat) : c ≤ max (max a b) c := Nat.le_max_right _ c
theorem max3_le {a b c z : Nat} (ha : a ≤ z) (hb : b ≤ z) (hc : c ≤ z) : max (max a b) c ≤ z := Nat.max_le.mpr ⟨Nat.max_le.mpr ⟨ha, hb⟩, hc⟩
theorem max3_some (a b c : Nat) : max (max a b) c = a ∨ max (max a b) c = b ∨ max (max a b) c = c := by
  rcases max_some (max a b) c with e | e
  · rw [e]; exact (max_some a b).imp id .inl
  · exact .inr (.inr e)
theorem max3_of {a b c z : Nat} (ha : a ≤ z) (hb : b ≤ z) (hc : c ≤ z) (h : z = a ∨ z = b ∨ z = c) : z = max (max a b) c :=
  Nat.le_antisymm (by rcases h with rfl | rfl | rfl; exact max3_ge1 _ _ _; exact max3_ge2 _ _ _; exact max3_ge3 _ _ _) (max3_le ha hb hc)
theorem max3_mono {a b c a' b' c' : Nat} (ha : a ≤ a') (hb : b ≤ b') (hc : c ≤ c') : max (max a b) c ≤ max (max a' b') c' :=
  max3_le (Nat.le_trans ha (max3_ge1 _ _ _)) (Nat.le_trans hb (max3_ge2 _ _ _)) (Nat.le_trans hc (max3_ge3 _ _ _))
theorem imax3_ge1 (a b c : Int) : a ≤ max (max a b) c := Int.le_trans (Int.le_max_left a b) (Int.le_max_left _ c)
theorem imax3_ge2 (a b c : Int) : b ≤ max (max a b) c := Int.le_trans (Int.le_max_right a b) (Int.le_max_left _ c)
theorem imax3_ge3 (a b c : Int) : c ≤ max (max a b) c := Int.le_max_right _ c
theorem imax3_le {a b c z : Int} (ha : a ≤ z) (hb : b ≤ z) (hc : c ≤ z) : max (max a b) c ≤ z := Int.max_le.mpr ⟨Int.max_le.mpr ⟨ha, hb⟩, hc⟩
theorem imax3_some (a b c : Int) : max (max a b) c = a ∨ max (max a b) c = b ∨ max (max a b) c = c := by
  rcases imax_some (max a b) c with e | e
  · rw [e]; exact (imax_some a b).imp id .inl
  · exact .inr (.inr e)
theorem imax3_of {a b c z : Int} (ha : a ≤ z) (hb : b ≤ z) (hc : c ≤ z) (h : z ≤ a ∨ z ≤ b ∨ z ≤ c) : max (max a b) c = z :=
  Int.le_antisymm (imax3_le ha hb hc) (by rcases h with h | h | h; exact Int.le_trans h (imax3_ge1 _ _ _); exact Int.le_trans h (imax3_ge2 _ _ _); exact Int.le_trans h (imax3_ge3 _ _ _))
theorem imin3_le1 (a b c : Int) : min (min a b) c ≤ a := Int.le_trans (Int.min_le_left _ c) (Int.min_le_left a b)
theorem imin3_le2 (a b c : Int) : min (min a b) c ≤ b := Int.le_trans (Int.min_le_left _ c) (Int.min_le_right a b)
theorem imin3_le3 (a b c : Int) : min (min a b) c ≤ c := Int.min_le_right _ c
theorem le_imin3 {a b c z : Int} (ha : z ≤ a) (hb : z ≤ b) (hc : z ≤ c) : z ≤ min (min a b) c := Int.le_min.mpr ⟨Int.le_min.mpr ⟨ha, hb⟩, hc⟩
theorem lm {x a b : Nat} (h : x ≤ a) : x ≤ max a b := Nat.le_trans h (Nat.le_max_left a b)
theorem max8_all (a b c d e f g h : Nat) : a ≤ max (max (max (max (max (max (max a b) c) d) e) f) g) h ∧ b ≤ max (max (max (max (max (max (max a b) c) d) e) f) g) h ∧ c ≤ max (max (max (max (max (max (max a b) c) d) e) f) g) h ∧ d ≤ max (max (max (max (max (max (max a b) c) d) e) f) g) h ∧
    e ≤ max (max (max (max (max (max (max a b) c) d) e) f) g) h ∧ f ≤ max (max (max (max (max (max (max a b) c) d) e) f) g) h ∧ g ≤ max (max (max (max (max (max (max a b) c) d) e) f) g) h ∧ h ≤ max (max (max (max (max (max (max a b) c) d) e) f) g) h := by
  exact ⟨lm (lm (lm (lm (lm (max3_ge1 _ _ _))))), lm (lm (lm (lm (lm (max3_ge2 _ _ _))))), lm (lm (lm (lm (lm (max3_ge3 _ _ _))))), lm (lm (lm (lm (Nat.le_max_right _ _)))), lm (lm (lm (Nat.le_max_right _ _))), lm (lm (Nat.le_max_right _ _)), lm (Nat.le_max_right _ _), Nat.le_max_right _ _⟩
theorem max8_some (a b c d e f g h : Nat) : max (max (max (max (max (max (max a b) c) d) e) f) g) h = a ∨ max (max (max (max (max (max (max a b) c) d) e) f) g) h = b ∨ max (max (max (max (max (max (max a b) c) d) e) f) g) h = c ∨ max (max (max (max (max (max (max a b) c) d) e) f) g) h = d ∨
    max (max (max (max (max (max (max a b) c) d) e) f) g) h = e ∨ max (max (max (max (max (max (max a b) c) d) e) f) g) h = f ∨ max (max (max (max (max (max (max a b) c) d) e) f) g) h = g ∨ max (max (max (max (max (max (max a b) c) d) e) f) g) h = h := by
  rcases max_some (max (max (max (max (max (max a b) c) d) e) f) g) h with q | q
  · rw [q]
    rcases max_some (max (max (max (max (max a b) c) d) e) f) g with q | q
    · rw [q]
      rcases max_some (max (max (max (max a b) c) d) e) f with q | q
      · rw [q]
        rcases max_some (max (max (max a b) c) d) e with q | q
        · rw [q]
          rcases max_some (max (max a b) c) d with q | q
          · rw [q]
            rcases max3_some a b c with q | q | q
            · exact .inl q
            · exact .inr (.inl q)
            · exact .inr (.inr (.inl q))
          · exact .inr (.inr (.inr (.inl q)))
        · exact .inr (.inr (.inr (.inr (.inl q))))
      · exact .inr (.inr (.inr (.inr (.inr (.inl q)))))
    · exact .inr (.inr (.inr (.inr (.inr (.inr (.inl q))))))
  · exact .inr (.inr (.inr (.inr (.inr (.inr (.inr q))))))
theorem max8_le {a b c d e f g h z : Nat} (ha : a ≤ z) (hb : b ≤ z) (hc : c ≤ z) (hd : d ≤ z) (he : e ≤ z) (hf : f ≤ z) (hg : g ≤ z) (hh : h ≤ z) : max (max (max (max (max (max (max a b) c) d) e) f) g) h ≤ z :=
  Nat.max_le.mpr ⟨Nat.max_le.mpr ⟨Nat.max_le.mpr ⟨Nat.max_le.mpr ⟨Nat.max_le.mpr ⟨max3_le ha hb hc, hd⟩, he⟩, hf⟩, hg⟩, hh⟩
theorem mx2_lt {i j n : Nat} (hi : i < n) (hj : j < n) : max i j < n := Nat.max_lt.mpr ⟨hi, hj⟩
theorem mx3_lt {i j k n : Nat} (hi : i < n) (hj : j < n) (hk : k < n) : max (max i j) k < n := mx2_lt (mx2_lt hi hj) hk
theorem mn2_lt {i j n : Nat} (_ : i < n) (hj : j < n) : min i j < n := Nat.lt_of_le_of_lt (Nat.min_le_right i j) hj
theorem mn3_lt {i j k n : Nat} (_ : i < n) (_ : j < n) (hk : k < n) : min (min i j) k < n := Nat.lt_of_le_of_lt (Nat.min_le_right _ k) hk
theorem mm3_lt {i j k n z : Nat} (hi : i < n) (hj : j < n) (hk : k < n) (h : Nat.ble (n + n) z = true) : max (max i j) k + min (min i j) k < z :=
  Nat.lt_of_lt_of_le (Nat.add_lt_add (mx3_lt hi hj hk) (mn3_lt hi hj hk)) (Nat.le_of_ble_eq_true h)
theorem mn_le_mx (i j k : Nat) : min (min i j) k ≤ max (max i j) k := Nat.le_trans (Nat.min_le_right _ k) (Nat.le_max_right _ k)
theorem all9 {P : Nat → Prop} (h0 : P 0) (h1 : P 1) (h2 : P 2) (h3 : P 3) (h4 : P 4) (h5 : P 5) (h6 : P 6) (h7 : P 7) (h8 : P 8) : ∀ i, i < 9 → P i
  | 0, _ => h0
  | 1, _ => h1
  | 2, _ => h2
  | 3, _ => h3
  | 4, _ => h4
  | 5, _ => h5
  | 6, _ => h6
  | 7, _ => h7
  | 8, _ => h8
  | n + 9, h => absurd h (Nat.not_lt.mpr (Nat.le_add_left 9 n))
theorem all3 {P : Nat → Prop} (h0 : P 0) (h1 : P 1) (h2 : P 2) : ∀ i, i < 3 → P i
  | 0, _ => h0
  | 1, _ => h1
  | 2, _ => h2
  | n + 3, h => absurd h (Nat.not_lt.mpr (Nat.le_add_left 3 n))
theorem all4 {P : Nat → Prop} (h0 : P 0) (h1 : P 1) (h2 : P 2) (h3 : P 3) : ∀ i, i < 4 → P i
  | 0, _ => h0
  | 1, _ => h1
  | 2, _ => h2
  | 3, _ => h3
  | n + 4, h => absurd h (Nat.not_lt.mpr (Nat.le_add_left 4 n))
theorem three_cases {q : Nat} (h : q < 3) : q = 0 ∨ q = 1 ∨ q = 2 := all3 (P := fun q => q = 0 ∨ q = 1 ∨ q = 2) (.inl rfl) (.inr (.inl rfl)) (.inr (.inr rfl)) q h
theorem four_cases {q : Nat} (h : q < 4) : q = 0 ∨ q = 1 ∨ q = 2 ∨ q = 3 := all4 (P := fun q => q = 0 ∨ q = 1 ∨ q = 2 ∨ q = 3) (.inl rfl) (.inr (.inl rfl)) (.inr (.inr (.inl rfl))) (.inr (.inr (.inr rfl))) q h
theorem list3 {α : Type} : ∀ {ys : List α} {a b c : α}, ys.length = 3 → ys[0]? = some a → ys[1]? = some b → ys[2]? = some c → ys = [a, b, c]
  | [_, _, _], _, _, _, _, e0, e1, e2 => by cases e0; cases e1; cases e2; rfl
theorem max_at3 {f : Nat → Int} : ∀ b, b < 3 → (∀ v, v < 3 → f v ≤ f b) → max (max (f 0) (f 1)) (f 2) = f b :=
  all3 (P := fun b => (∀ v, v < 3 → f v ≤ f b) → max (max (f 0) (f 1)) (f 2) = f b)
    (fun h => imax3_of (h 0 (by decide)) (h 1 (by decide)) (h 2 (by decide)) (.inl (Int.le_refl _)))
    (fun h => imax3_of (h 0 (by decide)) (h 1 (by decide)) (h 2 (by decide)) (.inr (.inl (Int.le_refl _))))
    (fun h => imax3_of (h 0 (by decide)) (h 1 (by decide)) (h 2 (by decide)) (.inr (.inr (Int.le_refl _))))
end
-- PB
section
open Sem (wp)
/-- a frame that may hold a bytearray's bytes while it decodes -/
noncomputable def isDec : Code → Bool
  | .builtin id _ => Builtin.Bytes.decodersThatHold.contains id
  | _ => false
/-- no decoder's frame is on the stack -/
noncomputable def NoDec (Γ : PySem.Ctx) : Prop := isDec Γ.code = false ∧ ∀ q ∈ Γ.below, isDec q.1 = false
theorem NoDec.goto {Γ : PySem.Ctx} (h : NoDec Γ) {c : Code} (hc : isDec c = false) : NoDec (Γ.goto c) := ⟨hc, h.2⟩
theorem NoDec.enter {Γ : PySem.Ctx} (h : NoDec Γ) {c : Code} (hc : isDec c = false) (hd : Option Value) (p : Pos) : NoDec (Γ.enter c hd p) := ⟨hc, fun q hq => by
  rcases List.mem_cons.mp hq with e | e
  · rw [e]; exact h.1
  · exact h.2 q e⟩
noncomputable def wpP {α : Type} (M : Model) (A : Around) (t : Sem α) (Q : α → Shared → Prop) (E : Value → Shared → Prop) (s : Shared) : Prop :=
  ∀ Γ p, Γ.In A → NoDec Γ → wp M Γ t (fun a _ s' => Q a s') (fun e _ s' => E e s') p s
noncomputable def codeP (M : Model) (A : Around) (c : Code) (R : Result → Shared → Prop) (s : Shared) : Prop :=
  ∀ Γ p, Γ.code = c → Γ.Below A → NoDec Γ → wpCode M Γ R p s
section
variable {α β : Type} {M : Model} {A : Around} {E : Value → Shared → Prop} {s : Shared}
theorem any_tk {M : Model} {A : Around} {α : Type} {c : Sem α} {Q : α → Shared → Prop} {E : Value → Shared → Prop} {hp : Heap} {g : Array GenState} {d : Drawn} {n : Nat} {o : OsState} (h : ∀ tk, wpAny M A c Q E ⟨hp, g, d, tk, o⟩) : wpAny M A c Q E ⟨hp, g, d, n, o⟩ := h n
theorem wpP_of {t : Sem α} {Q : α → Shared → Prop} (h : wpAny M A t Q E s) : wpP M A t Q E s := fun Γ p hΓ _ => h Γ p hΓ
theorem codeP_of {c : Code} {R : Result → Shared → Prop} (h : codeAny M A c R s) : codeP M A c R s := fun Γ p hc hΓ _ => h Γ p hc hΓ
theorem wpP_pure {a : α} {Q : α → Shared → Prop} (h : Q a s) : wpP M A (pure a) Q E s := fun _ _ _ _ => h
theorem wpP_mono {t : Sem α} {Q Q' : α → Shared → Prop} {E' : Value → Shared → Prop} (h : wpP M A t Q E s) (hQ : ∀ a s, Q a s → Q' a s) (hE : ∀ e s, E e s → E' e s) : wpP M A t Q' E' s :=
  fun Γ p hΓ g => Sem.wp_mono M Γ t (fun a _ s => hQ a s) (fun e _ s => hE e s) p s (h Γ p hΓ g)
theorem wpP_bind {m : Sem α} {f : α → Sem β} {Q : β → Shared → Prop} (h : wpP M A m (fun a s' => wpP M A (f a) Q E s') E s) : wpP M A (m >>= f) Q E s := fun Γ p hΓ g => by
  rw [Sem.wp_bind']
  exact Sem.wp_mono M Γ m (fun a p' s' h' => h' Γ p' hΓ g) (fun _ _ _ h' => h') p s (h Γ p hΓ g)
/-- first a part that any context may run -/
theorem wpP_bindA {m : Sem α} {f : α → Sem β} {Q : β → Shared → Prop} (h : wpAny M A m (fun a s' => wpP M A (f a) Q E s') E s) : wpP M A (m >>= f) Q E s := wpP_bind (wpP_of h)
theorem wpP_onRaise {m : Sem α} {k : Value → Sem Unit} {Q : α → Shared → Prop} (h : wpP M A m Q (fun e s' => wpAny M A (k e) (fun _ s'' => E e s'') E s') s) : wpP M A (m.onRaise k) Q E s := fun Γ p hΓ g => by
  rw [Sem.wp_onRaise]
  exact Sem.wp_mono M Γ m (fun _ _ _ h' => h') (fun e p' s' h' => h' Γ p' hΓ) p s (h Γ p hΓ g)
theorem wpP_holding {vs : List Value} {m : Sem α} {Q : α → Shared → Prop} (h : wpP M A m Q E s) : wpP M A (holding vs m) Q E s := fun Γ p hΓ g => by
  rw [Sem.wp_holding]; exact h Γ p hΓ g
theorem wpP_eq {t t' : Sem α} {Q : α → Shared → Prop} (e : t = t') (h : wpP M A t' Q E s) : wpP M A t Q E s := e ▸ h
theorem wpP_run {c : Code} {h : Option Value} {Q : Flow → Shared → Prop} (hd : isDec c = false) (hc : codeP M (A.mark h) c (fun r s' => match r with | .ok f => Q f s' | .error e => E e s') s) (hnb : h ≠ some byPass := by intro x; cases x) :
    wpP M A (run c h) Q E s := fun Γ p hΓ g => by rw [Sem.wp_run]; exact hc _ p rfl (hΓ.enter c h p hnb) (g.enter hd h p)
theorem wpP_call {f : Value} {pos : List Value} {kw : List (Str × Value)} {Q : Value → Shared → Prop}
    (hc : codeP M A (.call f ⟨pos, kw⟩) (fun r s' => match r with | .ok (.ret v) => Q v s' | .ok _ => False | .error e => E e s') s) : wpP M A (call f pos kw) Q E s := fun Γ p hΓ g => by
  show wp M Γ (runValue (.call f ⟨pos, kw⟩)) _ _ p s
  rw [Sem.wp_runValue]
  exact hc _ p rfl (hΓ.enter _ none p (by intro x; cases x)) (g.enter rfl none p)
theorem codeP_of_tree {c : Code} {R : Result → Shared → Prop}
    (h : wpP M (A.under c) (M.den c) (fun fin s' => match fin with | .done f => R (.ok f) s' | .again c' => c'.quiet = true ∧ isDec c' = false ∧ codeP M A c' R s') (fun e s' => R (.error e) s') s) : codeP M A c R s := fun Γ p hc hΓ g => by
  rw [wpCode_iff_wp, hc]
  refine Sem.wp_mono M Γ _ (fun fin p' s' h' => ?_) (fun _ _ _ h' => h') p s (h Γ p (hc ▸ hΓ.in) g)
  cases fin with
  | done f => exact h'
  | again c' => exact ⟨h'.1, h'.2.2 (Γ.goto c') p' rfl (hΓ.goto c') (g.goto h'.2.1)⟩
theorem codeP_mono {c : Code} {R R' : Result → Shared → Prop} (h : codeP M A c R s) (hR : ∀ r s, R r s → R' r s) : codeP M A c R' s := fun Γ p hc hΓ g => wpCode_mono hR (h Γ p hc hΓ g)
theorem codeP_loop {c : Code} {R : Result → Shared → Prop} (hq : c.quiet = true) (hd : isDec c = false) (I : Nat → Shared → Prop)
    (turn : ∀ n s, I n s → wpP M (A.under c) (M.den c) (fun fin s' => match fin with
        | .done f => R (.ok f) s'
        | .again c' => (c' = c ∧ ∃ m, m < n ∧ I m s') ∨ (c'.quiet = true ∧ isDec c' = false ∧ codeP M A c' R s')) (fun e s' => R (.error e) s') s) (n : Nat) (h : I n s) : codeP M A c R s := by
  induction n using Nat.strongRecOn generalizing s with
  | ind n ih =>
    refine codeP_of_tree (wpP_mono (turn n s h) (fun fin s' hf => ?_) fun _ _ h' => h')
    cases fin with
    | done f => exact hf
    | again c' =>
      rcases hf with ⟨rfl, m, hm, hI⟩ | hf
      · exact ⟨hq, hd, ih m hm hI⟩
      · exact hf
end
/-- a look at the stack is one step of the scheduler -/
theorem sched_stack {den : Code → Sem Fin} {prog : Program} {w : World} {s s' : Shared} {k : List (Code × Pos) → Sem Fin} {c : Code} {p : Pos} {o : Outcome} (hr : s.asleep) : ∀ {n : Nat},
    schedN den prog w n (.single s ⟨.stack k, c, p, []⟩) = .halted o s' → ∃ n', schedN den prog w n' (.single s ⟨k [(c, p)], c, p, []⟩) = .halted o s'
  | 0, h => by cases h
  | n + 1, h => by
    have e := (sstep_single den prog w s ⟨.stack k, c, p, []⟩ rfl hr).resolve_right (by intro x; cases x)
    rw [schedN, e] at h
    exact ⟨n, h⟩
noncomputable def badStack (st : List (Code × Pos)) : Bool := st.any fun q => isDec q.1
theorem noDec_of {Γ : PySem.Ctx} {p : Pos} (h : badStack ((Γ.code, p) :: Γ.below) = false) : NoDec Γ := by
  unfold badStack at h
  rw [List.any_cons, Bool.or_eq_false_iff, List.any_eq_false] at h
  exact ⟨h.1, fun q hq => by simpa using h.2 q hq⟩
/-- the call, but where a decoder's frame stands -/
noncomputable def runL (f : Value) (vs : List Value) : Sem Value := stack >>= fun st => if badStack st then pure (.bool true) else PySem.call f vs
noncomputable def treeT (name : Str) (vs : List Value) : Sem Fin := do
  match ← nsGet mainNs name with
  | some f => do ret (← PySem.call f vs)
  | none => unsupported "claim.caller:no-such-global"
noncomputable def treeL (name : Str) (vs : List Value) : Sem Fin := stack >>= fun st => if badStack st then pure (.done (.ret (.bool true))) else treeT name vs
noncomputable abbrev WalkP (q : Program) (loose : List Str) (XP : (Str → Option Value) → Heap → Prop) (YP : World → Heap → Prop) (r : RowW) (d : DefRec) (kwd : List (Str × Expr)) : Prop :=
  ∀ (w : World) (s₀ s₁ : Shared) (mg mb : Str → Option Value), Ground q loose r.records XP w s₀ mg mb s₁.heap → YP w s₁.heap → ∀ (a : Addr) (o : Obj) (pm cd doc dV kV : Value), s₁.heap.get? a = some o →
    o.data = .func { docDef d.name d.params d.body d.scope pm cd doc with defaults := dV, kwdefaults := kV } → s₁.heap.CodeRec cd d.name → Dflts mg s₁.heap d.params kwd dV kV → mg d.name = some (.ref a) → s₁.gens = #[] →
    ∀ (args : List WData) (vals : List Value) (as : List Addr), r.claim.pre args = true → WData.layableAll args = true → ReadsAllW r.records (classAt s₀.heap) s₁.heap vals args as → WellAll w.params s₁.heap vals args → (∀ a ∈ as, (a == sysModules) = false) →
      GoodWG r.claim (classAt s₀.heap) (ExcName.means s₀.heap) args s₁ (.ok (.ret (.bool true))) s₁ ∧
      wpP (model r.prog w) callerA (PySem.call (.ref a) vals) (fun v s' => GoodWG r.claim (classAt s₀.heap) (ExcName.means s₀.heap) args s₁ (.ok (.ret v)) s')
        (fun e s' => GoodWG r.claim (classAt s₀.heap) (ExcName.means s₀.heap) args s₁ (.error e) s') s₁
theorem runL_of {r : RowW} {w : World} {f : Value} {vs : List Value} {Q E : Value → Shared → Prop} {s : Shared} (h1 : Q (.bool true) s) (h2 : wpP (model r.prog w) callerA (PySem.call f vs) Q E s) : wpAny (model r.prog w) callerA (runL f vs) Q E s := fun Γ p hΓ => by
  show wp _ Γ (if badStack ((Γ.code, p) :: Γ.below) then pure (.bool true) else PySem.call f vs) _ _ p s
  cases hb : badStack ((Γ.code, p) :: Γ.below) with
  | true => exact h1
  | false => exact h2 Γ p hΓ (noDec_of hb)
theorem treeL_of {prog : Program} {name : Str} {w : World} {f : Value} {vs : List Value} {mg : Str → Option Value} {Q : Fin → Shared → Prop} {E : Value → Shared → Prop} {s : Shared} (hg : s.heap.Ns mainGlobals mg) (hf : mg name = some f)
    (h : wpAny (model prog w) callerA (runL f vs) (fun v s' => Q (.done (.ret v)) s') E s) : wpAny (model prog w) callerA (treeL name vs) Q E s := fun Γ p hΓ => by
  have h' : wp _ Γ (if badStack ((Γ.code, p) :: Γ.below) then pure (.bool true) else PySem.call f vs) _ _ p s := h Γ p hΓ
  show wp _ Γ (if badStack ((Γ.code, p) :: Γ.below) then pure (.done (.ret (.bool true))) else treeT name vs) _ _ p s
  cases hb : badStack ((Γ.code, p) :: Γ.below) with
  | true => rw [hb] at h'; exact h'
  | false =>
    rw [hb] at h'
    show wp _ Γ (nsGet mainGlobals name >>= _) _ _ p s
    rw [Sem.wp_bind', Sem.wp_nsGet _ Γ _ p s hg, hf]
    show wp _ Γ (PySem.call f vs >>= fun v => ret v) _ _ p s
    rw [Sem.wp_bind']
    exact h'
theorem PySem.W.holds_open {r : OpenRow} {q : Program} {loose : List Str} {Xt : Shared → Bool} {XP : (Str → Option Value) → Heap → Prop} {α : Type} {Yf : Shared → α} {Ya : World → α} {YP : World → Heap → Prop} {d : DefRec} {kwd : List (Str × Expr)} {N : Nat}
    (left : ∀ w : World, (openEnds treeTable r.prog w N).map (fun s => (openSeen q loose (importedModules r.prog.main.body) Xt true s, Yf s)) = some (openGood q loose, Ya w)) (hY : ∀ w s, Yf s = Ya w → YP w s.heap) (hYk : ∀ w h h', YP w h → (∀ b o, h.get? b = some o → h'.get? b = some o) → YP w h')
    (hX : ∀ s, Xt s = true → XP (s.heap.nsMap mainGlobals) s.heap) (hXk : ∀ mg h h', XP mg h → (∀ b o, h.get? b = some o → h'.get? b = some o) → XP mg h')
    (hdef : defOf q r.name = some (d, kwd)) (hp : r.prog.theDef r.name = some (d.params, d.body, d.scope)) (hk : kwWritten? d.params.kwonlyargs d.params.kw_defaults = some kwd) (hRf : ∀ s, Xt s = true → RecFacts r.records s.heap) (hwr : (!r.writes || r.records.isEmpty) = true)
    (_k0 : True) (ok : (chainsOk q && opensWell r.prog && (frees r.toRowW && r.within.isEmpty)) = true) (hb : r.prog.bare) (hw : r.toRowW.promised)
    (call0 : r.wellSaid = true ∧ WalkP q loose XP YP r.toRowW d kwd) : r.Holds := by
  obtain ⟨k1, call⟩ := call0
  have H : r.toRowW.claim.HoldsOpenBy (fun vs => ⟨treeL r.name vs, .builtin "claim.caller" {}, default, []⟩) (if r.pinned then [r.name] else []) r.keeps r.writes := by
    refine open_anyG (r := r.toRowW) (run := runL) (tree := treeL r.name) left hY hYk hX hXk hRf hwr ok hb hw (fun vs w s mg f Q E hg hf h => treeL_of hg hf h) (fun w s hg G n hn => ?_) fun w s₀ s₁ mg mb G Y args vs as hpre hlay L low => ?_
    · obtain rfl : n = r.name := by split at hn <;> simp_all
      exact pinned_of_view hg G hdef hp hk
    · obtain ⟨a, o, pm, cd, doc, dV, kV, h1, h2, h3, h4, h5⟩ := G.fn hdef
      obtain ⟨g1, g2⟩ := call w s₀ s₁ mg mb G Y a o pm cd doc dV kV h2 h3 h4 h5 (defOf_name hdef ▸ h1) L.gens args vs as hpre hlay L.reads L.well (L.low low)
      exact ⟨.ref a, h1, runL_of g1 g2⟩
  obtain ⟨h1, h2, h3⟩ := H
  refine ⟨k1, hw, h1, h2, fun w => ⟨(h3 w).1, fun s hs => ?_⟩⟩
  obtain ⟨s₀, hf, hg, s₁, hT, c1, c2, c3, hC⟩ := (h3 w).2 s hs
  refine ⟨s₀, hf, hg, s₁, hT, c1, c2, c3, fun args hp hl ord ho => ?_⟩
  obtain ⟨vs, s₂, hlay, n, o, s', hsch, rest⟩ := hC args hp hl ord ho
  have z₀ : s₀.asleep := Shared.asleep_of_life (fence_lifeW hf) (AfterImport.life hs)
  have z₁ : s₁.asleep := Shared.asleep_of_life hT.2.1 z₀
  obtain ⟨n', hsch'⟩ := sched_stack (Shared.asleep_of_life (layAllW_rest _ _ _ hlay).2.2.2 z₁) hsch
  exact ⟨vs, s₂, hlay, n', o, s', hsch', rest⟩
end
-- Hd
section
open PySem PySem.W PyProof.Rows
open_top hd for PySem.Challenge.rw_zo0012_01.row
theorem wellSaid : PySem.Challenge.rw_zo0012_01.wellSaid = true := by decide +kernel
end
-- B0
section
/-- what a call of f on vs comes to, whoever calls: n is the room that it wants -/
noncomputable def Gives (w : World) (n : Nat) (f : Addr) (pre : List (Addr × Obj) → List Value → Prop) (out : List (Addr × Obj) → List (Addr × Obj) → Value → Prop) : Prop :=
  ∀ (mean : ExcName → Option Value) (mg mb : Str → Option Value) (dp un : Nat) (gd : Option (List Code)) (cn : Str) (cs : Scope) (a : Addr) (ccd : Value) (cl : List (Str × Addr)) (outer : List Env) (A₀ : Around) (base h₀ : Heap) (L : Addr) (m : Str → Option Value) (news : List (Addr × Obj)) (s : Shared) (vs : List Value)
    (Q E : Value → Shared → Prop),
    Below A₀ base outer h₀ → Fr h₀ L s.heap m → (Mine.hd.heap_1 w.params).In h₀ → News h₀ L s.heap news → Top Mine.hd.view_1 (looseW Mine.hd.view_1 []) mean mg mb h₀ → cs.kind = .function → pre news vs → dp + n < recursionLimit → un + 8 * n < cLine →
    (∀ r add h' tk', Fr h₀ L h' m → News h₀ L h' (add ++ news) → (∀ q ∈ news, ∀ p ∈ add, q.1 < p.1) → out news add r → Q r { s with heap := h', toks := tk' }) →
    wpAny (model PySem.Challenge.rw_zo0012_01.row.prog w) (ktrTop dp un gd cn cs L a ccd cl outer) (call (.ref f) vs) Q E s
theorem gives_use {w : World} {n : Nat} {f : Addr} {pre : List (Addr × Obj) → List Value → Prop} {out : List (Addr × Obj) → List (Addr × Obj) → Value → Prop} (G : Gives w n f pre out)
  {mean : ExcName → Option Value} {mg mb : Str → Option Value} {dp un : Nat} {gd : Option (List Code)} {cn : Str} {cs : Scope} {a : Addr} {ccd : Value} {cl : List (Str × Addr)} {outer : List Env} {A₀ : Around} {base h₀ : Heap} {L : Addr} {m : Str → Option Value} {news : List (Addr × Obj)} {s : Shared} {vs : List Value}
    {Q E : Value → Shared → Prop} (B : Below A₀ base outer h₀) (F : Fr h₀ L s.heap m) (X : (Mine.hd.heap_1 w.params).In h₀) (N : News h₀ L s.heap news) (T : Top Mine.hd.view_1 (looseW Mine.hd.view_1 []) mean mg mb h₀) (hk : cs.kind = .function) (R : pre news vs) (hd : dp + n < recursionLimit) (hu : un + 8 * n < cLine)
    (ret : ∀ r add h' tk', Fr h₀ L h' m → News h₀ L h' (add ++ news) → (∀ q ∈ news, ∀ p ∈ add, q.1 < p.1) → out news add r → Q r { s with heap := h', toks := tk' }) :
    wpAny (model PySem.Challenge.rw_zo0012_01.row.prog w) (ktrTop dp un gd cn cs L a ccd cl outer) (call (.ref f) vs) Q E s := by unfold Gives at G; apply G <;> first | assumption | exact B | exact T -- X N T hk R hd hu ret
theorem ret_nil {h₀ : Heap} {L : Addr} {m : Str → Option Value} {s : Shared} {Q : Value → Shared → Prop} {news : List (Addr × Obj)} {V : Tok → Value} (k : ∀ t h' tk', Fr h₀ L h' m → News h₀ L h' news → Q (V t) { s with heap := h', toks := tk' }) :
    ∀ r add h' tk', Fr h₀ L h' m → News h₀ L h' (add ++ news) → (∀ q ∈ news, ∀ p ∈ add, q.1 < p.1) → (add = [] ∧ ∃ t, r = V t) → Q r { s with heap := h', toks := tk' } := by
  rintro r add h' tk' F N _ ⟨rfl, t, rfl⟩
  exact k t h' tk' F N
end
-- B1
section
theorem replaceT {prog : Program} {w : World} {A : Around} {E : Value → Shared → Prop} {s : Shared} {x y z : Str} {t u v : Tok} {Q : Value → Shared → Prop}
    (hu : u ≠ 0) (hv : v ≠ 0) (huv : u ≠ v) (hyz : (y == z) = false) (hx : x.length ≤ 1048576) (hz : z.length ≤ 14)
    (hq : ∀ t' k, s.toks ≤ k → Q (.str (Txt.replace x y z) t') { s with toks := k }) : wpAny (model prog w) A (call (.builtin "str.replace") [.str x t, .str y u, .str z v]) Q E s :=
  wpAny_with_toks (Nat.le_refl s.toks) (SC.replaceW hu hv huv hyz hx hz fun t' k h => hq t' k h)
/-- what a call of f on vs comes to, a token having been drawn -/
noncomputable def GivesT (w : World) (n : Nat) (f : Addr) (pre : List (Addr × Obj) → List Value → Prop) (out : List (Addr × Obj) → List (Addr × Obj) → Value → Prop) : Prop :=
  ∀ (mean : ExcName → Option Value) (mg mb : Str → Option Value) (dp un : Nat) (gd : Option (List Code)) (cn : Str) (cs : Scope) (a : Addr) (ccd : Value) (cl : List (Str × Addr)) (outer : List Env) (A₀ : Around) (base h₀ : Heap) (L : Addr) (m : Str → Option Value) (news : List (Addr × Obj)) (s : Shared) (vs : List Value)
    (Q E : Value → Shared → Prop), 0 < s.toks →
    Below A₀ base outer h₀ → Fr h₀ L s.heap m → (Mine.hd.heap_1 w.params).In h₀ → News h₀ L s.heap news → Top Mine.hd.view_1 (looseW Mine.hd.view_1 []) mean mg mb h₀ → cs.kind = .function → pre news vs → dp + n < recursionLimit → un + 8 * n < cLine →
    (∀ r add h' tk', Fr h₀ L h' m → News h₀ L h' (add ++ news) → (∀ q ∈ news, ∀ p ∈ add, q.1 < p.1) → out news add r → Q r { s with heap := h', toks := tk' }) →
    wpAny (model PySem.Challenge.rw_zo0012_01.row.prog w) (ktrTop dp un gd cn cs L a ccd cl outer) (call (.ref f) vs) Q E s
end
-- B2
section
set_option genSizeOf false in
set_option genInjectivity false in
structure FnParts (P : Params) (a : Addr) where
  name : Str
  qual : Str
  params : Arguments
  body : List Stmt
  scope : Scope
  oc : Value
  od : Option Addr
  osl : Array (Option Value)
  dV : Value
  kV : Value
  doc : Value
  pm : Value
  an : Option Addr
  cdv : Value
  ct : Value
  is : (Mine.hd.heap_1 P).lookup a = some ⟨oc, od, .func (fnOf name qual params body scope dV kV doc pm an cdv ct), osl⟩
/-- a for statement's target and body -/
noncomputable def forAt : List Stmt → Nat → Expr × List Stmt
  | (.For t _ b _ _) :: _, 0 => (t, b)
  | _ :: l, n + 1 => forAt l n
  | _, _ => (.Name (Str.ofString "") default, [])
set_option genSizeOf false in
set_option genInjectivity false in
/-- where a def's body begins: the caller's place, and the frame entered -/
structure Spot where
  w : World
  mean : ExcName → Option Value
  mg : Str → Option Value
  mb : Str → Option Value
  dp : Nat
  un : Nat
  gd : Option (List Code)
  cn : Str
  cs : Scope
  a : Addr
  ccd : Value
  cl : List (Str × Addr)
  outer : List Env
  base : Heap
  h₀ : Heap
  L₀ : Addr
  m₀ : Str → Option Value
  news : List (Addr × Obj)
  s : Shared
  Q : Value → Shared → Prop
  E : Value → Shared → Prop
  g : Heap
  L : Addr
  h : Heap
  tk : Nat
theorem ne_Spot : Nonempty Spot := ⟨⟨aWorld 0, fun _ => none, fun _ => none, fun _ => none, 0, 0, none, ⟨#[]⟩, default, 0, .none, [], [], {}, {}, 0, fun _ => none, [], ⟨default, #[], {}, 0, default⟩, fun _ _ => True, fun _ _ => True, {}, 0, {}, 0⟩⟩
/- the walk through the body of f, its parameters bound to bs -/
@[irreducible] noncomputable def InBody (n : Nat) (f : Addr) (P : ∀ p, FnParts p f) (bs : List (Str × Value)) (led : List (Addr × Obj)) (out : List (Addr × Obj) → Value → Prop) (z : Spot) : Prop :=
  Below (ktrTop z.dp z.un z.gd z.cn z.cs z.L₀ z.a z.ccd z.cl z.outer) z.base (envX z.cn z.cs z.L₀ z.a z.ccd z.cl :: z.outer) z.g → Fr z.h₀ z.L₀ z.g z.m₀ → (Mine.hd.heap_1 z.w.params).In z.h₀ → Fr z.g z.L z.h (fun y => List.lookup y bs) → (Mine.hd.heap_1 z.w.params).In z.g → News z.g z.L z.h led →
  Top Mine.hd.view_1 (looseW Mine.hd.view_1 []) z.mean z.mg z.mb z.g → z.dp + n < recursionLimit → z.un + 8 * n < cLine →
  (∀ r add h' tk', Fr z.h₀ z.L₀ h' z.m₀ → News z.h₀ z.L₀ h' (add ++ z.news) → (∀ q ∈ z.news, ∀ p ∈ add, q.1 < p.1) → out add r → z.Q r { z.s with heap := h', toks := tk' }) →
  wpAny (model PySem.Challenge.rw_zo0012_01.row.prog z.w) ((ktrTop z.dp z.un z.gd z.cn z.cs z.L₀ z.a z.ccd z.cl z.outer).deeper (envOf (P z.w.params).qual (P z.w.params).scope z.L f (P z.w.params).cdv)) (execs (P z.w.params).body (envOf (P z.w.params).qual (P z.w.params).scope z.L f (P z.w.params).cdv))
    (fun fl s' => LeaveK z.h₀ z.L₀ z.m₀ z.g (fun r s' => match r with | .ok (.ret v) => z.Q v s' | .ok _ => False | .error e => z.E e s') (match fl with | .ret v => v | _ => .none) s')
    (fun e s' => wpAny (model PySem.Challenge.rw_zo0012_01.row.prog z.w) ((ktrTop z.dp z.un z.gd z.cn z.cs z.L₀ z.a z.ccd z.cl z.outer).deeper (envOf (P z.w.params).qual (P z.w.params).scope z.L f (P z.w.params).cdv)) (leaving (envOf (P z.w.params).qual (P z.w.params).scope z.L f (P z.w.params).cdv) e) (fun _ s'' => z.E e s'') (fun e' s'' => z.E e' s'') s')
    { z.s with heap := z.h, toks := z.tk }
theorem in_body {n : Nat} {f : Addr} {P : ∀ p, FnParts p f} {bs : List (Str × Value)} {led : List (Addr × Obj)} {out : List (Addr × Obj) → Value → Prop} {z : Spot} {G : Prop} (H : InBody n f P bs led out z) :
  Below (ktrTop z.dp z.un z.gd z.cn z.cs z.L₀ z.a z.ccd z.cl z.outer) z.base (envX z.cn z.cs z.L₀ z.a z.ccd z.cl :: z.outer) z.g → Fr z.h₀ z.L₀ z.g z.m₀ → (Mine.hd.heap_1 z.w.params).In z.h₀ → Fr z.g z.L z.h (fun y => List.lookup y bs) → (Mine.hd.heap_1 z.w.params).In z.g → News z.g z.L z.h led →
  Top Mine.hd.view_1 (looseW Mine.hd.view_1 []) z.mean z.mg z.mb z.g → z.dp + n < recursionLimit → z.un + 8 * n < cLine →
  (∀ r add h' tk', Fr z.h₀ z.L₀ h' z.m₀ → News z.h₀ z.L₀ h' (add ++ z.news) → (∀ q ∈ z.news, ∀ p ∈ add, q.1 < p.1) → out add r → z.Q r { z.s with heap := h', toks := tk' }) →
  (wpAny (model PySem.Challenge.rw_zo0012_01.row.prog z.w) ((ktrTop z.dp z.un z.gd z.cn z.cs z.L₀ z.a z.ccd z.cl z.outer).deeper (envOf (P z.w.params).qual (P z.w.params).scope z.L f (P z.w.params).cdv)) (execs (P z.w.params).body (envOf (P z.w.params).qual (P z.w.params).scope z.L f (P z.w.params).cdv))
    (fun fl s' => LeaveK z.h₀ z.L₀ z.m₀ z.g (fun r s' => match r with | .ok (.ret v) => z.Q v s' | .ok _ => False | .error e => z.E e s') (match fl with | .ret v => v | _ => .none) s')
    (fun e s' => wpAny (model PySem.Challenge.rw_zo0012_01.row.prog z.w) ((ktrTop z.dp z.un z.gd z.cn z.cs z.L₀ z.a z.ccd z.cl z.outer).deeper (envOf (P z.w.params).qual (P z.w.params).scope z.L f (P z.w.params).cdv)) (leaving (envOf (P z.w.params).qual (P z.w.params).scope z.L f (P z.w.params).cdv) e) (fun _ s'' => z.E e s'') (fun e' s'' => z.E e' s'') s')
    { z.s with heap := z.h, toks := z.tk }) = G → G := by
  intro B FG X₀ F X N T hd hu hret e
  unfold InBody at H
  exact e ▸ H B FG X₀ F X N T hd hu hret
end
-- R1
section
section
variable {prog : Program} {w : World} {A : Around} {E : Value → Shared → Prop} {s : Shared} {h₀ : Heap} {L l : Addr}
noncomputable abbrev tupObj (vs : List Value) (n : Nat) : Obj := { cls := .type "tuple", data := .seq vs.toArray n }
theorem sub_listN {value slice : Expr} {news : List (Addr × Obj)} {vs : List Value} {n : Nat} {k : Int} {u : Tok} {v : Value} {Q : Value → Shared → Prop} (N : News h₀ L s.heap news) (hm : (l, listOf vs.toArray n) ∈ news)
    (h0 : 0 ≤ k) (hfit : k < 2 ^ 63) (hx : vs[k.toNat]? = some v) (h : Q v s)
    (hs : subscripted slice false (.ref l) (.int k u) = operate [.ref l, .int k u] (getItem (.ref l) (.int k u)) := by with_unfolding_all rfl) :
    wpAny (model prog w) A (subscriptTail value slice (.ref l) (.int k u)) Q E s := by
  have hl : s.heap.IsList l vs.toArray := ⟨_, (N _ hm).1, rfl, n, rfl⟩
  exact tail_any hl.typeIs slot_list_getitem.lookup (wpAny_getItem_list hl h0 hfit (by simpa using hx) h) hs
theorem sub_tupN {value slice : Expr} {news : List (Addr × Obj)} {vs : List Value} {n : Nat} {k : Int} {u : Tok} {v : Value} {Q : Value → Shared → Prop} (N : News h₀ L s.heap news) (hm : (l, tupObj vs n) ∈ news)
    (h0 : 0 ≤ k) (hfit : k < 2 ^ 63) (hx : vs[k.toNat]? = some v) (h : Q v s)
    (hs : subscripted slice false (.ref l) (.int k u) = operate [.ref l, .int k u] (getItem (.ref l) (.int k u)) := by with_unfolding_all rfl) :
    wpAny (model prog w) A (subscriptTail value slice (.ref l) (.int k u)) Q E s := by
  have hl : IsTup s.heap l vs.toArray := ⟨_, (N _ hm).1, rfl, n, rfl⟩
  have hlt : k.toNat < vs.length := by
    rcases Nat.lt_or_ge k.toNat vs.length with q | q
    · exact q
    · rw [List.getElem?_eq_none q] at hx; cases hx
  refine item_tupleT hl (by omega) hfit (j := k.toNat) ?_ (by simpa using hx) h hs
  unfold seqIndex?
  have h1 : ¬ k < 0 := by omega
  have h2 : k < (vs.length : Int) := by omega
  simp [h1, h0, h2]
theorem news_sub {h : Heap} {l l' : List (Addr × Obj)} (N : News h₀ L h l) (hs : ∀ p ∈ l', p ∈ l) : News h₀ L h l' := fun p hp => N p (hs p hp)
theorem news_dup {h : Heap} {l : List (Addr × Obj)} {p : Addr × Obj} (N : News h₀ L h l) (hp : p ∈ l) : News h₀ L h (p :: l) := fun q hq => (List.mem_cons.mp hq).elim (fun e => e ▸ N p hp) (N q)
theorem none_lt {news : List (Addr × Obj)} : ∀ q ∈ news, ∀ p ∈ ([] : List (Addr × Obj)), q.1 < p.1 := fun _ _ _ hp => nomatch hp
end
end
-- E0
section
/-- the script: a list of ints that was there at the start -/
noncomputable def Scr (h₀ : Heap) (l : Addr) (xs : List Int) : Prop := xs.length ≤ 63 ∧ ∃ vals : List Value, h₀.IsList l vals.toArray ∧ IntsAre vals xs
theorem scr_up {h₀ h : Heap} {L l : Addr} {m : Str → Option Value} {xs : List Int} (S : Scr h₀ l xs) (F : Fr h₀ L h m) : Scr h l xs := by
  obtain ⟨a, v, b, c⟩ := S
  exact ⟨a, v, F.lst b, c⟩
theorem ints_sub : ∀ {ws vals : List Value} {xs : List Int}, IntsAre vals xs → (∀ v ∈ ws, v ∈ vals) → ∃ ms, IntsAre ws ms
  | [], _, _, _, _ => ⟨[], by first | exact IntsAre.nil | exact .nil | exact trivial⟩
  | v :: ws, vals, xs, h, hs => by
    obtain ⟨ms, hm⟩ := ints_sub (ws := ws) h fun u hu => hs u (.tail _ hu)
    have hv := hs v (.head _)
    have : ∃ n t, v = .int n t := by
      clear hs hm
      induction h with
      | nil => cases hv
      | cons h1 h2 _ ih =>
        rcases List.mem_cons.mp hv with rfl | hv
        · exact ⟨_, _, rfl⟩
        · exact ih hv
    obtain ⟨n, t, rfl⟩ := this
    exact ⟨n :: ms, IntsAre.cons n t hm⟩
theorem slice_scr {prog : Program} {w : World} {A : Around} {E : Value → Shared → Prop} {s : Shared} {h₀ : Heap} {L l : Addr} {m : Str → Option Value} {news : List (Addr × Obj)} {value slice : Expr} {xs : List Int} {vl vu vk : Value} {lo hi st : Option Int} {ops : List Value} {Q : Value → Shared → Prop}
    (F : Fr h₀ L s.heap m) (N : News h₀ L s.heap news) (S : Scr h₀ l xs) (pl : IsPart vl lo) (pu : IsPart vu hi) (pk : IsPart vk st) (h0 : st ≠ some 0)
    (h : ∀ D ws ms h', Fr h₀ L h' m → News h₀ L h' ((D, listOf (List.toArray ws) 0) :: news) → (∀ p ∈ news, p.1 < D) → IntsAre ws ms → ms.length ≤ 63 → Q (.ref D) { s with heap := h' })
    (hs : subscripted slice false (.ref l) (.ref s.heap.objs.size) = operate ops (getItem (.ref l) (.ref s.heap.objs.size))) (ht : ∀ r, letTemporaryGo value (.ref l) r = pure ()) :
    wpAny (model prog w) A (subscriptTail value slice (.ref l) (.ref s.heap.objs.size)) Q E { s with heap := s.heap.push { cls := .type "slice", data := .fields #[vl, vu, vk] } } := by
  obtain ⟨a, vals, b, c⟩ := S
  have hsz : vals.toArray.size ≤ 63 := by rw [List.size_toArray, c.length]; exact a
  have hsl : vals.toArray.size ≤ sizeLine := Nat.le_trans hsz (by decide)
  have hm : ∀ v ∈ (slicePick vals.toArray lo hi st).toList, v ∈ vals := by
    intro v hv
    unfold slicePick at hv
    obtain ⟨i, _, hi⟩ := List.mem_filterMap.mp hv
    have := Array.mem_of_getElem? hi
    simpa using this
  obtain ⟨ms, hms⟩ := ints_sub c hm
  refine slice_list3 F N (F.lst b) pl pu pk h0 (fun h' F' N' => h _ (slicePick vals.toArray lo hi st).toList ms h' F' ?_ (fun p hp => Nat.lt_succ_of_lt (Heap.lt_size (N p hp).1)) hms ?_) hs ht hsl
  · rw [Array.toArray_toList]; exact N'
  · have q := slicePick_size_le vals.toArray lo hi st
    have e := hms.length
    rw [Array.length_toList] at e
    omega
theorem sum_some {prog : Program} {w : World} {A : Around} {E : Value → Shared → Prop} {s : Shared} {h₀ : Heap} {L l : Addr} {m : Str → Option Value} {news : List (Addr × Obj)} {vs : List Value} {ns : List Int} {Q : Value → Shared → Prop} (hh : A.handled = none) (F : Fr h₀ L s.heap m) (N : News h₀ L s.heap news) (hl : s.heap.IsList l vs.toArray) (hi : IntsAre vs ns)
    (h : ∀ n h' tk t', Fr h₀ L h' m → News h₀ L h' news → Q (.int n t') { s with heap := h', toks := tk }) :
    wpAny (model prog w) A (call (.builtin "sum") [.ref l]) Q E s := sumK hh F N hl hi fun h' tk t' F' N' => h _ h' tk t' F' N'
noncomputable def IsRow (o : Obj) (y : Nat) : Prop := ∃ t0 t1 t2 c, o = listOf [.int ((y % 4 : Nat) : Int) t0, .int ((y / 4 % 4 : Nat) : Int) t1, .int ((y / 16 : Nat) : Int) t2].toArray c
noncomputable def Figs (add : List (Addr × Obj)) (r : Value) (y : Nat → Nat) : Prop := ∃ R n, ∃ rs : List Addr, r = .ref R ∧ rs.length = 9 ∧ (R, listOf (List.toArray (rs.map Value.ref)) n) ∈ add ∧ ∀ i a, rs[i]? = some a → ∃ o, (a, o) ∈ add ∧ IsRow o (y i)
theorem row_of (z : Int) (t0 t1 t2 : Tok) (c : Nat) : IsRow (listOf #[.int ((z.fmod 64).fmod 4) t0, .int (((z.fmod 64).fdiv 4).fmod 4) t1, .int ((z.fmod 64).fdiv 16) t2] c) (z.fmod 64).toNat ∧ (z.fmod 64).toNat < 64 := by
  have h0 : 0 ≤ z.fmod 64 := by rw [Int.fmod_eq_emod_of_nonneg _ (by decide)]; exact Int.emod_nonneg _ (by decide)
  have h1 : z.fmod 64 < 64 := by rw [Int.fmod_eq_emod_of_nonneg _ (by decide)]; exact Int.emod_lt_of_pos _ (by decide)
  generalize z.fmod 64 = x at *
  obtain ⟨y, rfl⟩ := Int.eq_ofNat_of_zero_le h0
  refine ⟨⟨t0, t1, t2, c, ?_⟩, by omega⟩
  have e1 : (y : Int).fmod 4 = ((y % 4 : Nat) : Int) := by rw [Int.fmod_eq_emod_of_nonneg _ (by decide)]; rfl
  have e2 : (y : Int).fdiv 4 = ((y / 4 : Nat) : Int) := by rw [Int.fdiv_eq_ediv_of_nonneg _ (by decide)]; rfl
  have e3 : (y : Int).fdiv 16 = ((y / 16 : Nat) : Int) := by rw [Int.fdiv_eq_ediv_of_nonneg _ (by decide)]; rfl
  have e4 : (((y / 4 : Nat) : Int)).fmod 4 = ((y / 4 % 4 : Nat) : Int) := by rw [Int.fmod_eq_emod_of_nonneg _ (by decide)]; rfl
  rw [e1, e2, e3, e4]
  simp only [Int.toNat_natCast]
end
-- R2
section
section
variable {prog : Program} {w : World} {A : Around} {s : Shared} {env : Env} {h₀ : Heap}

/-- a turn's end: the iterator stands as it stood, the word holds -/
noncomputable def TurnEnd (h₀ : Heap) (L I : Addr) (oI : Obj) (K : (Str → Option Value) → List (Addr × Obj) → Prop) (s₁ s₂ : Shared) : Prop :=
  ∃ h' tk m' led', s₂ = { s₁ with heap := h', toks := tk } ∧ Fr h₀ L h' m' ∧ News h₀ L h' ((I, oI) :: led') ∧ (∀ p ∈ led', p.1 ≠ I) ∧ K m' led'
noncomputable def TurnPost (h₀ : Heap) (L I : Addr) (oI : Obj) (K : (Str → Option Value) → List (Addr × Obj) → Prop) (s₁ : Shared) (Q : Flow → Shared → Prop) (f : Flow) (s₂ : Shared) : Prop :=
  match f with
  | .ret v => Q (.ret v) s₂
  | .brk => Q .next s₂
  | _ => TurnEnd h₀ L I oI K s₁ s₂

/-- a loop by its word, over an iterator that is at hand -/
noncomputable def LoopH (prog : Program) (w : World) (A : Around) (h₀ : Heap) (env : Env) (target : Expr) (body : List Stmt) (Q : Flow → Shared → Prop) (E : Value → Shared → Prop) (it : Value) (s₂ : Shared) : Prop :=
  ∃ (I : Addr) (fp : List Addr) (n : Nat) (P : Nat → Value → Prop) (St : Nat → Heap → Prop) (m : Str → Option Value) (led : List (Addr × Obj)) (S : List (Addr × Obj) → Prop) (K : Nat → (Str → Option Value) → List (Addr × Obj) → Prop),
    it = .ref I ∧ Walks prog w A I fp [I] n P St ∧ env.locals ≠ I ∧ h₀.get? I = none ∧ (∀ i h, St i h → ∃ o, h.get? I = some o) ∧
    (∀ i h h' o nw, St i h → h.get? I = some o → h'.get? I = some o → (∀ b o, h₀.get? b = some o → h'.get? b = some o) → News h₀ env.locals h' nw → S nw → St i h') ∧
    (∀ i (s' : Shared) v (Q' : Unit → Shared → Prop), St i s'.heap → Q' () s' → wpAny (model prog w) A (letOwnedTupleGo target (.ref I) v) Q' E s') ∧
    St 0 s₂.heap ∧ Fr h₀ env.locals s₂.heap m ∧ News h₀ env.locals s₂.heap led ∧ (∀ p ∈ led, p.1 ≠ I) ∧ S led ∧ K 0 m led ∧
    (∀ i v m₁ led₁ h tk oI, i < n → P i v → K i m₁ led₁ → S led₁ → Fr h₀ env.locals h m₁ → News h₀ env.locals h ((I, oI) :: led₁) → (∀ p ∈ led₁, p.1 ≠ I) →
      wpAny (model prog w) A (assign target env v) (fun _ s₃ => wpAny (model prog w) A (execs body env) (TurnPost h₀ env.locals I oI (fun m' led' => S led' ∧ K (i + 1) m' led') { s₂ with heap := h, toks := tk } Q) E s₃) E { s₂ with heap := h, toks := tk }) ∧
    ∀ h' tk m' led', Fr h₀ env.locals h' m' → News h₀ env.locals h' led' → S led' → K n m' led' → Q .next { s₂ with heap := h', toks := tk }

set_option synthInstance.maxSize 100000 in
set_option synthInstance.maxHeartbeats 800000 in
noncomputable def s_for_word (d : (Program × World × Around × Shared) × (Env × Heap × (Value → Shared → Prop) × (Flow → Shared → Prop)) × (Expr × Expr × Pos × (List Stmt)) × (Heap)) : Prop := ∀ (h : wpAny (model (d.1.1) (d.1.2.1)) (d.1.2.2.1) (eval (d.2.2.1.2.1) (d.2.1.1)) (fun xv s₁ => wpAny (model (d.1.1) (d.1.2.1)) (d.1.2.2.1) (pyIter xv) (fun it s₂ => LoopH (d.1.1) (d.1.2.1) (d.1.2.2.1) (d.2.2.2) (d.2.1.1) (d.2.2.1.1) (d.2.2.1.2.2.2) (d.2.1.2.2.2) (d.2.1.2.2.1) it s₂) (d.2.1.2.2.1) s₁) (d.2.1.2.2.1) (d.1.2.2.2)) (hs : ∀ x, foldedSetIterable (d.2.2.1.2.1) (d.2.1.1) x = pure x) (hE : PassesOwn (model (d.1.1) (d.1.2.1)) (d.1.2.2.1) (d.2.1.1) (d.2.1.2.2.1)), wpAny (model (d.1.1) (d.1.2.1)) (d.1.2.2.1) (exec (.For (d.2.2.1.1) (d.2.2.1.2.1) (d.2.2.1.2.2.2) [] (d.2.2.1.2.2.1)) (d.2.1.1)) (d.2.1.2.2.2) (d.2.1.2.2.1) (d.1.2.2.2)
set_option synthInstance.maxSize 100000 in
set_option synthInstance.maxHeartbeats 800000 in
@[irreducible] noncomputable def k_for_word : (Program × World × Around × Shared) × (Env × Heap × (Value → Shared → Prop) × (Flow → Shared → Prop)) × (Expr × Expr × Pos × (List Stmt)) × (Heap) := pick (by haveI := ne_World; haveI := ne_Around; haveI := ne_Shared; exact inferInstance) s_for_word
theorem for_word_c : s_for_word k_for_word := by
  delta s_for_word
  intro h hs hE
  refine wpAny_For (wpAny_mono h (fun xv s₁ h₁ => wpAny_mono h₁ (fun it s₂ h₂ => ?_) fun _ _ e => e) fun _ _ e => e) hs
  refine Mine.by_op fun P9 bk9 => ?_
  obtain ⟨I, fp, n, P, St, m, led, S, K, rfl, W, hLI, hI₀, hIo, hSt, hgo, hst, F, N, off, hS, hK, step, done⟩ := h₂
  refine bk9 ?_; clear bk9 P9
  refine codeAny_forLoop_any
    (fun k s' => ∃ h' tk m' led' i, s' = { s₂ with heap := h', toks := tk } ∧ St i h' ∧ Fr (k_for_word.2.2.2) (k_for_word.2.1.1).locals h' m' ∧ News (k_for_word.2.2.2) (k_for_word.2.1.1).locals h' led' ∧ (∀ p ∈ led', p.1 ≠ I) ∧ S led' ∧ K i m' led' ∧ i ≤ n ∧ k = n + 1 - i) ?_ (n + 1)
    ⟨s₂.heap, s₂.toks, m, led, 0, rfl, hst, F, N, off, hS, hK, Nat.zero_le _, rfl⟩
  intro k s' qz29
  refine Mine.by_op fun P9 bk9 => ?_
  obtain ⟨h', tk, m', led', i, rfl, hst', F', N', off', hS', hK', hi, rfl⟩ := qz29
  refine bk9 ?_; clear bk9 P9
  by_cases hlt : i < n
  · refine W.item i _ _ _ hlt hst' fun v h₁ tk₁ hP hst₁ hk₁ => ?_
    obtain ⟨oI, heI⟩ := hIo _ _ hst₁
    have F₁ : Fr (k_for_word.2.2.2) (k_for_word.2.1.1).locals h₁ m' := LCg.fr_but F' hk₁ hLI hI₀
    have N₁ : News (k_for_word.2.2.2) (k_for_word.2.1.1).locals h₁ led' := LCg.news_but N' hk₁ off'
    have N₂ : News (k_for_word.2.2.2) (k_for_word.2.1.1).locals h₁ ((I, oI) :: led') := fun p hp => by
      rcases List.mem_cons.mp hp with rfl | hp
      · exact ⟨heI, Ne.symm hLI, hI₀⟩
      · exact N₁ p hp
    refine wpAny_passesOwn hE (hgo (i + 1) _ v _ hst₁ ?_)
    refine wpAny_mono (step i v m' led' h₁ tk₁ oI hlt hP hK' hS' F₁ N₂ off') (fun _ s₃ h₃ => wpAny_mono h₃ (fun f s₄ h₄ => ?_) hE) hE
    have fin : TurnEnd (k_for_word.2.2.2) (k_for_word.2.1.1).locals I oI (fun m' led' => S led' ∧ K (i + 1) m' led') { s₂ with heap := h₁, toks := tk₁ } s₄ →
        ∃ m, m < n + 1 - i ∧ ∃ h' tk m' led' i, s₄ = { s₂ with heap := h', toks := tk } ∧ St i h' ∧ Fr (k_for_word.2.2.2) (k_for_word.2.1.1).locals h' m' ∧ News (k_for_word.2.2.2) (k_for_word.2.1.1).locals h' led' ∧ (∀ p ∈ led', p.1 ≠ I) ∧ S led' ∧ K i m' led' ∧ i ≤ n ∧ m = n + 1 - i := by
      intro qz09
      refine Mine.by_op fun P9 bk9 => ?_
      obtain ⟨h₄', tk₄, m₄, led₄, rfl, F₄, N₄, off₄, hS₄, hK₄⟩ := qz09
      refine bk9 ?_; clear bk9 P9
      have N₄' : News (k_for_word.2.2.2) (k_for_word.2.1.1).locals h₄' led₄ := fun p hp => N₄ p (List.mem_cons_of_mem _ hp)
      exact ⟨n + 1 - (i + 1), by omega, h₄', tk₄, m₄, led₄, i + 1, rfl, hSt _ _ _ _ _ hst₁ heI (N₄ (I, oI) List.mem_cons_self).1 F₄.keep N₄' hS₄, F₄, N₄', off₄, hS₄, hK₄, hlt, rfl⟩
    cases f with
    | ret v => exact h₄
    | brk => exact h₄
    | next => exact fin h₄
    | cont => exact fin h₄
  · have hin : i = n := by omega
    subst hin
    refine W.done _ _ _ hst' fun h₁ tk₁ hk₁ => wpAny_execs_nil ?_
    exact done h₁ tk₁ m' led' (LCg.fr_but F' hk₁ hLI hI₀) (LCg.news_but N' hk₁ off') hS' hK'
theorem for_word {E : Value → Shared → Prop} {Q : Flow → Shared → Prop} {target iter : Expr} {pos : Pos} {body : List Stmt} (h₀ : Heap)
    (h : wpAny (model prog w) A (eval iter env) (fun xv s₁ => wpAny (model prog w) A (pyIter xv) (fun it s₂ => LoopH prog w A h₀ env target body Q E it s₂) E s₁) E s)
    (hs : ∀ x, foldedSetIterable iter env x = pure x)
    (hE : PassesOwn (model prog w) A env E) : wpAny (model prog w) A (exec (.For target iter body [] pos) env) Q E s :=
  pick_all k_for_word.eq_1 for_word_c ((prog, w, A, s), (env, h₀, E, Q), (target, iter, pos, body), (h₀)) h hs hE
theorem for_wordF {E : Value → Shared → Prop} {Q : Flow → Shared → Prop} {target iter : Expr} {pos : Pos} {body : List Stmt} {L : Addr} {m : Str → Option Value} (_F : Fr h₀ L s.heap m)
    (h : wpAny (model prog w) A (eval iter env) (fun xv s₁ => wpAny (model prog w) A (pyIter xv) (fun it s₂ => LoopH prog w A h₀ env target body Q E it s₂) E s₁) E s)
    (hs : ∀ x, foldedSetIterable iter env x = pure x)
    (hE : PassesOwn (model prog w) A env E) :
    wpAny (model prog w) A (exec (.For target iter body [] pos) env) Q E s := for_word h₀ h hs hE

/- over a list of the ledger -/
set_option synthInstance.maxSize 100000 in
set_option synthInstance.maxHeartbeats 800000 in
noncomputable def s_iter_listW (d : (Program × World × Around × Shared) × (Env × Heap × (Value → Shared → Prop) × (Flow → Shared → Prop)) × ((List Stmt) × Addr × (List Value) × Nat) × ((Str → Option Value) × (List (Addr × Obj)))) : Prop := ∀ (target : Expr) (K : Nat → (Str → Option Value) → List (Addr × Obj) → Prop) (hh : (d.1.2.2.1).handled = none) (F : Fr (d.2.1.2.1) (d.2.1.1).locals (d.1.2.2.2).heap (d.2.2.2.1)) (N : News (d.2.1.2.1) (d.2.1.1).locals (d.1.2.2.2).heap (d.2.2.2.2)) (hl : ((d.2.2.1.2.1), listOf (d.2.2.1.2.2.1).toArray (d.2.2.1.2.2.2)) ∈ (d.2.2.2.2)) (hK : K 0 (d.2.2.2.1) (d.2.2.2.2)) (step : ∀ i v m₁ led₁ h tk I oI, i < (d.2.2.1.2.2.1).length → (d.2.2.1.2.2.1)[i]? = some v → K i m₁ led₁ → ((d.2.2.1.2.1), listOf (d.2.2.1.2.2.1).toArray (d.2.2.1.2.2.2)) ∈ led₁ → Fr (d.2.1.2.1) (d.2.1.1).locals h m₁ → News (d.2.1.2.1) (d.2.1.1).locals h ((I, oI) :: led₁) → (∀ p ∈ led₁, p.1 ≠ I) →
      wpAny (model (d.1.1) (d.1.2.1)) (d.1.2.2.1) (assign target (d.2.1.1) v) (fun _ s₃ => wpAny (model (d.1.1) (d.1.2.1)) (d.1.2.2.1) (execs (d.2.2.1.1) (d.2.1.1)) (TurnPost (d.2.1.2.1) (d.2.1.1).locals I oI (fun m' led' => ((d.2.2.1.2.1), listOf (d.2.2.1.2.2.1).toArray (d.2.2.1.2.2.2)) ∈ led' ∧ K (i + 1) m' led') { (d.1.2.2.2) with heap := h, toks := tk } (d.2.1.2.2.2)) (d.2.1.2.2.1) s₃) (d.2.1.2.2.1) { (d.1.2.2.2) with heap := h, toks := tk }) (done : ∀ h' tk m' led', Fr (d.2.1.2.1) (d.2.1.1).locals h' m' → News (d.2.1.2.1) (d.2.1.1).locals h' led' → ((d.2.2.1.2.1), listOf (d.2.2.1.2.2.1).toArray (d.2.2.1.2.2.2)) ∈ led' → K (d.2.2.1.2.2.1).length m' led' → (d.2.1.2.2.2) .next { (d.1.2.2.2) with heap := h', toks := tk }), wpAny (model (d.1.1) (d.1.2.1)) (d.1.2.2.1) (pyIter (.ref (d.2.2.1.2.1))) (fun it s₂ => LoopH (d.1.1) (d.1.2.1) (d.1.2.2.1) (d.2.1.2.1) (d.2.1.1) target (d.2.2.1.1) (d.2.1.2.2.2) (d.2.1.2.2.1) it s₂) (d.2.1.2.2.1) (d.1.2.2.2)
set_option synthInstance.maxSize 100000 in
set_option synthInstance.maxHeartbeats 800000 in
@[irreducible] noncomputable def k_iter_listW : (Program × World × Around × Shared) × (Env × Heap × (Value → Shared → Prop) × (Flow → Shared → Prop)) × ((List Stmt) × Addr × (List Value) × Nat) × ((Str → Option Value) × (List (Addr × Obj))) := pick (by haveI := ne_World; haveI := ne_Around; haveI := ne_Shared; exact inferInstance) s_iter_listW
theorem iter_listW_c : s_iter_listW k_iter_listW := by
  delta s_iter_listW
  intro target K hh F N hl hK step done
  have hls : (k_iter_listW.1.2.2.2).heap.IsList (k_iter_listW.2.2.1.2.1) (k_iter_listW.2.2.1.2.2.1).toArray := ⟨_, (N _ hl).1, rfl, (k_iter_listW.2.2.1.2.2.2), rfl⟩
  have hlt : (k_iter_listW.2.2.1.2.1) < (k_iter_listW.1.2.2.2).heap.objs.size := Heap.lt_size (N _ hl).1
  refine wpAny_pyIter_list hls ?_
  have W := Walks.list (prog := (k_iter_listW.1.1)) (w := (k_iter_listW.1.2.1)) hh (k_iter_listW.1.2.2.2).heap.objs.size (k_iter_listW.2.2.1.2.1) (Nat.ne_of_lt hlt) (k_iter_listW.2.2.1.2.2.1).toArray
  rw [show (k_iter_listW.2.2.1.2.2.1).toArray.size = (k_iter_listW.2.2.1.2.2.1).length from List.size_toArray ..] at W
  refine ⟨(k_iter_listW.1.2.2.2).heap.objs.size, _, (k_iter_listW.2.2.1.2.2.1).length, _, _, (k_iter_listW.2.2.2.1), (k_iter_listW.2.2.2.2), fun led' => ((k_iter_listW.2.2.1.2.1), listOf (k_iter_listW.2.2.1.2.2.1).toArray (k_iter_listW.2.2.1.2.2.2)) ∈ led', K, rfl, W, Nat.ne_of_lt F.ns.lt, next_is_new F, (fun i h st => by obtain ⟨o, e, _⟩ := st.1; exact ⟨o, e⟩), ?_,
    (fun i s' v Q' st hQ' => letGo_listiter st.1 hQ'), ⟨⟨_, Heap.get?_push_size _ rfl, rfl, rfl⟩, hls.push _⟩, F.push _, (fun p hp => ⟨Heap.get?_push_of_some _ (N p hp).1, (N p hp).2⟩), (fun p hp => Nat.ne_of_lt (Heap.lt_size (N p hp).1)), hl, hK, ?_, ?_⟩
  · intro i h h' o nw st e e' _ N' hm
    exact ⟨by obtain ⟨o', q, r⟩ := st.1; rw [e] at q; cases q; exact ⟨o, e', r⟩, ⟨_, (N' _ hm).1, rfl, (k_iter_listW.2.2.1.2.2.2), rfl⟩⟩
  · intro i v m₁ led₁ h tk oI hi hP hK₁ hS₁ F₁ N₁ off₁
    exact step i v m₁ led₁ h tk _ oI hi (by simpa using hP) hK₁ hS₁ F₁ N₁ off₁
  · intro h' tk m' led' F' N' hS' hK'
    exact done h' tk m' led' F' N' hS' hK'
theorem iter_listW {E : Value → Shared → Prop} {Q : Flow → Shared → Prop} {target : Expr} {body : List Stmt} {l : Addr} {vs : List Value} {c : Nat} {m : Str → Option Value} {led : List (Addr × Obj)} (K : Nat → (Str → Option Value) → List (Addr × Obj) → Prop)
    (hh : A.handled = none) (F : Fr h₀ env.locals s.heap m) (N : News h₀ env.locals s.heap led) (hl : (l, listOf vs.toArray c) ∈ led) (hK : K 0 m led)
    (step : ∀ i v m₁ led₁ h tk I oI, i < vs.length → vs[i]? = some v → K i m₁ led₁ → (l, listOf vs.toArray c) ∈ led₁ → Fr h₀ env.locals h m₁ → News h₀ env.locals h ((I, oI) :: led₁) → (∀ p ∈ led₁, p.1 ≠ I) →
      wpAny (model prog w) A (assign target env v) (fun _ s₃ => wpAny (model prog w) A (execs body env) (TurnPost h₀ env.locals I oI (fun m' led' => (l, listOf vs.toArray c) ∈ led' ∧ K (i + 1) m' led') { s with heap := h, toks := tk } Q) E s₃) E { s with heap := h, toks := tk })
    (done : ∀ h' tk m' led', Fr h₀ env.locals h' m' → News h₀ env.locals h' led' → (l, listOf vs.toArray c) ∈ led' → K vs.length m' led' → Q .next { s with heap := h', toks := tk }) : wpAny (model prog w) A (pyIter (.ref l)) (fun it s₂ => LoopH prog w A h₀ env target body Q E it s₂) E s :=
  pick_all k_iter_listW.eq_1 iter_listW_c ((prog, w, A, s), (env, h₀, E, Q), (body, l, vs, c), (m, led)) target K hh F N hl hK step done
theorem TurnEnd.intro {L I : Addr} {oI : Obj} {K : (Str → Option Value) → List (Addr × Obj) → Prop} {s₁ : Shared} {h' : Heap} {tk : Nat} {m' : Str → Option Value} {all : List (Addr × Obj)} (led' : List (Addr × Obj)) (F : Fr h₀ L h' m') (N : News h₀ L h' all)
    (sub : ∀ p ∈ (I, oI) :: led', p ∈ all) (off : ∀ p ∈ led', p.1 ≠ I) (k : K m' led') : TurnEnd h₀ L I oI K s₁ { s₁ with heap := h', toks := tk } := ⟨h', tk, m', led', rfl, F, fun p hp => N p (sub p hp), off, k⟩
/-- the same, the ledger left as it is -/
theorem iter_listC {E : Value → Shared → Prop} {Q : Flow → Shared → Prop} {target : Expr} {body : List Stmt} {l : Addr} {vs : List Value} {c : Nat} {m : Str → Option Value} {led : List (Addr × Obj)} (K : Nat → (Str → Option Value) → Prop)
    (F : Fr h₀ env.locals s.heap m) (N : News h₀ env.locals s.heap led) (hl : (l, listOf vs.toArray c) ∈ led) (hh : A.handled = none) (hK : K 0 m)
    (step : ∀ i v m₁ h tk I oI, i < vs.length → vs[i]? = some v → K i m₁ → Fr h₀ env.locals h m₁ → News h₀ env.locals h ((I, oI) :: led) → (∀ p ∈ led, p.1 ≠ I) →
      wpAny (model prog w) A (assign target env v) (fun _ s₃ => wpAny (model prog w) A (execs body env) (TurnPost h₀ env.locals I oI (fun m' led' => led' = led ∧ K (i + 1) m') { s with heap := h, toks := tk } Q) E s₃) E { s with heap := h, toks := tk })
    (done : ∀ h' tk m', Fr h₀ env.locals h' m' → News h₀ env.locals h' led → K vs.length m' → Q .next { s with heap := h', toks := tk }) :
    wpAny (model prog w) A (pyIter (.ref l)) (fun it s₂ => LoopH prog w A h₀ env target body Q E it s₂) E s := by
  refine iter_listW (fun i m' led' => led' = led ∧ K i m') hh F N hl ⟨rfl, hK⟩ ?_ ?_
  · rintro i v m₁ led₁ h tk I oI hi hv ⟨rfl, hK₁⟩ hl₁ F₁ N₁ off
    refine wpAny_mono (step i v m₁ h tk I oI hi hv hK₁ F₁ N₁ off) (fun _ s₃ h₃ => wpAny_mono h₃ (fun f s₄ h₄ => ?_) fun _ _ e => e) fun _ _ e => e
    have fin : TurnEnd h₀ env.locals I oI (fun m' led' => led' = led₁ ∧ K (i + 1) m') { s with heap := h, toks := tk } s₄ → TurnEnd h₀ env.locals I oI (fun m' led' => (l, listOf vs.toArray c) ∈ led' ∧ led' = led₁ ∧ K (i + 1) m') { s with heap := h, toks := tk } s₄ :=
      fun ⟨a, b, c, d, e, f, g, o, q, k⟩ => ⟨a, b, c, d, e, f, g, o, q ▸ hl₁, q, k⟩
    cases f with
    | ret v => exact h₄
    | brk => exact h₄
    | next => exact fin h₄
    | cont => exact fin h₄
  · rintro h' tk m' led' F' N' hl' ⟨rfl, hK'⟩
    exact done h' tk m' F' N' hK'

/- over a range by ones -/
set_option synthInstance.maxSize 100000 in
set_option synthInstance.maxHeartbeats 800000 in
noncomputable def s_iter_rangeW (d : (Program × World × Around × Shared) × (Env × Heap × (Value → Shared → Prop) × (Flow → Shared → Prop)) × ((List Stmt) × Addr × Tok × Nat) × ((Str → Option Value) × (List (Addr × Obj)))) : Prop := ∀ (target : Expr) (a : Int) (b : Int) (t : Tok) (v : Tok) (K : Nat → (Str → Option Value) → List (Addr × Obj) → Prop) (hh : (d.1.2.2.1).handled = none) (hr : IsRange (d.1.2.2.2).heap (d.2.2.1.2.1) a b 1 t (d.2.2.1.2.2.1) v) (hsm : Builtin.Range.small a b 1 = true) (hn : Builtin.Range.rangeSize a b 1 = (((d.2.2.1.2.2.2) : Nat) : Int)) (F : Fr (d.2.1.2.1) (d.2.1.1).locals (d.1.2.2.2).heap (d.2.2.2.1)) (N : News (d.2.1.2.1) (d.2.1.1).locals (d.1.2.2.2).heap (d.2.2.2.2)) (hK : K 0 (d.2.2.2.1) (d.2.2.2.2)) (htg : ∀ xs x p, target ≠ .Tuple xs x p) (htl : ∀ xs p, target ≠ .List xs p) (step : ∀ i t m₁ led₁ h tk I oI, i < (d.2.2.1.2.2.2) → K i m₁ led₁ → Fr (d.2.1.2.1) (d.2.1.1).locals h m₁ → News (d.2.1.2.1) (d.2.1.1).locals h ((I, oI) :: led₁) → (∀ p ∈ led₁, p.1 ≠ I) →
      wpAny (model (d.1.1) (d.1.2.1)) (d.1.2.2.1) (assign target (d.2.1.1) (.int (a + (i : Int)) t)) (fun _ s₃ => wpAny (model (d.1.1) (d.1.2.1)) (d.1.2.2.1) (execs (d.2.2.1.1) (d.2.1.1)) (TurnPost (d.2.1.2.1) (d.2.1.1).locals I oI (fun m' led' => K (i + 1) m' led') { (d.1.2.2.2) with heap := h, toks := tk } (d.2.1.2.2.2)) (d.2.1.2.2.1) s₃) (d.2.1.2.2.1) { (d.1.2.2.2) with heap := h, toks := tk }) (done : ∀ h' tk m' led', Fr (d.2.1.2.1) (d.2.1.1).locals h' m' → News (d.2.1.2.1) (d.2.1.1).locals h' led' → K (d.2.2.1.2.2.2) m' led' → (d.2.1.2.2.2) .next { (d.1.2.2.2) with heap := h', toks := tk }), wpAny (model (d.1.1) (d.1.2.1)) (d.1.2.2.1) (pyIter (.ref (d.2.2.1.2.1))) (fun it s₂ => LoopH (d.1.1) (d.1.2.1) (d.1.2.2.1) (d.2.1.2.1) (d.2.1.1) target (d.2.2.1.1) (d.2.1.2.2.2) (d.2.1.2.2.1) it s₂) (d.2.1.2.2.1) (d.1.2.2.2)
set_option synthInstance.maxSize 100000 in
set_option synthInstance.maxHeartbeats 800000 in
@[irreducible] noncomputable def k_iter_rangeW : (Program × World × Around × Shared) × (Env × Heap × (Value → Shared → Prop) × (Flow → Shared → Prop)) × ((List Stmt) × Addr × Tok × Nat) × ((Str → Option Value) × (List (Addr × Obj))) := pick (by haveI := ne_World; haveI := ne_Around; haveI := ne_Shared; exact inferInstance) s_iter_rangeW
theorem iter_rangeW_c : s_iter_rangeW k_iter_rangeW := by
  delta s_iter_rangeW
  intro target a b t v K hh hr hsm hn F N hK htg htl step done
  refine wpAny_pyIter_range hr hsm ?_
  refine ⟨(k_iter_rangeW.1.2.2.2).heap.objs.size, _, (k_iter_rangeW.2.2.1.2.2.2), _, _, (k_iter_rangeW.2.2.2.1), (k_iter_rangeW.2.2.2.2), fun _ => True, K, rfl, LCg.range_walks hh a (k_iter_rangeW.2.2.1.2.2.2), Nat.ne_of_lt F.ns.lt, next_is_new F, (fun i h st => ⟨_, st⟩), LCg.range_st, ?_, (by show IsRangeIter _ _ _ _ _; rw [hn]; simpa using Heap.get?_push_size _ rfl), F.push _,
    (fun p hp => ⟨Heap.get?_push_of_some _ (N p hp).1, (N p hp).2⟩), (fun p hp => Nat.ne_of_lt (Heap.lt_size (N p hp).1)), trivial, hK, ?_, ?_⟩
  · intro i s' v Q' _ hQ'
    unfold letOwnedTupleGo
    split
    · exact absurd rfl (htg _ _ _)
    · exact absurd rfl (htl _ _)
    · exact wpAny_pure hQ'
  · rintro i v m₁ led₁ h tk oI hi ⟨t, rfl⟩ hK₁ _ F₁ N₁ off₁
    refine wpAny_mono (step i t m₁ led₁ h tk _ oI hi hK₁ F₁ N₁ off₁) (fun _ s₃ h₃ => wpAny_mono h₃ (fun f s₄ h₄ => ?_) fun _ _ e => e) fun _ _ e => e
    have fin : TurnEnd (k_iter_rangeW.2.1.2.1) (k_iter_rangeW.2.1.1).locals (k_iter_rangeW.1.2.2.2).heap.objs.size oI (fun m' led' => K (i + 1) m' led') { (k_iter_rangeW.1.2.2.2) with heap := h, toks := tk } s₄ → TurnEnd (k_iter_rangeW.2.1.2.1) (k_iter_rangeW.2.1.1).locals (k_iter_rangeW.1.2.2.2).heap.objs.size oI (fun m' led' => True ∧ K (i + 1) m' led') { (k_iter_rangeW.1.2.2.2) with heap := h, toks := tk } s₄ :=
      fun ⟨a, b, c, d, e, f, g, o, k⟩ => ⟨a, b, c, d, e, f, g, o, trivial, k⟩
    cases f with
    | ret v => exact h₄
    | brk => exact h₄
    | next => exact fin h₄
    | cont => exact fin h₄
  · intro h' tk m' led' F' N' _ hK'
    exact done h' tk m' led' F' N' hK'
theorem iter_rangeW {E : Value → Shared → Prop} {Q : Flow → Shared → Prop} {target : Expr} {body : List Stmt} {r : Addr} {a b : Int} {t u v : Tok} {n : Nat} {m : Str → Option Value} {led : List (Addr × Obj)} (K : Nat → (Str → Option Value) → List (Addr × Obj) → Prop)
    (hh : A.handled = none) (hr : IsRange s.heap r a b 1 t u v) (hsm : Builtin.Range.small a b 1 = true) (hn : Builtin.Range.rangeSize a b 1 = ((n : Nat) : Int)) (F : Fr h₀ env.locals s.heap m) (N : News h₀ env.locals s.heap led) (hK : K 0 m led)
    (htg : ∀ xs x p, target ≠ .Tuple xs x p) (htl : ∀ xs p, target ≠ .List xs p)
    (step : ∀ i t m₁ led₁ h tk I oI, i < n → K i m₁ led₁ → Fr h₀ env.locals h m₁ → News h₀ env.locals h ((I, oI) :: led₁) → (∀ p ∈ led₁, p.1 ≠ I) →
      wpAny (model prog w) A (assign target env (.int (a + (i : Int)) t)) (fun _ s₃ => wpAny (model prog w) A (execs body env) (TurnPost h₀ env.locals I oI (fun m' led' => K (i + 1) m' led') { s with heap := h, toks := tk } Q) E s₃) E { s with heap := h, toks := tk })
    (done : ∀ h' tk m' led', Fr h₀ env.locals h' m' → News h₀ env.locals h' led' → K n m' led' → Q .next { s with heap := h', toks := tk }) : wpAny (model prog w) A (pyIter (.ref r)) (fun it s₂ => LoopH prog w A h₀ env target body Q E it s₂) E s :=
  pick_all k_iter_rangeW.eq_1 iter_rangeW_c ((prog, w, A, s), (env, h₀, E, Q), (body, r, u, n), (m, led)) target a b t v K hh hr hsm hn F N hK htg htl step done
/-- what names are known to hold may be written out -/
theorem Fr.alike {L : Addr} {h : Heap} {m m' : Str → Option Value} (F : Fr h₀ L h m) (e : ∀ y, m' y = m y) : Fr h₀ L h m' := (funext e : m' = m) ▸ F
theorem know_ite {m m' : Str → Option Value} {x : Str} {v : Value} (hx : m x = some v) (e : ∀ y, m' y = m y) : ∀ y, (if y = x then some v else m' y) = m y := fun y => by
  by_cases h : y = x
  · subst h; simp [hx]
  · simp [h, e]
theorem Fr.know {L : Addr} {h : Heap} {m : Str → Option Value} {x : Str} {v : Value} (F : Fr h₀ L h m) (hx : m x = some v) : Fr h₀ L h (fun y => if y = x then some v else m y) := Mine.Fr.alike F (know_ite hx fun _ => rfl)
theorem Fr.know2 {L : Addr} {h : Heap} {m : Str → Option Value} {x1 x2 : Str} {v1 v2 : Value} (F : Fr h₀ L h m) (h1 : m x1 = some v1) (h2 : m x2 = some v2) : Fr h₀ L h (fun y => if y = x1 then some v1 else if y = x2 then some v2 else m y) := Mine.Fr.alike F (know_ite h1 (know_ite h2 fun _ => rfl))
theorem Fr.know3 {L : Addr} {h : Heap} {m : Str → Option Value} {x1 x2 x3 : Str} {v1 v2 v3 : Value} (F : Fr h₀ L h m) (h1 : m x1 = some v1) (h2 : m x2 = some v2) (h3 : m x3 = some v3) : Fr h₀ L h (fun y => if y = x1 then some v1 else if y = x2 then some v2 else if y = x3 then some v3 else m y) := Mine.Fr.alike F (know_ite h1 (know_ite h2 (know_ite h3 fun _ => rfl)))
theorem Fr.know4 {L : Addr} {h : Heap} {m : Str → Option Value} {x1 x2 x3 x4 : Str} {v1 v2 v3 v4 : Value} (F : Fr h₀ L h m) (h1 : m x1 = some v1) (h2 : m x2 = some v2) (h3 : m x3 = some v3) (h4 : m x4 = some v4) : Fr h₀ L h (fun y => if y = x1 then some v1 else if y = x2 then some v2 else if y = x3 then some v3 else if y = x4 then some v4 else m y) := Mine.Fr.alike F (know_ite h1 (know_ite h2 (know_ite h3 (know_ite h4 fun _ => rfl))))
end
end
-- R3
section
section
variable {prog : Program} {w : World} {A : Around} {s : Shared} {env : Env} {h₀ : Heap}
/-- a turn's end where the loop's own objects stand in an unwritten tail -/
noncomputable def TurnOwn (h₀ : Heap) (L I : Addr) (own : List (Addr × Obj)) (K : (Str → Option Value) → List (Addr × Obj) → Prop) (s₁ : Shared) (f : Flow) (s₂ : Shared) : Prop :=
  match f with
  | .next => ∃ h' tk m' led', s₂ = { s₁ with heap := h', toks := tk } ∧ Fr h₀ L h' m' ∧ News h₀ L h' (led' ++ own) ∧ (∀ p ∈ led', p.1 ≠ I) ∧ K m' led'
  | _ => False
theorem TurnOwn.intro {L I : Addr} {own : List (Addr × Obj)} {K : (Str → Option Value) → List (Addr × Obj) → Prop} {s₁ : Shared} {h' : Heap} {tk : Nat} {m' : Str → Option Value} {all : List (Addr × Obj)} (led' : List (Addr × Obj)) (F : Fr h₀ L h' m') (N : News h₀ L h' all)
    (sub : ∀ p ∈ led' ++ own, p ∈ all) (off : ∀ p ∈ led', p.1 ≠ I) (k : K m' led') : TurnOwn h₀ L I own K s₁ .next { s₁ with heap := h', toks := tk } := ⟨h', tk, m', led', rfl, F, fun p hp => N p (sub p hp), off, k⟩
theorem iter_itemsW {K : Type} [DecidableEq K] {knd : KeyKind prog w K} {E : Value → Shared → Prop} {Q : Flow → Shared → Prop} {xk xv : Str} {body : List Stmt} {d vw : Addr} {od : Obj} {kvs : List (K × Value)} {m : Str → Option Value} {led : List (Addr × Obj)}
    (J : Nat → (Str → Option Value) → List (Addr × Obj) → Prop) (F : Fr h₀ env.locals s.heap m) (N : News h₀ env.locals s.heap led) (hvw : (vw, ({ cls := .type "dict_items", data := .fields #[.ref d] } : Obj)) ∈ led) (hd : (d, od) ∈ led) (hdo : od.IsDictOf knd kvs)
    (hh : A.handled = none) (hxk : env.kindOf xk = some .local) (hxv : env.kindOf xv = some .local)
    (hp : (env.scope.kind == .class || (env.scope.kind == .module && env.locals != env.globals)) = false) (hK : J 0 m led)
    (step : ∀ i k v key m₁ led₁ (s₁ : Shared) I own, kvs[i]? = some (k, v) → knd.is k key = true → J i m₁ led₁ → (d, od) ∈ led₁ → Fr h₀ env.locals s₁.heap (fun y => if y = xv then some v else if y = xk then some key else m₁ y) → News h₀ env.locals s₁.heap (led₁ ++ own) → (∀ p ∈ led₁, p.1 ≠ I) → (∀ D, D ≠ I → D ≠ d → ∀ p ∈ own, p.1 ≠ D) →
      wpAny (model prog w) A (execs body env) (TurnOwn h₀ env.locals I own (fun m' led' => (d, od) ∈ led' ∧ J (i + 1) m' led') s₁) E s₁)
    (done : ∀ h' tk m' led', Fr h₀ env.locals h' m' → News h₀ env.locals h' led' → (d, od) ∈ led' → J kvs.length m' led' → Q .next { s with heap := h', toks := tk })
    (hE : PassesOwn (model prog w) A env E) :
    wpAny (model prog w) A (pyIter (.ref vw)) (fun it s₂ => PairLoopAt prog w A h₀ env xk xv body Q E it s₂) E s := by
  have hdof : s.heap.DictOf knd d kvs := Heap.dictOf_iff.mpr ⟨od, (N _ hd).1, hdo⟩
  obtain ⟨ep, hat⟩ := hdof.dictAt
  have hvw' : ∃ ov, s.heap.get? vw = some ov ∧ ov.cls = .type "dict_items" ∧ ov.data = .fields #[.ref d] := ⟨_, (N _ hvw).1, rfl, rfl⟩
  refine wpAny_pyIter_items (knd := knd) (d := d) (kvs := kvs) (ep := ep) hvw' hat ?_
  intro pk pv pt x1
  have hne : d ≠ s.heap.objs.size := Nat.ne_of_lt hat.lt_size
  refine codeAny_forLoop_items_frU (knd := knd) (h₀ := h₀) (news := led) hh hxk hxv hp (Nat.ne_of_gt F.ns.lt) (N _ hd).2.1 hne (next_is_new F)
    (fun p hp hm => Nat.ne_of_lt (Heap.lt_size (N p hp).1) (List.mem_singleton.mp hm)) (Heap.get?_push_size _ rfl) (hat.push _) (F.push _) (fun p hp => ⟨Heap.get?_push_of_some _ (N p hp).1, (N p hp).2⟩)
    (fun i m' led' => (d, od) ∈ led' ∧ J i m' led') ⟨hd, hK⟩ ?_ ?_
  · rintro i k v key m₁ led₁ s₁ own hx hkey ⟨hd₁, hJ⟩ hoff hown hat₁ F₁ N₁
    have N₂ : News h₀ env.locals s₁.heap (led₁ ++ own) := fun p hp => N₁ p ((List.mem_append.mp hp).elim (fun h => List.mem_append.mpr (.inr h)) fun h => List.mem_append.mpr (.inl h))
    have hoff' : ∀ p ∈ led₁, p.1 ≠ s.heap.objs.size := fun p hp e => hoff p hp (List.mem_singleton.mpr e)
    refine wpAny_passesOwn hE (wpAny_mono (step i k v key m₁ led₁ s₁ s.heap.objs.size own hx hkey hJ hd₁ F₁ N₂ hoff' (fun D h1 h2 p hp e => ?_)) (fun f s₂ h₂ => ?_) fun _ _ e => e)
    · rcases List.mem_cons.mp (hown p hp) with q | q
      · exact h1 (e ▸ q)
      · exact h2 (e ▸ List.mem_singleton.mp q)
    · cases f with
      | next =>
        refine Mine.by_op fun P9 bk9 => ?_
        obtain ⟨h', tk, m', led', rfl, F', N', off', hd', hJ'⟩ := h₂
        refine bk9 ?_; clear bk9 P9
        exact LoopStepU.intro F' (fun p hp => N' p ((List.mem_append.mp hp).elim (fun h => List.mem_append.mpr (.inr h)) fun h => List.mem_append.mpr (.inl h))) (fun p hp hm => off' p hp (List.mem_singleton.mp hm)) ⟨hd', hJ'⟩
      | _ => exact h₂.elim
  · rintro h' tk m' led' F' N' hoff ⟨hd', hJ⟩
    exact done h' tk m' led' F' N' hd' hJ
theorem For_pairF {E : Value → Shared → Prop} {Q : Flow → Shared → Prop} {xk xv : Str} {pk pv pt pos : Pos} {x1 : Nat} {iter : Expr} {body : List Stmt} {L : Addr} {m : Str → Option Value} (_F : Fr h₀ L s.heap m)
    (h : wpAny (model prog w) A (eval iter env) (fun xvl s₁ => wpAny (model prog w) A (pyIter xvl) (fun it s₂ => PairLoopAt prog w A h₀ env xk xv body Q E it s₂) E s₁) E s)
    (hs : ∀ x, foldedSetIterable iter env x = pure x) :
    wpAny (model prog w) A (exec (.For (.Tuple [.Name xk pk, .Name xv pv] x1 pt) iter body [] pos) env) Q E s := For_pair_inv h₀ h hs
theorem allLt_mem {d : Addr} : ∀ {l : List (Addr × Obj)}, AllLt d l → ∀ p ∈ l, p.1 < d
  | [], _, _, h => nomatch h
  | _ :: _, x, p, h => by
    rcases List.mem_cons.mp h with rfl | h
    · exact x.1
    · exact allLt_mem x.2 p h
theorem allLt_ne {d : Addr} {l : List (Addr × Obj)} (h : AllLt d l) : ∀ p ∈ l, p.1 ≠ d := fun p hp => Nat.ne_of_lt (allLt_mem h p hp)
end
end
-- R4
section
section
variable {prog : Program} {w : World} {A : Around} {s : Shared} {env : Env} {h₀ : Heap}
/-- a loop by its word, over an iterator that is at hand -/
noncomputable def LoopT (prog : Program) (w : World) (A : Around) (h₀ : Heap) (env : Env) (target : Expr) (body : List Stmt) (Q : Flow → Shared → Prop) (E : Value → Shared → Prop) (it : Value) (s₂ : Shared) : Prop :=
  ∃ (I : Addr) (fp : List Addr) (n : Nat) (P : Nat → Value → Prop) (St : Nat → Heap → Prop) (m : Str → Option Value) (led : List (Addr × Obj)) (S : List (Addr × Obj) → Prop) (K : Nat → (Str → Option Value) → List (Addr × Obj) → Prop),
    it = .ref I ∧ Walks prog w A I fp [I] n P St ∧ env.locals ≠ I ∧ h₀.get? I = none ∧ (∀ i h, St i h → ∃ o, h.get? I = some o) ∧
    (∀ i h h' o nw, St i h → h.get? I = some o → h'.get? I = some o → (∀ b o, h₀.get? b = some o → h'.get? b = some o) → News h₀ env.locals h' nw → S nw → St i h') ∧
    (∀ i (s' : Shared) v (Q' : Unit → Shared → Prop), St i s'.heap → Q' () s' → wpAny (model prog w) A (letOwnedTupleGo target (.ref I) v) Q' E s') ∧
    St 0 s₂.heap ∧ Fr h₀ env.locals s₂.heap m ∧ News h₀ env.locals s₂.heap led ∧ (∀ p ∈ led, p.1 ≠ I) ∧ S led ∧ K 0 m led ∧
    (∀ i v m₁ led₁ h tk oI, s₂.toks ≤ tk → i < n → P i v → K i m₁ led₁ → S led₁ → Fr h₀ env.locals h m₁ → News h₀ env.locals h ((I, oI) :: led₁) → (∀ p ∈ led₁, p.1 ≠ I) →
      wpAny (model prog w) A (assign target env v) (fun _ s₃ => wpAny (model prog w) A (execs body env) (TurnPost h₀ env.locals I oI (fun m' led' => S led' ∧ K (i + 1) m' led') { s₂ with heap := h, toks := tk } Q) E s₃) E { s₂ with heap := h, toks := tk }) ∧
    ∀ h' tk m' led', Fr h₀ env.locals h' m' → News h₀ env.locals h' led' → S led' → K n m' led' → Q .next { s₂ with heap := h', toks := tk }

set_option synthInstance.maxSize 100000 in
set_option synthInstance.maxHeartbeats 800000 in
noncomputable def s_for_wordT (d : (Program × World × Around × Shared) × (Env × Heap × (Value → Shared → Prop) × (Flow → Shared → Prop)) × (Expr × Expr × Pos × (List Stmt)) × (Heap)) : Prop := ∀ (h : wpAny (model (d.1.1) (d.1.2.1)) (d.1.2.2.1) (eval (d.2.2.1.2.1) (d.2.1.1)) (fun xv s₁ => wpAny (model (d.1.1) (d.1.2.1)) (d.1.2.2.1) (pyIter xv) (fun it s₂ => LoopT (d.1.1) (d.1.2.1) (d.1.2.2.1) (d.2.2.2) (d.2.1.1) (d.2.2.1.1) (d.2.2.1.2.2.2) (d.2.1.2.2.2) (d.2.1.2.2.1) it s₂) (d.2.1.2.2.1) s₁) (d.2.1.2.2.1) (d.1.2.2.2)) (hs : ∀ x, foldedSetIterable (d.2.2.1.2.1) (d.2.1.1) x = pure x) (hE : PassesOwn (model (d.1.1) (d.1.2.1)) (d.1.2.2.1) (d.2.1.1) (d.2.1.2.2.1)), wpAny (model (d.1.1) (d.1.2.1)) (d.1.2.2.1) (exec (.For (d.2.2.1.1) (d.2.2.1.2.1) (d.2.2.1.2.2.2) [] (d.2.2.1.2.2.1)) (d.2.1.1)) (d.2.1.2.2.2) (d.2.1.2.2.1) (d.1.2.2.2)
set_option synthInstance.maxSize 100000 in
set_option synthInstance.maxHeartbeats 800000 in
@[irreducible] noncomputable def k_for_wordT : (Program × World × Around × Shared) × (Env × Heap × (Value → Shared → Prop) × (Flow → Shared → Prop)) × (Expr × Expr × Pos × (List Stmt)) × (Heap) := pick (by haveI := ne_World; haveI := ne_Around; haveI := ne_Shared; exact inferInstance) s_for_wordT
theorem for_wordT_c : s_for_wordT k_for_wordT := by
  delta s_for_wordT
  intro h hs hE
  refine wpAny_For (wpAny_mono h (fun xv s₁ h₁ => wpAny_mono h₁ (fun it s₂ h₂ => ?_) fun _ _ e => e) fun _ _ e => e) hs
  refine Mine.by_op fun P9 bk9 => ?_
  obtain ⟨I, fp, n, P, St, m, led, S, K, rfl, W, hLI, hI₀, hIo, hSt, hgo, hst, F, N, off, hS, hK, step, done⟩ := h₂
  refine bk9 ?_; clear bk9 P9
  refine codeAny_forLoop_any
    (fun k s' => ∃ h' tk m' led' i, s' = { s₂ with heap := h', toks := tk } ∧ s₂.toks ≤ tk ∧ St i h' ∧ Fr (k_for_wordT.2.2.2) (k_for_wordT.2.1.1).locals h' m' ∧ News (k_for_wordT.2.2.2) (k_for_wordT.2.1.1).locals h' led' ∧ (∀ p ∈ led', p.1 ≠ I) ∧ S led' ∧ K i m' led' ∧ i ≤ n ∧ k = n + 1 - i) ?_ (n + 1)
    ⟨s₂.heap, s₂.toks, m, led, 0, rfl, Nat.le_refl _, hst, F, N, off, hS, hK, Nat.zero_le _, rfl⟩
  intro k s' qz29
  refine Mine.by_op fun P9 bk9 => ?_
  obtain ⟨h', tk, m', led', i, rfl, htk, hst', F', N', off', hS', hK', hi, rfl⟩ := qz29
  refine bk9 ?_; clear bk9 P9
  refine wpAny_with_toks (n := s₂.toks) htk ?_
  by_cases hlt : i < n
  · refine W.item i _ _ _ hlt hst' fun v h₁ tk₁ hP hst₁ hk₁ htk₁ => ?_
    obtain ⟨oI, heI⟩ := hIo _ _ hst₁
    have F₁ : Fr (k_for_wordT.2.2.2) (k_for_wordT.2.1.1).locals h₁ m' := LCg.fr_but F' hk₁ hLI hI₀
    have N₁ : News (k_for_wordT.2.2.2) (k_for_wordT.2.1.1).locals h₁ led' := LCg.news_but N' hk₁ off'
    have N₂ : News (k_for_wordT.2.2.2) (k_for_wordT.2.1.1).locals h₁ ((I, oI) :: led') := fun p hp => by
      rcases List.mem_cons.mp hp with rfl | hp
      · exact ⟨heI, Ne.symm hLI, hI₀⟩
      · exact N₁ p hp
    refine wpAny_passesOwn hE (hgo (i + 1) _ v _ hst₁ ?_)
    refine wpAny_mono (wpAny_toks_of htk₁ (step i v m' led' h₁ tk₁ oI htk₁ hlt hP hK' hS' F₁ N₂ off')) (fun _ s₃ h₃ => wpAny_mono (wpAny_toks_of h₃.1 h₃.2) (fun f s₄ h₄ => ?_) fun _ _ e => hE _ _ e.2) fun _ _ e => hE _ _ e.2
    obtain ⟨htk₄, h₄⟩ := h₄
    have fin : TurnEnd (k_for_wordT.2.2.2) (k_for_wordT.2.1.1).locals I oI (fun m' led' => S led' ∧ K (i + 1) m' led') { s₂ with heap := h₁, toks := tk₁ } s₄ →
        ∃ m, m < n + 1 - i ∧ ∃ h' tk m' led' i, s₄ = { s₂ with heap := h', toks := tk } ∧ s₂.toks ≤ tk ∧ St i h' ∧ Fr (k_for_wordT.2.2.2) (k_for_wordT.2.1.1).locals h' m' ∧ News (k_for_wordT.2.2.2) (k_for_wordT.2.1.1).locals h' led' ∧ (∀ p ∈ led', p.1 ≠ I) ∧ S led' ∧ K i m' led' ∧ i ≤ n ∧ m = n + 1 - i := by
      intro qz09
      refine Mine.by_op fun P9 bk9 => ?_
      obtain ⟨h₄', tk₄, m₄, led₄, rfl, F₄, N₄, off₄, hS₄, hK₄⟩ := qz09
      refine bk9 ?_; clear bk9 P9
      have N₄' : News (k_for_wordT.2.2.2) (k_for_wordT.2.1.1).locals h₄' led₄ := fun p hp => N₄ p (List.mem_cons_of_mem _ hp)
      exact ⟨n + 1 - (i + 1), by omega, h₄', tk₄, m₄, led₄, i + 1, rfl, htk₄, hSt _ _ _ _ _ hst₁ heI (N₄ (I, oI) List.mem_cons_self).1 F₄.keep N₄' hS₄, F₄, N₄', off₄, hS₄, hK₄, hlt, rfl⟩
    cases f with
    | ret v => exact h₄
    | brk => exact h₄
    | next => exact fin h₄
    | cont => exact fin h₄
  · have hin : i = n := by omega
    subst hin
    refine W.done _ _ _ hst' fun h₁ tk₁ hk₁ htk₁ => wpAny_execs_nil ?_
    exact done h₁ tk₁ m' led' (LCg.fr_but F' hk₁ hLI hI₀) (LCg.news_but N' hk₁ off') hS' hK'
theorem for_wordT {E : Value → Shared → Prop} {Q : Flow → Shared → Prop} {target iter : Expr} {pos : Pos} {body : List Stmt} (h₀ : Heap)
    (h : wpAny (model prog w) A (eval iter env) (fun xv s₁ => wpAny (model prog w) A (pyIter xv) (fun it s₂ => LoopT prog w A h₀ env target body Q E it s₂) E s₁) E s)
    (hs : ∀ x, foldedSetIterable iter env x = pure x)
    (hE : PassesOwn (model prog w) A env E) : wpAny (model prog w) A (exec (.For target iter body [] pos) env) Q E s :=
  pick_all k_for_wordT.eq_1 for_wordT_c ((prog, w, A, s), (env, h₀, E, Q), (target, iter, pos, body), (h₀)) h hs hE
theorem for_wordTF {E : Value → Shared → Prop} {Q : Flow → Shared → Prop} {target iter : Expr} {pos : Pos} {body : List Stmt} {L : Addr} {m : Str → Option Value} (_F : Fr h₀ L s.heap m)
    (h : wpAny (model prog w) A (eval iter env) (fun xv s₁ => s.toks ≤ s₁.toks → wpAny (model prog w) A (pyIter xv) (fun it s₂ => LoopT prog w A h₀ env target body Q E it s₂) E s₁) E s)
    (hs : ∀ x, foldedSetIterable iter env x = pure x)
    (hE : PassesOwn (model prog w) A env E) :
    wpAny (model prog w) A (exec (.For target iter body [] pos) env) Q E s :=
  for_wordT h₀ (wpAny_mono (wpAny_toks_of (Nat.le_refl s.toks) h) (fun _ _ h₁ => h₁.2 h₁.1) fun _ _ e => e.2) hs hE
set_option synthInstance.maxSize 100000 in
set_option synthInstance.maxHeartbeats 800000 in
noncomputable def s_iter_rangeT (d : (Program × World × Around × Shared) × (Env × Heap × (Value → Shared → Prop) × (Flow → Shared → Prop)) × ((List Stmt) × Addr × Tok × Nat) × ((Str → Option Value) × (List (Addr × Obj)))) : Prop := ∀ (target : Expr) (a : Int) (b : Int) (t : Tok) (v : Tok) (K : Nat → (Str → Option Value) → List (Addr × Obj) → Prop) (hh : (d.1.2.2.1).handled = none) (hr : IsRange (d.1.2.2.2).heap (d.2.2.1.2.1) a b 1 t (d.2.2.1.2.2.1) v) (hsm : Builtin.Range.small a b 1 = true) (hn : Builtin.Range.rangeSize a b 1 = (((d.2.2.1.2.2.2) : Nat) : Int)) (F : Fr (d.2.1.2.1) (d.2.1.1).locals (d.1.2.2.2).heap (d.2.2.2.1)) (N : News (d.2.1.2.1) (d.2.1.1).locals (d.1.2.2.2).heap (d.2.2.2.2)) (hK : K 0 (d.2.2.2.1) (d.2.2.2.2)) (htg : ∀ xs x p, target ≠ .Tuple xs x p) (htl : ∀ xs p, target ≠ .List xs p) (step : ∀ i t m₁ led₁ h tk I oI, (d.1.2.2.2).toks ≤ tk → i < (d.2.2.1.2.2.2) → K i m₁ led₁ → Fr (d.2.1.2.1) (d.2.1.1).locals h m₁ → News (d.2.1.2.1) (d.2.1.1).locals h ((I, oI) :: led₁) → (∀ p ∈ led₁, p.1 ≠ I) →
      wpAny (model (d.1.1) (d.1.2.1)) (d.1.2.2.1) (assign target (d.2.1.1) (.int (a + (i : Int)) t)) (fun _ s₃ => wpAny (model (d.1.1) (d.1.2.1)) (d.1.2.2.1) (execs (d.2.2.1.1) (d.2.1.1)) (TurnPost (d.2.1.2.1) (d.2.1.1).locals I oI (fun m' led' => K (i + 1) m' led') { (d.1.2.2.2) with heap := h, toks := tk } (d.2.1.2.2.2)) (d.2.1.2.2.1) s₃) (d.2.1.2.2.1) { (d.1.2.2.2) with heap := h, toks := tk }) (done : ∀ h' tk m' led', Fr (d.2.1.2.1) (d.2.1.1).locals h' m' → News (d.2.1.2.1) (d.2.1.1).locals h' led' → K (d.2.2.1.2.2.2) m' led' → (d.2.1.2.2.2) .next { (d.1.2.2.2) with heap := h', toks := tk }), wpAny (model (d.1.1) (d.1.2.1)) (d.1.2.2.1) (pyIter (.ref (d.2.2.1.2.1))) (fun it s₂ => LoopT (d.1.1) (d.1.2.1) (d.1.2.2.1) (d.2.1.2.1) (d.2.1.1) target (d.2.2.1.1) (d.2.1.2.2.2) (d.2.1.2.2.1) it s₂) (d.2.1.2.2.1) (d.1.2.2.2)
set_option synthInstance.maxSize 100000 in
set_option synthInstance.maxHeartbeats 800000 in
@[irreducible] noncomputable def k_iter_rangeT : (Program × World × Around × Shared) × (Env × Heap × (Value → Shared → Prop) × (Flow → Shared → Prop)) × ((List Stmt) × Addr × Tok × Nat) × ((Str → Option Value) × (List (Addr × Obj))) := pick (by haveI := ne_World; haveI := ne_Around; haveI := ne_Shared; exact inferInstance) s_iter_rangeT
theorem iter_rangeT_c : s_iter_rangeT k_iter_rangeT := by
  delta s_iter_rangeT
  intro target a b t v K hh hr hsm hn F N hK htg htl step done
  refine wpAny_pyIter_range hr hsm ?_
  refine ⟨(k_iter_rangeT.1.2.2.2).heap.objs.size, _, (k_iter_rangeT.2.2.1.2.2.2), _, _, (k_iter_rangeT.2.2.2.1), (k_iter_rangeT.2.2.2.2), fun _ => True, K, rfl, LCg.range_walks hh a (k_iter_rangeT.2.2.1.2.2.2), Nat.ne_of_lt F.ns.lt, next_is_new F, (fun i h st => ⟨_, st⟩), LCg.range_st, ?_, (by show IsRangeIter _ _ _ _ _; rw [hn]; simpa using Heap.get?_push_size _ rfl), F.push _,
    (fun p hp => ⟨Heap.get?_push_of_some _ (N p hp).1, (N p hp).2⟩), (fun p hp => Nat.ne_of_lt (Heap.lt_size (N p hp).1)), trivial, hK, ?_, ?_⟩
  · intro i s' v Q' _ hQ'
    unfold letOwnedTupleGo
    split
    · exact absurd rfl (htg _ _ _)
    · exact absurd rfl (htl _ _)
    · exact wpAny_pure hQ'
  · rintro i v m₁ led₁ h tk oI htk hi ⟨t, rfl⟩ hK₁ _ F₁ N₁ off₁
    refine wpAny_mono (step i t m₁ led₁ h tk _ oI htk hi hK₁ F₁ N₁ off₁) (fun _ s₃ h₃ => wpAny_mono h₃ (fun f s₄ h₄ => ?_) fun _ _ e => e) fun _ _ e => e
    have fin : TurnEnd (k_iter_rangeT.2.1.2.1) (k_iter_rangeT.2.1.1).locals (k_iter_rangeT.1.2.2.2).heap.objs.size oI (fun m' led' => K (i + 1) m' led') { (k_iter_rangeT.1.2.2.2) with heap := h, toks := tk } s₄ → TurnEnd (k_iter_rangeT.2.1.2.1) (k_iter_rangeT.2.1.1).locals (k_iter_rangeT.1.2.2.2).heap.objs.size oI (fun m' led' => True ∧ K (i + 1) m' led') { (k_iter_rangeT.1.2.2.2) with heap := h, toks := tk } s₄ :=
      fun ⟨a, b, c, d, e, f, g, o, k⟩ => ⟨a, b, c, d, e, f, g, o, trivial, k⟩
    cases f with
    | ret v => exact h₄
    | brk => exact h₄
    | next => exact fin h₄
    | cont => exact fin h₄
  · intro h' tk m' led' F' N' _ hK'
    exact done h' tk m' led' F' N' hK'
theorem iter_rangeT {E : Value → Shared → Prop} {Q : Flow → Shared → Prop} {target : Expr} {body : List Stmt} {r : Addr} {a b : Int} {t u v : Tok} {n : Nat} {m : Str → Option Value} {led : List (Addr × Obj)} (K : Nat → (Str → Option Value) → List (Addr × Obj) → Prop)
    (hh : A.handled = none) (hr : IsRange s.heap r a b 1 t u v) (hsm : Builtin.Range.small a b 1 = true) (hn : Builtin.Range.rangeSize a b 1 = ((n : Nat) : Int)) (F : Fr h₀ env.locals s.heap m) (N : News h₀ env.locals s.heap led) (hK : K 0 m led)
    (htg : ∀ xs x p, target ≠ .Tuple xs x p) (htl : ∀ xs p, target ≠ .List xs p)
    (step : ∀ i t m₁ led₁ h tk I oI, s.toks ≤ tk → i < n → K i m₁ led₁ → Fr h₀ env.locals h m₁ → News h₀ env.locals h ((I, oI) :: led₁) → (∀ p ∈ led₁, p.1 ≠ I) →
      wpAny (model prog w) A (assign target env (.int (a + (i : Int)) t)) (fun _ s₃ => wpAny (model prog w) A (execs body env) (TurnPost h₀ env.locals I oI (fun m' led' => K (i + 1) m' led') { s with heap := h, toks := tk } Q) E s₃) E { s with heap := h, toks := tk })
    (done : ∀ h' tk m' led', Fr h₀ env.locals h' m' → News h₀ env.locals h' led' → K n m' led' → Q .next { s with heap := h', toks := tk }) : wpAny (model prog w) A (pyIter (.ref r)) (fun it s₂ => LoopT prog w A h₀ env target body Q E it s₂) E s :=
  pick_all k_iter_rangeT.eq_1 iter_rangeT_c ((prog, w, A, s), (env, h₀, E, Q), (body, r, u, n), (m, led)) target a b t v K hh hr hsm hn F N hK htg htl step done
end
end
section
local macro_rules | `(tactic| walk_at $s:str) => `(tactic| k_extra $(Lean.Syntax.mkStrLit ("x:" ++ s.getString)))
local macro_rules | `(tactic| ktr_room) => `(tactic| first | exact Mine.dpa (by assumption) (by rfl) | exact Mine.dp1 (by assumption) (by rfl) | exact Mine.dp0 (by assumption))
local macro_rules | `(tactic| ktr_units) => `(tactic| first | exact Mine.dpa (by assumption) (by rfl) | exact Mine.un3 (by assumption) (by rfl) | exact Mine.dp0 (by assumption))
local macro_rules | `(tactic| size_fits) => `(tactic| exact Nat.le_of_ble_eq_true rfl)
local macro_rules | `(tactic| k_ne) => `(tactic| (refine neN ?_; (try dsimp only); first | assumption | exact Ne.symm (by assumption) | exact Nat.ne_of_gt (by assumption) | exact Nat.ne_of_lt (by assumption) | exact Mine.nk1 _ | exact Mine.nk2 _ | exact Mine.nk3 _ | exact Mine.nk4 _ | exact Mine.nk5 _ | exact Mine.nk6 _ | exact Mine.nk7 _ | exact Mine.nk8 _ | exact Mine.nk9 _ | exact Mine.nk10 _ | exact Mine.nk11 _ | exact Mine.nk12 _ | exact (Mine.nk1 _).symm | exact (Mine.nk2 _).symm | exact (Mine.nk3 _).symm | exact (Mine.nk4 _).symm | exact (Mine.nk5 _).symm | exact (Mine.nk6 _).symm | exact (Mine.nk7 _).symm | exact (Mine.nk8 _).symm | exact (Mine.nk9 _).symm | exact (Mine.nk10 _).symm | exact (Mine.nk11 _).symm | exact (Mine.nk12 _).symm | exact Nat.ne_of_gt (And.left (by assumption)) | exact Nat.ne_of_lt (And.left (by assumption)) | exact Nat.ne_of_gt (And.left (And.right (by assumption))) | exact Nat.ne_of_gt (And.right (by assumption)) | exact Nat.ne_of_lt (And.left (And.right (by assumption))) | exact Nat.ne_of_lt (And.right (by assumption)) | exact Nat.ne_of_gt (And.left (And.right (And.right (by assumption)))) | exact Nat.ne_of_gt (And.right (And.right (by assumption))) | exact Nat.ne_of_lt (And.left (And.right (And.right (by assumption)))) | exact Nat.ne_of_lt (And.right (And.right (by assumption))) | exact Nat.ne_of_gt (And.left (And.right (And.right (And.right (by assumption))))) | exact Nat.ne_of_gt (And.right (And.right (And.right (by assumption)))) | exact Nat.ne_of_lt (And.left (And.right (And.right (And.right (by assumption))))) | exact Nat.ne_of_lt (And.right (And.right (And.right (by assumption)))) | exact Nat.ne_of_gt (And.left (And.right (And.right (And.right (And.right (by assumption)))))) | exact Nat.ne_of_gt (And.right (And.right (And.right (And.right (by assumption))))) | exact Nat.ne_of_lt (And.left (And.right (And.right (And.right (And.right (by assumption)))))) | exact Nat.ne_of_lt (And.right (And.right (And.right (And.right (by assumption))))) | exact Nat.ne_of_gt (And.left (And.right (And.right (And.right (And.right (And.right (by assumption))))))) | exact Nat.ne_of_gt (And.right (And.right (And.right (And.right (And.right (by assumption)))))) | exact Nat.ne_of_lt (And.left (And.right (And.right (And.right (And.right (And.right (by assumption))))))) | exact Nat.ne_of_lt (And.right (And.right (And.right (And.right (And.right (by assumption)))))) | exact Nat.ne_of_gt (And.left (And.right (And.right (And.right (And.right (And.right (And.right (by assumption)))))))) | exact Nat.ne_of_gt (And.right (And.right (And.right (And.right (And.right (And.right (by assumption))))))) | exact Nat.ne_of_lt (And.left (And.right (And.right (And.right (And.right (And.right (And.right (by assumption)))))))) | exact Nat.ne_of_lt (And.right (And.right (And.right (And.right (And.right (And.right (by assumption))))))) | exact Nat.ne_of_gt (And.left (And.right (And.right (And.right (And.right (And.right (And.right (And.right (by assumption))))))))) | exact Nat.ne_of_gt (And.right (And.right (And.right (And.right (And.right (And.right (And.right (by assumption)))))))) | exact Nat.ne_of_lt (And.left (And.right (And.right (And.right (And.right (And.right (And.right (And.right (by assumption))))))))) | exact Nat.ne_of_lt (And.right (And.right (And.right (And.right (And.right (And.right (And.right (by assumption)))))))) | exact Nat.ne_of_gt (And.left (And.right (And.right (And.right (And.right (And.right (And.right (And.right (And.right (by assumption)))))))))) | exact Nat.ne_of_gt (And.right (And.right (And.right (And.right (And.right (And.right (And.right (And.right (by assumption))))))))) | exact Nat.ne_of_lt (And.left (And.right (And.right (And.right (And.right (And.right (And.right (And.right (And.right (by assumption)))))))))) | exact Nat.ne_of_lt (And.right (And.right (And.right (And.right (And.right (And.right (And.right (And.right (by assumption))))))))) | exact Nat.ne_of_gt (And.left (And.right (And.right (And.right (And.right (And.right (And.right (And.right (And.right (And.right (by assumption))))))))))) | exact Nat.ne_of_gt (And.right (And.right (And.right (And.right (And.right (And.right (And.right (And.right (And.right (by assumption)))))))))) | exact Nat.ne_of_lt (And.left (And.right (And.right (And.right (And.right (And.right (And.right (And.right (And.right (And.right (by assumption))))))))))) | exact Nat.ne_of_lt (And.right (And.right (And.right (And.right (And.right (And.right (And.right (And.right (And.right (by assumption)))))))))) | exact Nat.ne_of_gt (And.left (And.right (And.right (And.right (And.right (And.right (And.right (And.right (And.right (And.right (And.right (by assumption)))))))))))) | exact Nat.ne_of_gt (And.right (And.right (And.right (And.right (And.right (And.right (And.right (And.right (And.right (And.right (by assumption))))))))))) | exact Nat.ne_of_lt (And.left (And.right (And.right (And.right (And.right (And.right (And.right (And.right (And.right (And.right (And.right (by assumption)))))))))))) | exact Nat.ne_of_lt (And.right (And.right (And.right (And.right (And.right (And.right (And.right (And.right (And.right (And.right (by assumption))))))))))) | exact Nat.ne_of_gt (And.left (And.right (And.right (And.right (And.right (And.right (And.right (And.right (And.right (And.right (And.right (And.right (by assumption))))))))))))) | exact Nat.ne_of_gt (And.right (And.right (And.right (And.right (And.right (And.right (And.right (And.right (And.right (And.right (And.right (by assumption)))))))))))) | exact Nat.ne_of_lt (And.left (And.right (And.right (And.right (And.right (And.right (And.right (And.right (And.right (And.right (And.right (And.right (by assumption))))))))))))) | exact Nat.ne_of_lt (And.right (And.right (And.right (And.right (And.right (And.right (And.right (And.right (And.right (And.right (And.right (by assumption)))))))))))) | omega))
-- C1
section
theorem setup_C1 : True := by
  k_with_none
  k_with "x:execs cons" => (refine Mine.any_tk ?_; (try clear qtk); intro qtk; (with_reducible refine wpAny_execs_cons ?_); (try dsimp only))
  k_with "x:call builtin:max" => ((k_here; (with_reducible show wpAny _ _ (call (Value.builtin _) [Value.float _ _, Value.float _ _, Value.float _ _]) _ _ _); k_dflt (refine' max3_f ?zzk0 ?zzk1 ?zzk2 ?_; (case zzk0 => exact rfl); (case zzk1 => k_asm); (case zzk2 => k_asm); k_whole); intro qh' qtk' qt' qF' qN'; (try k_sweep)))
  k_with "x:call builtin:min" => ((k_here; (with_reducible show wpAny _ _ (call (Value.builtin _) [Value.float _ _, Value.float _ _, Value.float _ _]) _ _ _); k_dflt (refine' min3_f ?zzk0 ?zzk1 ?zzk2 ?_; (case zzk0 => exact rfl); (case zzk1 => k_asm); (case zzk2 => k_asm); k_whole); intro qh' qtk' qt' qF' qN'; (try k_sweep)))
  k_with "x:m:parts" => (w_on; (have qhz : PySem.Challenge.rw_zo0012_01 = PySem.Challenge.rw_zo0012_01 ∧ Mine.hd.heap_1 = Mine.hd.heap_1 := by (k_fill; exact ⟨rfl, rfl⟩)); clear qhz; refine Eq.trans rfl ?_; k_is)
  k_with "x:m:begin" => (w_on; (have qhz : PySem.Challenge.rw_zo0012_01 = PySem.Challenge.rw_zo0012_01 ∧ Mine.hd.heap_1 = Mine.hd.heap_1 := by (k_fill; exact ⟨rfl, rfl⟩)); clear qhz)
  trivial
noncomputable def hsvOut (v : UInt64) (add : List (Addr × Obj)) (r : Value) : Prop := ∃ D h s t1 t2 t3 n, r = .ref D ∧ add = [(D, { cls := .type "tuple", data := .seq [.float h t1, .float s t2, .float v t3].toArray n })]
theorem m3 {i j k : Nat} (hi : i < 600) (hj : j < 600) (hk : k < 600) : mx (mx (qf i) (qf j)) (qf k) = qf (max (max i j) k) := by
  rw [qf_mx hi hj, qf_mx (mx2_lt hi hj) hk]
theorem n3 {i j k : Nat} (hi : i < 600) (hj : j < 600) (hk : k < 600) : mn (mn (qf i) (qf j)) (qf k) = qf (min (min i j) k) := by
  rw [qf_mn hi hj, qf_mn (mn2_lt hi hj) hk]
theorem hsv_ne {i j k : Nat} (hi : i < 600) (hj : j < 600) (hk : k < 600) (hne : (Float64.cmp (mn (mn (qf i) (qf j)) (qf k)) (mx (mx (qf i) (qf j)) (qf k)) == some .eq) = false) : min (min i j) k ≠ max (max i j) k := by
  rw [m3 hi hj hk, n3 hi hj hk, qf_eq (mn3_lt hi hj hk) (mx3_lt hi hj hk)] at hne
  simpa using hne
theorem hsv_z1 {i j k : Nat} (hi : i < 600) (hj : j < 600) (hk : k < 600) (hne : (Float64.cmp (mn (mn (qf i) (qf j)) (qf k)) (mx (mx (qf i) (qf j)) (qf k)) == some .eq) = false) (hz : Float64.isZero (mx (mx (qf i) (qf j)) (qf k)) = true) : False := by
  have := hsv_ne hi hj hk hne
  rw [m3 hi hj hk, (qf_dec (mx3_lt hi hj hk)).2.2.1] at hz
  have hz := eq_of_beq hz
  exact this (Nat.le_antisymm (mn_le_mx i j k) (hz ▸ Nat.zero_le _))
theorem hsv_z2 {i j k : Nat} (hi : i < 600) (hj : j < 600) (hk : k < 600) (hne : (Float64.cmp (mn (mn (qf i) (qf j)) (qf k)) (mx (mx (qf i) (qf j)) (qf k)) == some .eq) = false) (hz : Float64.isZero (Float64.sub (mx (mx (qf i) (qf j)) (qf k)) (mn (mn (qf i) (qf j)) (qf k))) = true) : False := by
  have hne := hsv_ne hi hj hk hne
  rw [m3 hi hj hk, n3 hi hj hk] at hz
  have := qf_sub_ne (mx3_lt hi hj hk) (mn3_lt hi hj hk) hz
  exact hne this.symm
noncomputable def hsvP (p : Params) : FnParts p 28 := ⟨_, _, _, _, _, _, _, _, _, _, _, _, _, _, _, by walk_at "m:parts"⟩
noncomputable def s_hsv (d : Spot × (Nat × Nat × Nat × Tok) × (Tok × Tok)) : Prop := ∀ (hi9 : (d.2.1.1) < 600) (hj9 : (d.2.1.2.1) < 600) (hk9 : (d.2.1.2.2.1) < 600), InBody 5 28 hsvP ([(Str.ofString "b", .float (qf (d.2.1.2.2.1)) (d.2.2.2)), (Str.ofString "g", .float (qf (d.2.1.2.1)) (d.2.2.1)), (Str.ofString "r", .float (qf (d.2.1.1)) (d.2.1.2.2.2))]) (d.1.news) (fun add r => hsvOut (qf (max (max (d.2.1.1) (d.2.1.2.1)) (d.2.1.2.2.1))) add r) d.1
@[irreducible] noncomputable def k_hsv : Spot × (Nat × Nat × Nat × Tok) × (Tok × Tok) := pick (by haveI := ne_Spot; exact inferInstance) s_hsv
theorem hsv_c : s_hsv k_hsv := by
  delta s_hsv
  intro hi9 hj9 hk9
  unfold InBody
  intro B FG X₀ F X N T hd hu hret
  walk_at "m:begin"
  dsimp only [hsvP]
  (try k_unmd)
  k_fold
  k_steps
  all_goals (first
    | (exfalso; exact hsv_z1 hi9 hj9 hk9 (by assumption) (by assumption))
    | (exfalso; exact hsv_z2 hi9 hj9 hk9 (by assumption) (by assumption))
    | (exfalso; revert ‹Float64.isZero _ = true›; decide +kernel)
    | (rw [← m3 hi9 hj9 hk9] at hret; refine hret _ [(_, _)] _ _ (by assumption) (by assumption) (fun q hq p hp => ?_) ⟨_, _, _, _, _, _, _, rfl, rfl⟩; rw [List.mem_singleton.mp hp]; exact (by assumption : ∀ p ∈ k_hsv.1.news, p.1 < _) q hq)
    | trace_state)
theorem hsv (w : World) (i j k : Nat) : Gives w 5 28 (fun _ vs => i < 600 ∧ j < 600 ∧ k < 600 ∧ ∃ t1 t2 t3, vs = [.float (qf i) t1, .float (qf j) t2, .float (qf k) t3]) (fun _ add r => hsvOut (qf (max (max i j) k)) add r) := by
  w_on
  unfold Gives
  k_fill
  intro mean mg mb dp un gd cn cs a ccd cl outer A₀ base h₀ L m news s vs Q E B F X N T hk hR hd hu hret
  refine Mine.by_op fun P9 bk9 => ?_
  obtain ⟨hi9, hj9, hk9, t1, t2, t3, rfl⟩ := hR
  refine bk9 ?_; clear bk9 P9
  refine wpAny_call ?_
  k_dflt ktr_enter
  rename_i g' L' h' FG' F' N' B' X' T'
  exact in_body (pick_all k_hsv.eq_1 hsv_c (⟨w, mean, mg, mb, dp, un, gd, cn, cs, a, ccd, cl, outer, base, h₀, L, m, news, s, Q, E, g', L', h', _⟩, (i, j, k, t1), (t2, t3)) hi9 hj9 hk9) B' FG' X F' X' N' T' hd hu hret rfl


noncomputable def lightOf (a b : UInt64) : UInt64 := Float64.div (Float64.add a b) 0x4000000000000000
noncomputable def hlsOut (v : UInt64) (add : List (Addr × Obj)) (r : Value) : Prop := ∃ D h s t1 t2 t3 n, r = .ref D ∧ add = [(D, { cls := .type "tuple", data := .seq [.float h t1, .float v t2, .float s t3].toArray n })]
theorem hls_z1 {i j k : Nat} (hi : i < 128) (hj : j < 128) (hk : k < 128) (hne : (Float64.cmp (mn (mn (qf i) (qf j)) (qf k)) (mx (mx (qf i) (qf j)) (qf k)) == some .eq) = false) (hz : Float64.isZero (Float64.add (mx (mx (qf i) (qf j)) (qf k)) (mn (mn (qf i) (qf j)) (qf k))) = true) : False := by
  have := hsv_ne (Nat.lt_trans hi (by decide)) (Nat.lt_trans hj (by decide)) (Nat.lt_trans hk (by decide)) hne
  rw [m3 (Nat.lt_trans hi (by decide)) (Nat.lt_trans hj (by decide)) (Nat.lt_trans hk (by decide)), n3 (Nat.lt_trans hi (by decide)) (Nat.lt_trans hj (by decide)) (Nat.lt_trans hk (by decide)), qf_add (mm3_lt hi hj hk rfl), (qf_dec (mm3_lt hi hj hk rfl)).2.2.1] at hz
  have hz := eq_of_beq hz
  exact this ((Nat.add_eq_zero_iff.mp hz).2.trans (Nat.add_eq_zero_iff.mp hz).1.symm)
theorem hls_z2 {i j k : Nat} (hi : i < 128) (hj : j < 128) (hk : k < 128) (hz : (Float64.cmp (Float64.div (Float64.add (mx (mx (qf i) (qf j)) (qf k)) (mn (mn (qf i) (qf j)) (qf k))) 0x4000000000000000) 0x3FE0000000000000 == some .lt || Float64.cmp (Float64.div (Float64.add (mx (mx (qf i) (qf j)) (qf k)) (mn (mn (qf i) (qf j)) (qf k))) 0x4000000000000000) 0x3FE0000000000000 == some .eq) = false) : False := by
  rw [m3 (Nat.lt_trans hi (by decide)) (Nat.lt_trans hj (by decide)) (Nat.lt_trans hk (by decide)), n3 (Nat.lt_trans hi (by decide)) (Nat.lt_trans hj (by decide)) (Nat.lt_trans hk (by decide)), qf_add (mm3_lt hi hj hk rfl)] at hz
  have := chk2_at (n := max (max i j) k + min (min i j) k) (mm3_lt hi hj hk rfl)
  unfold chk2 at this
  simp only [Bool.and_eq_true, Bool.or_eq_true, decide_eq_true_eq] at this
  rcases this.2 with h | h
  · omega
  · rw [h] at hz; cases hz
noncomputable def hlsP (p : Params) : FnParts p 21 := ⟨_, _, _, _, _, _, _, _, _, _, _, _, _, _, _, by walk_at "m:parts"⟩
noncomputable def s_hls (d : Spot × (Nat × Nat × Nat × Tok) × (Tok × Tok)) : Prop := ∀ (hi9 : (d.2.1.1) < 128) (hj9 : (d.2.1.2.1) < 128) (hk9 : (d.2.1.2.2.1) < 128), InBody 5 21 hlsP ([(Str.ofString "b", .float (qf (d.2.1.2.2.1)) (d.2.2.2)), (Str.ofString "g", .float (qf (d.2.1.2.1)) (d.2.2.1)), (Str.ofString "r", .float (qf (d.2.1.1)) (d.2.1.2.2.2))]) (d.1.news) (fun add r => hlsOut (lightOf (mx (mx (qf (d.2.1.1)) (qf (d.2.1.2.1))) (qf (d.2.1.2.2.1))) (mn (mn (qf (d.2.1.1)) (qf (d.2.1.2.1))) (qf (d.2.1.2.2.1)))) add r) d.1
@[irreducible] noncomputable def k_hls : Spot × (Nat × Nat × Nat × Tok) × (Tok × Tok) := pick (by haveI := ne_Spot; exact inferInstance) s_hls
theorem hls_c : s_hls k_hls := by
  delta s_hls
  intro hi9 hj9 hk9
  unfold InBody
  intro B FG X₀ F X N T hd hu hret
  walk_at "m:begin"
  dsimp only [hlsP]
  (try k_unmd)
  k_fold
  k_steps
  all_goals (first
    | (exfalso; exact hls_z1 hi9 hj9 hk9 (by assumption) (by assumption))
    | (exfalso; exact hls_z2 hi9 hj9 hk9 (by assumption))
    | (exfalso; exact hsv_z2 (Nat.lt_trans hi9 (by decide)) (Nat.lt_trans hj9 (by decide)) (Nat.lt_trans hk9 (by decide)) (by assumption) (by assumption))
    | (exfalso; revert ‹Float64.isZero _ = true›; decide +kernel)
    | (refine hret _ [(_, _)] _ _ (by assumption) (by assumption) (fun q hq p hp => ?_) ⟨_, _, _, _, _, _, _, rfl, rfl⟩; rw [List.mem_singleton.mp hp]; exact (by assumption : ∀ p ∈ k_hls.1.news, p.1 < _) q hq)
    | trace_state)
theorem hls (w : World) (i j k : Nat) : Gives w 5 21 (fun _ vs => i < 128 ∧ j < 128 ∧ k < 128 ∧ ∃ t1 t2 t3, vs = [.float (qf i) t1, .float (qf j) t2, .float (qf k) t3]) (fun _ add r => hlsOut (lightOf (mx (mx (qf i) (qf j)) (qf k)) (mn (mn (qf i) (qf j)) (qf k))) add r) := by
  w_on
  unfold Gives
  k_fill
  intro mean mg mb dp un gd cn cs a ccd cl outer A₀ base h₀ L m news s vs Q E B F X N T hk hR hd hu hret
  refine Mine.by_op fun P9 bk9 => ?_
  obtain ⟨hi9, hj9, hk9, t1, t2, t3, rfl⟩ := hR
  refine bk9 ?_; clear bk9 P9
  refine wpAny_call ?_
  k_dflt ktr_enter
  rename_i g' L' h' FG' F' N' B' X' T'
  exact in_body (pick_all k_hls.eq_1 hls_c (⟨w, mean, mg, mb, dp, un, gd, cn, cs, a, ccd, cl, outer, base, h₀, L, m, news, s, Q, E, g', L', h', _⟩, (i, j, k, t1), (t2, t3)) hi9 hj9 hk9) B' FG' X F' X' N' T' hd hu hret rfl
end
-- C2
section
theorem setup_C2 : True := by
  k_with_none
  k_with "x:execs cons" => (refine Mine.any_tk ?_; (try clear qtk); intro qtk; (with_reducible refine wpAny_execs_cons ?_); (try dsimp only))
  k_with "x:m:mem" => (first | assumption | exact List.Mem.head _ | (refine List.Mem.tail _ ?_; walk_at "m:mem"))
  k_with "x:subscriptTail Name Constant ref int" => ((k_here; (with_reducible show wpAny _ _ (subscriptTail _ _ (Value.ref _) (Value.int _ _)) _ _ _); (with_unfolding_all refine' sub_listN ?zzk1 ?zzk2 ?zzk3 ?zzk4 ?zzk5 ?_ ?zzk6; (case zzk1 => k_asm); (case zzk2 => walk_at "m:mem"); (case zzk3 => decide); (case zzk4 => decide); (case zzk5 => rfl); (case zzk6 => with_unfolding_all rfl); k_whole)))
  k_with "x:m:parts" => (w_on; (have qhz : PySem.Challenge.rw_zo0012_01 = PySem.Challenge.rw_zo0012_01 ∧ Mine.hd.heap_1 = Mine.hd.heap_1 := by (k_fill; exact ⟨rfl, rfl⟩)); clear qhz; refine Eq.trans rfl ?_; k_is)
  k_with "x:m:begin" => (w_on; (have qhz : PySem.Challenge.rw_zo0012_01 = PySem.Challenge.rw_zo0012_01 ∧ Mine.hd.heap_1 = Mine.hd.heap_1 := by (k_fill; exact ⟨rfl, rfl⟩)); clear qhz)
  trivial
theorem qf_norm (i : Nat) : Float64.ofFrac (decide ((i : Int) < 0) != decide ((1024 : Int) < 0)) (i : Int).natAbs (1024 : Int).natAbs = qf i := by
  have : decide ((i : Int) < 0) = false := decide_eq_false (by omega)
  rw [this]; rfl
theorem qf_fin {n : Nat} (h : n < 600) : ¬ Float64.isInf (qf n) = true := by
  refine Mine.by_op fun P9 bk9 => ?_
  obtain ⟨⟨m, e, hd⟩, _⟩ := qf_dec h
  refine bk9 ?_; clear bk9 P9
  unfold Float64.isInf
  rw [hd]; exact Bool.false_ne_true
theorem fin_nan {x : UInt64} (h : Float64.isFinite x = true) (h' : Float64.isNaN x = true) : False := by
  unfold Float64.isFinite at h; unfold Float64.isNaN at h'
  cases hd : Float64.decode x <;> rw [hd] at h h' <;> cases h <;> cases h'
theorem fin_inf {x : UInt64} (h : Float64.isFinite x = true) (h' : Float64.isInf x = true) : False := by
  unfold Float64.isFinite at h; unfold Float64.isInf at h'
  cases hd : Float64.decode x <;> rw [hd] at h h' <;> cases h <;> cases h'
noncomputable def mostP (p : Params) : FnParts p 110 := ⟨_, _, _, _, _, _, _, _, _, _, _, _, _, _, _, by walk_at "m:parts"⟩
noncomputable def s_most (d : Spot × (Nat × Nat × Nat × Addr) × (Tok × Tok × Tok × Nat)) : Prop := ∀ (hi9 : (d.2.1.1) < 600) (hj9 : (d.2.1.2.1) < 600) (hk9 : (d.2.1.2.2.1) < 600) (hl : ((d.2.1.2.2.2), listOf [.int ((d.2.1.1) : Int) (d.2.2.1), .int ((d.2.1.2.1) : Int) (d.2.2.2.1), .int ((d.2.1.2.2.1) : Int) (d.2.2.2.2.1)].toArray (d.2.2.2.2.2)) ∈ (d.1.news)), InBody 10 110 mostP ([(Str.ofString "three", .ref (d.2.1.2.2.2))]) ((d.1.news)) (fun add r => add = [] ∧ ∃ t, r = .int (max (max (d.2.1.1) (d.2.1.2.1)) (d.2.1.2.2.1) : Nat) t) d.1
@[irreducible] noncomputable def k_most : Spot × (Nat × Nat × Nat × Addr) × (Tok × Tok × Tok × Nat) := pick (by haveI := ne_Spot; exact inferInstance) s_most
theorem most_c : s_most k_most := by
  delta s_most
  intro hi9 hj9 hk9 hl
  unfold InBody
  intro B FG X₀ F X N T hd hu hret
  walk_at "m:begin"
  dsimp only [mostP]
  (try k_unmd)
  k_fold
  k_with "x:call ref" => (simp only [qf_norm] at *; k_dflt (refine' gives_use (hsv (k_most.1.w) (k_most.2.1.1) (k_most.2.1.2.1) (k_most.2.1.2.2.1)) ?zzk1 ?zzk2 ?zzk3 ?zzk4 ?zzk5 ?zzk6 ?zzk7 ?zzk8 ?zzk9 ?_; (case zzk1 => k_asm); (case zzk2 => k_asm); (case zzk3 => k_asm); (case zzk4 => k_asm); (case zzk5 => k_asm); (case zzk6 => first | exact rfl | assumption); (case zzk7 => exact ⟨hi9, hj9, hk9, _, _, _, rfl⟩); (case zzk8 => ktr_room); (case zzk9 => ktr_units)); intro r9 add9 h9 tk9 F9 N9 lt9 out9; refine Mine.by_op fun P9 bk9 => ?_; obtain ⟨D9, hh9, ss9, u1, u2, u3, nn9, hr9, ha9⟩ := out9; refine bk9 ?_; clear bk9 P9; subst hr9; subst ha9; simp only [List.singleton_append] at N9; (try dsimp only); (try k_fold))
  k_steps
  all_goals (have q9 := (qf_dec (n := max (max (k_most.2.1.1) (k_most.2.1.2.1)) (k_most.2.1.2.2.1)) (mx3_lt hi9 hj9 hk9)).2.2.2)
  all_goals (first
    | (exfalso; exact fin_nan q9.2 (by assumption))
    | (exfalso; exact fin_inf q9.2 (by assumption))
    | (rw [q9.1]; exact hret _ [] _ _ (by assumption) (news_sub (by assumption) fun p hp => List.Mem.tail _ hp) none_lt ⟨rfl, _, rfl⟩)
    | trace_state)
theorem most (w : World) (i j k : Nat) : Gives w 10 110 (fun news vs => i < 600 ∧ j < 600 ∧ k < 600 ∧ ∃ l t1 t2 t3 n, vs = [.ref l] ∧ (l, listOf [.int (i : Int) t1, .int (j : Int) t2, .int (k : Int) t3].toArray n) ∈ news) (fun _ add r => add = [] ∧ ∃ t, r = .int (max (max i j) k : Nat) t) := by
  w_on
  unfold Gives
  k_fill
  intro mean mg mb dp un gd cn cs aa ccd cl outer A₀ base h₀ L m news s vs Q E B F X N T₀ hk hR hd hu hret
  refine Mine.by_op fun P9 bk9 => ?_
  obtain ⟨hi9, hj9, hk9, l, t1, t2, t3, n, rfl, hl⟩ := hR
  refine bk9 ?_; clear bk9 P9
  refine wpAny_call ?_
  k_dflt ktr_enter
  rename_i g' L' h' FG' F' N' B' X' T'
  exact in_body (pick_all k_most.eq_1 most_c (⟨w, mean, mg, mb, dp, un, gd, cn, cs, aa, ccd, cl, outer, base, h₀, L, m, news, s, Q, E, g', L', h', _⟩, (i, j, k, l), (t1, t2, t3, n)) hi9 hj9 hk9 hl) B' FG' X F' X' N' T' hd hu hret rfl
end
-- C3
section
theorem setup_C3 : True := by
  k_with_none
  k_with "x:execs cons" => (refine Mine.any_tk ?_; (try clear qtk); intro qtk; (with_reducible refine wpAny_execs_cons ?_); (try dsimp only))
  k_with "x:m:mem" => (first | assumption | exact List.Mem.head _ | (refine List.Mem.tail _ ?_; walk_at "m:mem"))
  k_with "x:subscriptTail Name Constant ref int" => ((k_here; (with_reducible show wpAny _ _ (subscriptTail _ _ (Value.ref _) (Value.int _ _)) _ _ _); (with_unfolding_all refine' sub_listN ?zzk1 ?zzk2 ?zzk3 ?zzk4 ?zzk5 ?_ ?zzk6; (case zzk1 => k_asm); (case zzk2 => walk_at "m:mem"); (case zzk3 => decide); (case zzk4 => decide); (case zzk5 => rfl); (case zzk6 => with_unfolding_all rfl); k_whole)))
  k_with "x:m:give" => ((
  (case zzk1 => k_asm); (case zzk2 => k_asm); (case zzk3 => k_asm); (case zzk4 => k_asm); (case zzk5 => k_asm); (case zzk6 => first | exact rfl | assumption); (case zzk8 => ktr_room); (case zzk9 => ktr_units)))
  k_with "x:m:parts" => (w_on; (have qhz : PySem.Challenge.rw_zo0012_01 = PySem.Challenge.rw_zo0012_01 ∧ Mine.hd.heap_1 = Mine.hd.heap_1 := by (k_fill; exact ⟨rfl, rfl⟩)); clear qhz; refine Eq.trans rfl ?_; k_is)
  k_with "x:m:begin" => (w_on; (have qhz : PySem.Challenge.rw_zo0012_01 = PySem.Challenge.rw_zo0012_01 ∧ Mine.hd.heap_1 = Mine.hd.heap_1 := by (k_fill; exact ⟨rfl, rfl⟩)); clear qhz)
  trivial
theorem light_at {i j k : Nat} (hi : i < 128) (hj : j < 128) (hk : k < 128) : Flt.toInt Float64.truncOf (Float64.mul (lightOf (mx (mx (qf i) (qf j)) (qf k)) (mn (mn (qf i) (qf j)) (qf k))) (Float64.ofInt 2048)) = (max (max i j) k + min (min i j) k : Nat) ∧ Float64.isFinite (Float64.mul (lightOf (mx (mx (qf i) (qf j)) (qf k)) (mn (mn (qf i) (qf j)) (qf k))) (Float64.ofInt 2048)) = true := by
  unfold lightOf
  rw [m3 (Nat.lt_trans hi (by decide)) (Nat.lt_trans hj (by decide)) (Nat.lt_trans hk (by decide)), n3 (Nat.lt_trans hi (by decide)) (Nat.lt_trans hj (by decide)) (Nat.lt_trans hk (by decide)), qf_add (mm3_lt hi hj hk rfl)]
  have := chk2_at (n := max (max i j) k + min (min i j) k) (mm3_lt hi hj hk rfl)
  unfold chk2 at this
  simp only [Bool.and_eq_true, beq_iff_eq] at this
  exact this.1
noncomputable def leastP (p : Params) : FnParts p 117 := ⟨_, _, _, _, _, _, _, _, _, _, _, _, _, _, _, by walk_at "m:parts"⟩
noncomputable def s_least (d : Spot × (Nat × Nat × Nat × Addr) × (Tok × Tok × Tok × Nat)) : Prop := ∀ (hi9 : (d.2.1.1) < 128) (hj9 : (d.2.1.2.1) < 128) (hk9 : (d.2.1.2.2.1) < 128) (hl : ((d.2.1.2.2.2), listOf [.int ((d.2.1.1) : Int) (d.2.2.1), .int ((d.2.1.2.1) : Int) (d.2.2.2.1), .int ((d.2.1.2.2.1) : Int) (d.2.2.2.2.1)].toArray (d.2.2.2.2.2)) ∈ (d.1.news)), InBody 15 117 leastP ([(Str.ofString "three", .ref (d.2.1.2.2.2))]) ((d.1.news)) (fun add r => add = [] ∧ ∃ t, r = .int (min (min (d.2.1.1) (d.2.1.2.1)) (d.2.1.2.2.1) : Nat) t) d.1
@[irreducible] noncomputable def k_least : Spot × (Nat × Nat × Nat × Addr) × (Tok × Tok × Tok × Nat) := pick (by haveI := ne_Spot; exact inferInstance) s_least
theorem least_c : s_least k_least := by
  delta s_least
  intro hi9 hj9 hk9 hl
  unfold InBody
  intro B FG X₀ F X N T hd hu hret
  walk_at "m:begin"
  dsimp only [leastP]
  (try k_unmd)
  k_fold
  k_with "x:call ref" => ((with_reducible show wpAny _ _ (call (Value.ref 21) _) _ _ _); simp only [qf_norm] at *; k_dflt (refine' gives_use (hls (k_least.1.w) (k_least.2.1.1) (k_least.2.1.2.1) (k_least.2.1.2.2.1)) ?zzk1 ?zzk2 ?zzk3 ?zzk4 ?zzk5 ?zzk6 ?zzk7 ?zzk8 ?zzk9 ?_; (case zzk7 => exact ⟨hi9, hj9, hk9, _, _, _, rfl⟩); walk_at "m:give"); intro r9 add9 h9 tk9 F9 N9 lt9 out9; refine Mine.by_op fun P9 bk9 => ?_; obtain ⟨D9, hh9, ss9, u1, u2, u3, nn9, hr9, ha9⟩ := out9; refine bk9 ?_; clear bk9 P9; subst hr9; subst ha9; simp only [List.singleton_append] at N9; (try dsimp only); (try k_fold))
  k_with "x:call ref" => ((with_reducible show wpAny _ _ (call (Value.ref 110) _) _ _ _); k_dflt (refine' gives_use (most (k_least.1.w) (k_least.2.1.1) (k_least.2.1.2.1) (k_least.2.1.2.2.1)) ?zzk1 ?zzk2 ?zzk3 ?zzk4 ?zzk5 ?zzk6 ?zzk7 ?zzk8 ?zzk9 ?_; walk_at "m:give"; (case zzk7 => exact ⟨Nat.lt_trans hi9 (by decide), Nat.lt_trans hj9 (by decide), Nat.lt_trans hk9 (by decide), _, _, _, _, _, rfl, List.Mem.tail _ hl⟩)); refine Mine.ret_nil ?_; intro u9 h9 tk9 F9 N9; (try dsimp only); (try k_fold))
  k_steps
  all_goals (have q9 := light_at hi9 hj9 hk9)
  all_goals (first
    | (exfalso; exact fin_nan q9.2 (by assumption))
    | (exfalso; exact fin_inf q9.2 (by assumption))
    | (rw [q9.1]; rw [show ((max (max (k_least.2.1.1) (k_least.2.1.2.1)) (k_least.2.1.2.2.1) + min (min (k_least.2.1.1) (k_least.2.1.2.1)) (k_least.2.1.2.2.1) : Nat) : Int) - ((max (max (k_least.2.1.1) (k_least.2.1.2.1)) (k_least.2.1.2.2.1) : Nat) : Int) = (min (min (k_least.2.1.1) (k_least.2.1.2.1)) (k_least.2.1.2.2.1) : Nat) by omega]; refine hret _ [] _ _ (by assumption) (news_sub (by assumption) fun p hp => List.Mem.tail _ hp) none_lt ⟨rfl, _, rfl⟩)
    | trace_state)
theorem least (w : World) (i j k : Nat) : Gives w 15 117 (fun news vs => i < 128 ∧ j < 128 ∧ k < 128 ∧ ∃ l t1 t2 t3 n, vs = [.ref l] ∧ (l, listOf [.int (i : Int) t1, .int (j : Int) t2, .int (k : Int) t3].toArray n) ∈ news) (fun _ add r => add = [] ∧ ∃ t, r = .int (min (min i j) k : Nat) t) := by
  w_on
  unfold Gives
  k_fill
  intro mean mg mb dp un gd cn cs aa ccd cl outer A₀ base h₀ L m news s vs Q E B F X N T₀ hk hR hd hu hret
  refine Mine.by_op fun P9 bk9 => ?_
  obtain ⟨hi9, hj9, hk9, l, t1, t2, t3, n, rfl, hl⟩ := hR
  refine bk9 ?_; clear bk9 P9
  refine wpAny_call ?_
  k_dflt ktr_enter
  rename_i g' L' h' FG' F' N' B' X' T'
  exact in_body (pick_all k_least.eq_1 least_c (⟨w, mean, mg, mb, dp, un, gd, cn, cs, aa, ccd, cl, outer, base, h₀, L, m, news, s, Q, E, g', L', h', _⟩, (i, j, k, l), (t1, t2, t3, n)) hi9 hj9 hk9 hl) B' FG' X F' X' N' T' hd hu hret rfl
end
-- E4
section
/-- the n values are the ints f, between nought and b -/
noncomputable def IntsZ (vals : List Value) (n : Nat) (b : Int) (f : Nat → Int) : Prop := vals.length = n ∧ ∀ i, i < n → 0 ≤ f i ∧ f i ≤ b ∧ ∃ t, vals[i]? = some (.int (f i) t)
theorem sub_z {prog : Program} {w : World} {A : Around} {E : Value → Shared → Prop} {s : Shared} {h₀ : Heap} {L l : Addr} {value slice : Expr} {news : List (Addr × Obj)} {vals : List Value} {n c : Nat} {b : Int} {f : Nat → Int} {k : Int} {j : Nat} {u : Tok} {Q : Value → Shared → Prop} (hv : IntsZ vals n b f) (N : News h₀ L s.heap news) (hm : (l, listOf vals.toArray c) ∈ news)
    (hj : (j : Int) = k) (hk : j < n) (hn : n ≤ 1000) (h : ∀ z t, z = f j → 0 ≤ z → z ≤ b → Q (.int z t) s)
    (hs : subscripted slice false (.ref l) (.int k u) = operate [.ref l, .int k u] (getItem (.ref l) (.int k u)) := by with_unfolding_all rfl) :
    wpAny (model prog w) A (subscriptTail value slice (.ref l) (.int k u)) Q E s := by
  obtain ⟨h1, h2, t, ht⟩ := hv.2 j hk
  exact sub_listN N hm (by omega) (by omega) (by rw [← hj, Int.toNat_natCast]; exact ht) (h _ t rfl h1 h2) hs
theorem idx_add {a b : Nat} {x y : Int} (h : (a : Int) = x) (k : (b : Int) = y) : ((a + b : Nat) : Int) = x + y := by omega
theorem idx_mul {a b : Nat} {x y : Int} (h : (a : Int) = x) (k : (b : Int) = y) : ((a * b : Nat) : Int) = x * y := by rw [← h, ← k, Int.natCast_mul]
theorem IntsZ.snoc {vals : List Value} {n : Nat} {b : Int} {f : Nat → Int} {z : Int} {t : Tok} (h : IntsZ vals n b f) (h0 : 0 ≤ z) (h1 : z ≤ b) (e : z = f n) : IntsZ (vals ++ [.int z t]) (n + 1) b f := by
  refine ⟨by rw [List.length_append, h.1]; rfl, fun i hi => ?_⟩
  by_cases hlt : i < n
  · obtain ⟨a, c, t', ht⟩ := h.2 i hlt
    exact ⟨a, c, t', by rw [List.getElem?_append_left (by rw [h.1]; exact hlt)]; exact ht⟩
  · obtain rfl : i = n := by omega
    exact ⟨e ▸ h0, e ▸ h1, t, by rw [List.getElem?_append_right (by rw [h.1]; exact Nat.le_refl _), h.1, Nat.sub_self, ← e]; rfl⟩
theorem IntsZ.nil {b : Int} {f : Nat → Int} : IntsZ [] 0 b f := ⟨rfl, fun _ h => absurd h (Nat.not_lt_zero _)⟩
theorem IntsZ.size {vals : List Value} {n : Nat} {b : Int} {f : Nat → Int} (h : IntsZ vals n b f) (hn : n ≤ 1000) : (List.toArray vals).size ≤ sizeLine := by
  rw [List.size_toArray, h.1]; exact Nat.le_trans hn (by decide)
theorem off1_of {I : Addr} : ∀ {l : List (Addr × Obj)}, (∀ p ∈ l, p.1 ≠ I) → LCg.Off1 I l
  | [], _ => trivial
  | p :: _, h => ⟨h p (.head _), off1_of fun q hq => h q (.tail _ hq)⟩
theorem off1_mem {I : Addr} : ∀ {l : List (Addr × Obj)}, LCg.Off1 I l → ∀ p ∈ l, p.1 ≠ I
  | [], _, _, h => nomatch h
  | _ :: _, x, p, h => by
    rcases List.mem_cons.mp h with rfl | h
    · exact x.1
    · exact off1_mem x.2 p h
noncomputable def Low (L : Addr) (l : List (Addr × Obj)) : Prop := ∀ p ∈ l, p.1 < L
theorem low_mem {L : Addr} {l : List (Addr × Obj)} (h : Low L l) : ∀ p ∈ l, p.1 < L := h
theorem mostI (w : World) (a b c : Int) : Gives w 10 110 (fun news vs => 0 ≤ a ∧ 0 ≤ b ∧ 0 ≤ c ∧ a < 600 ∧ b < 600 ∧ c < 600 ∧ ∃ l t1 t2 t3 n, vs = [.ref l] ∧ (l, listOf [.int a t1, .int b t2, .int c t3].toArray n) ∈ news) (fun _ add r => add = [] ∧ ∃ t, r = .int (max (max a b) c) t) := by
  unfold Gives
  intro mean mg mb dp un gd cn cs ad ccd cl outer A₀ base h₀ L m news s vs Q E B F X N T hk hR hd hu hret
  obtain ⟨ha, hb, hc, ha', hb', hc', l, t1, t2, t3, n, rfl, hl⟩ := hR
  obtain ⟨x, rfl⟩ := Int.eq_ofNat_of_zero_le ha
  obtain ⟨y, rfl⟩ := Int.eq_ofNat_of_zero_le hb
  obtain ⟨z, rfl⟩ := Int.eq_ofNat_of_zero_le hc
  refine gives_use (most w x y z) B F X N T hk ⟨by omega, by omega, by omega, l, t1, t2, t3, n, rfl, hl⟩ hd hu ?_
  rintro r add h' tk' F' N' lt ⟨rfl, t, rfl⟩
  exact hret _ [] _ _ F' N' lt ⟨rfl, t, by congr 1; omega⟩
theorem leastI (w : World) (a b c : Int) : Gives w 15 117 (fun news vs => 0 ≤ a ∧ 0 ≤ b ∧ 0 ≤ c ∧ a < 128 ∧ b < 128 ∧ c < 128 ∧ ∃ l t1 t2 t3 n, vs = [.ref l] ∧ (l, listOf [.int a t1, .int b t2, .int c t3].toArray n) ∈ news) (fun _ add r => add = [] ∧ ∃ t, r = .int (min (min a b) c) t) := by
  unfold Gives
  intro mean mg mb dp un gd cn cs ad ccd cl outer A₀ base h₀ L m news s vs Q E B F X N T hk hR hd hu hret
  obtain ⟨ha, hb, hc, ha', hb', hc', l, t1, t2, t3, n, rfl, hl⟩ := hR
  obtain ⟨x, rfl⟩ := Int.eq_ofNat_of_zero_le ha
  obtain ⟨y, rfl⟩ := Int.eq_ofNat_of_zero_le hb
  obtain ⟨z, rfl⟩ := Int.eq_ofNat_of_zero_le hc
  refine gives_use (least w x y z) B F X N T hk ⟨by omega, by omega, by omega, l, t1, t2, t3, n, rfl, hl⟩ hd hu ?_
  rintro r add h' tk' F' N' lt ⟨rfl, t, rfl⟩
  exact hret _ [] _ _ F' N' lt ⟨rfl, t, by congr 1; clear hret; omega⟩
end
-- D1
section
theorem setup_D1 : True := by
  k_with_none
  k_with "x:execs cons" => (refine Mine.any_tk ?_; (try clear qtk); intro qtk; (with_reducible refine wpAny_execs_cons ?_); (try dsimp only))
  k_with "x:m:mem" => (first | assumption | exact List.Mem.head _ | (refine List.Mem.tail _ ?_; walk_at "m:mem"))
  k_with "x:m:give" => ((
  (case zzk1 => k_asm); (case zzk2 => k_asm); (case zzk3 => k_asm); (case zzk4 => k_asm); (case zzk5 => k_asm); (case zzk6 => first | exact rfl | assumption); (case zzk8 => ktr_room); (case zzk9 => ktr_units)))
  k_with "x:subscriptTail Name Constant ref int" => ((k_here; (with_reducible show wpAny _ _ (subscriptTail _ _ (Value.ref _) (Value.int _ _)) _ _ _); (with_unfolding_all refine' sub_listN ?zzk1 ?zzk2 ?zzk3 ?zzk4 ?zzk5 ?_ ?zzk6; (case zzk1 => k_asm); (case zzk2 => walk_at "m:mem"); (case zzk3 => decide); (case zzk4 => decide); (case zzk5 => rfl); (case zzk6 => with_unfolding_all rfl); k_whole)))
  trivial
noncomputable def nm (d : Nat) : Str := ⟨#[48 + d / 3, 48 + d % 3]⟩
theorem lname (w : World) (d : Nat) : Gives w 5 103 (fun _ vs => d < 9 ∧ ∃ t, vs = [.int (d : Int) t]) (fun _ add r => add = [] ∧ ∃ t, r = .str (nm d) t) := by
  w_on
  unfold Gives
  k_fill
  intro mean mg mb dp un gd cn cs a ccd cl outer A₀ base h₀ L m news s vs Q E B F X N T hk hR hd hu hret
  obtain ⟨hd9, t1, rfl⟩ := hR
  refine wpAny_call ?_
  k_dflt ktr_enter
  k_steps
  refine Eq.mp (congrArg (fun z => Q (Value.str z _) _) (?_ : nm d = _)) (hret (.str (nm d) _) [] _ _ (by assumption) (by assumption) none_lt ⟨rfl, _, rfl⟩)
  clear hret
  revert d
  refine all9 ?_ ?_ ?_ ?_ ?_ ?_ ?_ ?_ ?_ <;> (intros; decide +kernel)
end
-- D2
section
theorem setup_D2 : True := by
  k_with_none
  k_with "x:execs cons" => (refine Mine.any_tk ?_; (try clear qtk); intro qtk; (with_reducible refine wpAny_execs_cons ?_); (try dsimp only))
  k_with "x:m:mem" => (first | assumption | exact List.Mem.head _ | (refine List.Mem.tail _ ?_; walk_at "m:mem"))
  k_with "x:m:give" => ((
  (case zzk1 => k_asm); (case zzk2 => k_asm); (case zzk3 => k_asm); (case zzk4 => k_asm); (case zzk5 => k_asm); (case zzk6 => first | exact rfl | assumption); (case zzk8 => ktr_room); (case zzk9 => ktr_units)))
  k_with "x:subscriptTail Name Constant ref int" => ((k_here; (with_reducible show wpAny _ _ (subscriptTail _ _ (Value.ref _) (Value.int _ _)) _ _ _); (with_unfolding_all refine' sub_listN ?zzk1 ?zzk2 ?zzk3 ?zzk4 ?zzk5 ?_ ?zzk6; (case zzk1 => k_asm); (case zzk2 => walk_at "m:mem"); (case zzk3 => decide); (case zzk4 => decide); (case zzk5 => rfl); (case zzk6 => with_unfolding_all rfl); k_whole)))
  k_with "x:TurnPost" => ((dsimp only [TurnPost]))
  k_with "x:m:parts" => (w_on; (have qhz : PySem.Challenge.rw_zo0012_01 = PySem.Challenge.rw_zo0012_01 ∧ Mine.hd.heap_1 = Mine.hd.heap_1 := by (k_fill; exact ⟨rfl, rfl⟩)); clear qhz; refine Eq.trans rfl ?_; k_is)
  k_with "x:m:begin" => (w_on; (have qhz : PySem.Challenge.rw_zo0012_01 = PySem.Challenge.rw_zo0012_01 ∧ Mine.hd.heap_1 = Mine.hd.heap_1 := by (k_fill; exact ⟨rfl, rfl⟩)); clear qhz)
  trivial
noncomputable def cmpv (a u b k : Int) : Int := if a < b then 1 else if b < a then -1 else if u < k then -1 else if k < u then 1 else 0
/-- the comparer stands in the ledger: its object x -/
noncomputable def IsOrder (news : List (Addr × Obj)) (x : Addr) : Prop := ∃ dx sel p1 p2 hs t0 t1 t2 t3 t4 n1 n2 n3 n4, (x, instObj 52 dx) ∈ news ∧ (dx, dictOf [⟨hs, .str (Str.ofString "comp_select_list") t0, .ref sel⟩] n1) ∈ news ∧
  (sel, listOf [.ref p1, .ref p2].toArray n2) ∈ news ∧ (p1, tupObj [.int 0 t1, .int (-1) t2] n3) ∈ news ∧ (p2, tupObj [.int 1 t3, .int 1 t4] n4) ∈ news
noncomputable def cmprP (p : Params) : FnParts p 49 := ⟨_, _, _, _, _, _, _, _, _, _, _, _, _, _, _, by walk_at "m:parts"⟩
noncomputable def s_cmpr (d : Spot × (Int × Int × Int × Int) × (Addr × Addr × Addr × Addr) × (Addr × Addr × Addr × Tok) × (Tok × Tok × Tok × Tok) × (Tok × Tok × Tok × Tok) × (Nat × Nat × Nat × Nat) × (Nat × Nat × Int)) : Prop := InBody 5 49 cmprP ([(Str.ofString "right", .ref (d.2.2.1.2.2.1)), (Str.ofString "left", .ref (d.2.2.1.2.1)), (Str.ofString "self", .ref (d.2.2.1.1))]) (((d.2.2.1.1), instObj 52 (d.2.2.1.2.2.2)) :: ((d.2.2.1.2.2.2), dictOf [⟨(d.2.2.2.2.2.2.2.2.2), .str (Str.ofString "comp_select_list") (d.2.2.2.2.1.2.2.2), .ref (d.2.2.2.1.1)⟩] (d.2.2.2.2.2.2.1.2.2.1)) :: ((d.2.2.2.1.1), listOf [.ref (d.2.2.2.1.2.1), .ref (d.2.2.2.1.2.2.1)].toArray (d.2.2.2.2.2.2.1.2.2.2)) :: ((d.2.2.2.1.2.2.1), tupObj [.int 1 (d.2.2.2.2.2.1.2.2.1), .int 1 (d.2.2.2.2.2.1.2.2.2)] (d.2.2.2.2.2.2.2.2.1)) :: ((d.2.2.2.1.2.1), tupObj [.int 0 (d.2.2.2.2.2.1.1), .int (-1) (d.2.2.2.2.2.1.2.1)] (d.2.2.2.2.2.2.2.1)) :: ((d.2.2.1.2.2.1), tupObj [.int (d.2.1.2.2.1) (d.2.2.2.2.1.2.1), .int (d.2.1.2.2.2) (d.2.2.2.2.1.2.2.1)] (d.2.2.2.2.2.2.1.2.1)) :: ((d.2.2.1.2.1), tupObj [.int (d.2.1.1) (d.2.2.2.1.2.2.2), .int (d.2.1.2.1) (d.2.2.2.2.1.1)] (d.2.2.2.2.2.2.1.1)) :: (d.1.news)) (fun add rr => add = [] ∧ ∃ tt, rr = .int (cmpv (d.2.1.1) (d.2.1.2.1) (d.2.1.2.2.1) (d.2.1.2.2.2)) tt) d.1
@[irreducible] noncomputable def k_cmpr : Spot × (Int × Int × Int × Int) × (Addr × Addr × Addr × Addr) × (Addr × Addr × Addr × Tok) × (Tok × Tok × Tok × Tok) × (Tok × Tok × Tok × Tok) × (Nat × Nat × Nat × Nat) × (Nat × Nat × Int) := pick (by haveI := ne_Spot; exact inferInstance) s_cmpr
theorem cmpr_c : s_cmpr k_cmpr := by
  delta s_cmpr
  unfold InBody
  intro B FG X₀ F X N T hd hu hret
  walk_at "m:begin"
  dsimp only [cmprP]
  (try k_unmd)
  k_fold
  (with_reducible refine wpAny_execs_cons ?_)
  rename Fr _ _ _ _ => F0
  refine for_wordF F0 ?_ (fun _ => rfl) (by passes_own)
  k_steps
  rename Fr _ _ _ _ => F1
  rename News _ _ _ _ => N1
  refine iter_listC (fun i m' => m' (Str.ofString "left") = some (.ref (k_cmpr.2.2.1.2.1)) ∧ m' (Str.ofString "right") = some (.ref (k_cmpr.2.2.1.2.2.1)) ∧ (1 ≤ i → (k_cmpr.2.1.1) = (k_cmpr.2.1.2.2.1)) ∧ (2 ≤ i → (k_cmpr.2.1.2.1) = (k_cmpr.2.1.2.2.2))) F1 N1 (by walk_at "m:mem") (by rfl) ?_ ?_ ?_
  · exact ⟨rfl, rfl, fun h => absurd h (by decide), fun h => absurd h (by decide)⟩
  · intro i v m₁ h tk I oI hi hv qz99 F2 N2 off2
    refine Mine.by_op fun P9 bk9 => ?_
    obtain ⟨hm1, hm2, hw1, hw2⟩ := qz99
    refine bk9 ?_; clear bk9 P9
    replace F2 := Mine.Fr.know2 F2 hm1 hm2
    clear F1 N1
    match i, hi with
    | 0, _ =>
      cases hv
      k_steps
      all_goals first
        | (refine Mine.TurnEnd.intro _ (by assumption) (by assumption) (fun _ hp => hp) off2 ⟨rfl, rfl, rfl, fun _ => by omega, fun h => absurd h (by decide)⟩)
        | (refine Eq.mp (congrArg (fun zz => (k_cmpr.1.Q) (Value.int zz _) _) (?zze : cmpv (k_cmpr.2.1.1) (k_cmpr.2.1.2.1) (k_cmpr.2.1.2.2.1) (k_cmpr.2.1.2.2.2) = _)) (hret (.int (cmpv (k_cmpr.2.1.1) (k_cmpr.2.1.2.1) (k_cmpr.2.1.2.2.1) (k_cmpr.2.1.2.2.2)) _) [] _ _ (by assumption) (news_sub (by assumption) ?zzs) none_lt ⟨rfl, _, rfl⟩); (case zze => unfold cmpv; (repeat' split) <;> omega); (case zzs => intro p hp; walk_at "m:mem"))
    | 1, _ =>
      cases hv
      have hw1 := hw1 (Nat.le_refl _)
      k_steps
      all_goals first
        | (refine Mine.TurnEnd.intro _ (by assumption) (by assumption) (fun _ hp => hp) off2 ⟨rfl, rfl, rfl, fun _ => by omega, fun _ => by omega⟩)
        | (refine Eq.mp (congrArg (fun zz => (k_cmpr.1.Q) (Value.int zz _) _) (?zze : cmpv (k_cmpr.2.1.1) (k_cmpr.2.1.2.1) (k_cmpr.2.1.2.2.1) (k_cmpr.2.1.2.2.2) = _)) (hret (.int (cmpv (k_cmpr.2.1.1) (k_cmpr.2.1.2.1) (k_cmpr.2.1.2.2.1) (k_cmpr.2.1.2.2.2)) _) [] _ _ (by assumption) (news_sub (by assumption) ?zzs) none_lt ⟨rfl, _, rfl⟩); (case zze => unfold cmpv; (repeat' split) <;> omega); (case zzs => intro p hp; walk_at "m:mem"))
  · intro h' tk m' F2 N2 qz59
    refine Mine.by_op fun P9 bk9 => ?_
    obtain ⟨hm1, hm2, hw1, hw2⟩ := qz59
    refine bk9 ?_; clear bk9 P9
    have hw1 := hw1 (Nat.le_of_ble_eq_true rfl)
    have hw2 := hw2 (Nat.le_of_ble_eq_true rfl)
    clear F1 N1
    k_steps
    refine Eq.mp (congrArg (fun zz => (k_cmpr.1.Q) (Value.int zz _) _) (?zze : cmpv (k_cmpr.2.1.1) (k_cmpr.2.1.2.1) (k_cmpr.2.1.2.2.1) (k_cmpr.2.1.2.2.2) = _)) (hret (.int (cmpv (k_cmpr.2.1.1) (k_cmpr.2.1.2.1) (k_cmpr.2.1.2.2.1) (k_cmpr.2.1.2.2.2)) _) [] _ _ (by assumption) (news_sub (by assumption) ?zzs) none_lt ⟨rfl, _, rfl⟩)
    (case zze => unfold cmpv; (repeat' split) <;> omega)
    (case zzs => intro p hp; walk_at "m:mem")
theorem cmpr (w : World) (a u b k : Int) : Gives w 5 49 (fun news vs => ∃ x l r t1 t2 t3 t4 n1 n2, vs = [.ref x, .ref l, .ref r] ∧ IsOrder news x ∧ (l, tupObj [.int a t1, .int u t2] n1) ∈ news ∧ (r, tupObj [.int b t3, .int k t4] n2) ∈ news) (fun _ add r => add = [] ∧ ∃ t, r = .int (cmpv a u b k) t) := by
  w_on
  unfold Gives
  k_fill
  intro mean mg mb dp un gd cn cs aa ccd cl outer A₀ base h₀ L m news s vs Q E B F X N T₀ hk hR hd hu hret
  refine Mine.by_op fun P9 bk9 => ?_
  obtain ⟨x, l, r, t1, t2, t3, t4, n1, n2, rfl, ⟨dx, sel, p1, p2, hs, t0, u1, u2, u3, u4, m1, m2, m3, m4, hx, hdx, hsel, hp1, hp2⟩, hl, hr⟩ := hR
  refine bk9 ?_; clear bk9 P9
  replace N := news_dup (news_dup (news_dup (news_dup (news_dup (news_dup (news_dup N hl) (.tail _ hr)) (.tail _ (.tail _ hp1))) (.tail _ (.tail _ (.tail _ hp2)))) (.tail _ (.tail _ (.tail _ (.tail _ hsel))))) (.tail _ (.tail _ (.tail _ (.tail _ (.tail _ hdx)))))) (.tail _ (.tail _ (.tail _ (.tail _ (.tail _ (.tail _ hx))))))
  refine wpAny_call ?_
  k_dflt ktr_enter
  rename_i g' L' h' FG' F' N' B' X' T'
  exact in_body (pick_all k_cmpr.eq_1 cmpr_c (⟨w, mean, mg, mb, dp, un, gd, cn, cs, aa, ccd, cl, outer, base, h₀, L, m, news, s, Q, E, g', L', h', _⟩, (a, u, b, k), (x, l, r, dx), (sel, p1, p2, t1), (t2, t3, t4, t0), (u1, u2, u3, u4), (n1, n2, m1, m2), (m3, m4, hs))) B' FG' X F' X' N' T' hd hu hret rfl
end
-- D3
section
theorem setup_D3 : True := by
  k_with_none
  k_with "x:m:mem" => (first | assumption | exact List.Mem.head _ | (refine List.Mem.tail _ ?_; walk_at "m:mem"))
  k_with "x:m:give" => ((
  (case zzk1 => k_asm); (case zzk2 => k_asm); (case zzk3 => k_asm); (case zzk4 => k_asm); (case zzk5 => k_asm); (case zzk6 => first | exact rfl | assumption); (case zzk8 => ktr_room); (case zzk9 => ktr_units)))
  k_with "x:subscriptTail Name Constant ref int" => ((k_here; (with_reducible show wpAny _ _ (subscriptTail _ _ (Value.ref _) (Value.int _ _)) _ _ _); (with_unfolding_all refine' sub_listN ?zzk1 ?zzk2 ?zzk3 ?zzk4 ?zzk5 ?_ ?zzk6; (case zzk1 => k_asm); (case zzk2 => walk_at "m:mem"); (case zzk3 => decide); (case zzk4 => decide); (case zzk5 => rfl); (case zzk6 => with_unfolding_all rfl); k_whole)))
  k_with "x:m:parts" => (w_on; (have qhz : PySem.Challenge.rw_zo0012_01 = PySem.Challenge.rw_zo0012_01 ∧ Mine.hd.heap_1 = Mine.hd.heap_1 := by (k_fill; exact ⟨rfl, rfl⟩)); clear qhz; refine Eq.trans rfl ?_; k_is)
  k_with "x:m:begin" => (w_on; (have qhz : PySem.Challenge.rw_zo0012_01 = PySem.Challenge.rw_zo0012_01 ∧ Mine.hd.heap_1 = Mine.hd.heap_1 := by (k_fill; exact ⟨rfl, rfl⟩)); clear qhz)
  trivial
open PyProof.V
noncomputable def IsTab (w : World) (o : Obj) (c : List (Str × Int)) : Prop := ∃ kvs, o.IsDictOf (PySem.strKind PySem.Challenge.rw_zo0012_01.row.prog w) kvs ∧ FlatPairs PyData.str kvs (kdpD c)
noncomputable def bump (c : List (Str × Int)) (x : Str) (v : Int) : List (Str × Int) := kdpPut c x (kdpLook c x 0 + v)
theorem flat_at {kvs : List (Str × Value)} {c : List (Str × Int)} (h : FlatPairs PyData.str kvs (kdpD c)) {i : Nat} {k : Str} {v : Value} (e : kvs[i]? = some (k, v)) : ∃ n t, v = .int n t ∧ c[i]? = some (k, n) := by
  refine Mine.by_op fun P9 bk9 => ?_
  obtain ⟨dv, hD, hf⟩ := FlatPairs.at h e
  refine bk9 ?_; clear bk9 P9
  unfold kdpD at hD
  rw [List.getElem?_map] at hD
  cases hc : c[i]? with
  | none => rw [hc] at hD; cases hD
  | some p =>
    rw [hc] at hD
    obtain ⟨k', n⟩ := p
    simp only [Option.map_some, Option.some.injEq, Prod.mk.injEq] at hD
    obtain ⟨h1, h2⟩ := hD
    cases h1
    subst h2
    obtain ⟨t, rfl⟩ := Flat.int_inv hf
    exact ⟨n, t, rfl, rfl⟩
theorem flat_keys : ∀ {kvs : List (Str × Value)} {c : List (Str × Int)}, FlatPairs PyData.str kvs (kdpD c) → kvs.map (·.1) = c.map (·.1)
  | [], [], _ => rfl
  | [], _ :: _, h => by cases h
  | _ :: _, [], h => by cases h
  | (k, v) :: kvs, (k', n) :: c, h => by
    unfold kdpD at h
    rw [List.map_cons] at h
    cases h with
    | cons hf hr => rw [List.map_cons, List.map_cons, flat_keys hr]
theorem flat_len {kvs : List (Str × Value)} {c : List (Str × Int)} (h : FlatPairs PyData.str kvs (kdpD c)) : kvs.length = c.length := by
  have := congrArg List.length (flat_keys h)
  simpa using this
theorem put_take {c : List (Str × Int)} {i : Nat} {k : Str} {n : Int} (nd : (c.map (·.1)).Nodup) (e : c[i]? = some (k, n)) : kdpPut (c.take i) k n = c.take (i + 1) := by
  have hn : ¬ ((c.take i).any (fun p => decide (p.1 = k)) = true) := by
    intro h
    refine Mine.by_op fun P9 bk9 => ?_
    obtain ⟨p, hp, hk⟩ := List.any_eq_true.mp h
    refine bk9 ?_; clear bk9 P9
    have hk := of_decide_eq_true hk
    refine Mine.by_op fun P9 bk9 => ?_
    obtain ⟨j, hj, hjp⟩ := List.getElem_of_mem hp
    refine bk9 ?_; clear bk9 P9
    rw [List.length_take] at hj
    rw [List.getElem_take] at hjp
    have hi : i < c.length := (List.getElem?_eq_some_iff.mp e).1
    have e1 : (c.map (·.1))[j]? = some k := by rw [List.getElem?_map, List.getElem?_eq_getElem (by omega), hjp]; simp [hk]
    have e2 : (c.map (·.1))[i]? = some k := by rw [List.getElem?_map, e]; rfl
    have := (List.getElem?_inj (by simp; omega) nd).mp (e1.trans e2.symm)
    omega
  unfold kdpPut
  rw [if_neg hn, List.take_add_one, e]
  rfl
theorem look_none {c : List (Str × Int)} {x : Str} (h : kdpHas c x = false) : kdpLook c x 0 = 0 := by
  unfold kdpHas at h
  unfold kdpLook
  have : c.find? (fun p => decide (p.1 = x)) = none := by
    rw [List.find?_eq_none]
    intro p hp
    have := (List.any_eq_false.mp h) p hp
    simpa using this
  rw [this]; rfl
local macro_rules | `(tactic| k_all) => `(tactic| exact allLt_ne (by assumption))
noncomputable def addcP (p : Params) : FnParts p 70 := ⟨_, _, _, _, _, _, _, _, _, _, _, _, _, _, _, by walk_at "m:parts"⟩
noncomputable def s_addc (d : Spot × ((List (Str × Int)) × Str × Int × Addr) × (Addr × Obj × Obj × (List (Str × Value))) × ((List (Str × Value)))) : Prop := ∀ (hkt : (d.2.2.1.2.1).IsDictOf (PySem.strKind PySem.Challenge.rw_zo0012_01.row.prog (d.1.w)) (d.2.2.1.2.2.2)) (hft : FlatPairs PyData.str (d.2.2.1.2.2.2) (kdpD (d.2.1.1))) (hks : (d.2.2.1.2.2.1).IsDictOf (PySem.strKind PySem.Challenge.rw_zo0012_01.row.prog (d.1.w)) (d.2.2.2)) (hfs : FlatPairs PyData.str (d.2.2.2) (kdpD [((d.2.1.2.1), (d.2.1.2.2.1))])) (lot : ((d.2.1.2.2.2) == sysModules) = false) (los : ((d.2.2.1.1) == sysModules) = false) (hlen : (d.2.1.1).length ≤ 1000), InBody 5 70 addcP ([(Str.ofString "source", .ref (d.2.2.1.1)), (Str.ofString "target", .ref (d.2.1.2.2.2))]) (((d.2.2.1.1), (d.2.2.1.2.2.1)) :: ((d.2.1.2.2.2), (d.2.2.1.2.1)) :: (d.1.news)) (fun add r => ∃ D o, r = .ref D ∧ add = [(D, o)] ∧ IsTab (d.1.w) o (bump (d.2.1.1) (d.2.1.2.1) (d.2.1.2.2.1)) ∧ (D == sysModules) = false) d.1
@[irreducible] noncomputable def k_addc : Spot × ((List (Str × Int)) × Str × Int × Addr) × (Addr × Obj × Obj × (List (Str × Value))) × ((List (Str × Value))) := pick (by haveI := ne_Spot; exact inferInstance) s_addc
theorem addc_c : s_addc k_addc := by
  delta s_addc
  intro hkt hft hks hfs lot los hlen
  unfold InBody
  intro B FG X₀ F X N T hd hu hret
  walk_at "m:begin"
  dsimp only [addcP]
  (try k_unmd)
  k_fold
  have ndk : ((k_addc.2.1.1).map (·.1)).Nodup := flat_keys hft ▸ keysNodup_of_isDictOf hkt
  k_steps
  rename Fr _ _ _ _ => F0
  refine For_pairF F0 ?_ (fun _ => rfl)
  k_steps
  rename_i D h2 oD loD hsD fsD hiD fiD lD h3 N3 V h4 F4 N4 lV
  refine Mine.by_op fun P9 bk9 => ?_
  obtain ⟨lD1, lD2, lD3⟩ := lD
  refine bk9 ?_; clear bk9 P9
  refine Mine.by_op fun P9 bk9 => ?_
  obtain ⟨lV1, lV2, lV3, lV4⟩ := lV
  refine bk9 ?_; clear bk9 P9
  have tabD : IsTab (k_addc.1.w) oD [] := ⟨_, hsD, fsD⟩
  clear hsD fsD hiD fiD N3; (try clear N)
  refine iter_itemsW (od := (k_addc.2.2.1.2.1)) (kvs := (k_addc.2.2.1.2.2.2)) (d := (k_addc.2.1.2.2.2)) (fun i m' led' => ∃ o, led' = [(V, ({ cls := .type "dict_items", data := .fields #[.ref (k_addc.2.1.2.2.2)] } : Obj)), (D, o), ((k_addc.2.2.1.1), (k_addc.2.2.1.2.2.1)), ((k_addc.2.1.2.2.2), (k_addc.2.2.1.2.1))] ++ (k_addc.1.news) ∧ IsTab (k_addc.1.w) o ((k_addc.2.1.1).take i) ∧ m' (Str.ofString "new_callers") = some (.ref D) ∧ m' (Str.ofString "source") = some (.ref (k_addc.2.2.1.1))) F4 N4 (by walk_at "m:mem") (by walk_at "m:mem") hkt (by rfl) (by rfl) (by rfl) (by rfl) ⟨oD, rfl, tabD, rfl, rfl⟩ ?_ ?_ (by passes_own)
  · intro i k u key m₁ led₁ s₁ I own hkv hkey qz119 hd₁ F5 N5 off offown
    refine Mine.by_op fun P9 bk9 => ?_
    obtain ⟨o, rfl, ⟨ko, hko, hfo⟩, hm1, hm2⟩ := qz119
    refine bk9 ?_; clear bk9 P9
    refine Mine.by_op fun P9 bk9 => ?_
    obtain ⟨n, tn, rfl, hc⟩ := flat_at hft hkv
    refine bk9 ?_; clear bk9 P9
    obtain ⟨tkey, rfl⟩ := Value.isStrOf_shape hkey
    replace F5 := Mine.Fr.know2 F5 (x1 := Str.ofString "new_callers") (x2 := Str.ofString "source") (v1 := .ref D) (v2 := .ref (k_addc.2.2.1.1)) hm1 hm2
    clear F0 F4 N4
    have hlt : i < (k_addc.2.1.1).length := (List.getElem?_eq_some_iff.mp hc).1
    have hrest : ∀ p ∈ ((k_addc.2.2.1.1), (k_addc.2.2.1.2.2.1)) :: ((k_addc.2.1.2.2.2), (k_addc.2.2.1.2.1)) :: ((k_addc.1.news) ++ own), p.1 ≠ D := by
      intro p hp
      rcases List.mem_cons.mp hp with rfl | hp
      · exact Nat.ne_of_lt lD1
      · rcases List.mem_cons.mp hp with rfl | hp
        · exact Nat.ne_of_lt lD2
        · rcases List.mem_append.mp hp with hp | hp
          · exact allLt_ne lD3 p hp
          · exact offown D (off (D, o) (.tail _ (.head _))) (Nat.ne_of_gt lD2) p hp
    simp only [List.cons_append, List.nil_append] at N5
    k_steps
    refine kdp_setItem F5 N5 (UpdF.tail (Nat.ne_of_gt lV1) (UpdF.head hrest)) hko hfo (by rw [List.length_take]; omega) ?_
    intro h6 o6 kv6 F6 N6 hd6 hf6
    rw [put_take ndk hc] at hf6
    k_steps
    refine TurnOwn.intro ([(V, ({ cls := .type "dict_items", data := .fields #[.ref (k_addc.2.1.2.2.2)] } : Obj)), (D, o6), ((k_addc.2.2.1.1), (k_addc.2.2.1.2.2.1)), ((k_addc.2.1.2.2.2), (k_addc.2.2.1.2.1))] ++ (k_addc.1.news)) F6 N6 (fun p hp => by simpa only [List.cons_append, List.nil_append, List.append_assoc] using hp) ?_ ⟨by walk_at "m:mem", o6, rfl, ⟨_, hd6, hf6⟩, rfl, rfl⟩
    intro p hp
    rcases List.mem_cons.mp hp with rfl | hp
    · exact off _ (.head _)
    · rcases List.mem_cons.mp hp with rfl | hp
      · exact off (D, o) (.tail _ (.head _))
      · exact off p (.tail _ (.tail _ hp))
  · intro h5 tk5 m5 led5 F5 N5 hd5 qz79
    refine Mine.by_op fun P9 bk9 => ?_
    obtain ⟨o, rfl, ⟨ko, hko, hfo⟩, hm1, hm2⟩ := qz79
    refine bk9 ?_; clear bk9 P9
    rw [flat_len hft, List.take_length] at hfo
    replace F5 := Mine.Fr.know2 F5 (x1 := Str.ofString "new_callers") (x2 := Str.ofString "source") (v1 := .ref D) (v2 := .ref (k_addc.2.2.1.1)) hm1 hm2
    replace N5 : News k_addc.1.g k_addc.1.L h5 ((D, o) :: ((k_addc.2.2.1.1), (k_addc.2.2.1.2.2.1)) :: ((k_addc.2.1.2.2.2), (k_addc.2.2.1.2.1)) :: (k_addc.1.news)) := news_sub N5 fun p hp => .tail _ hp
    clear F0 F4 N4
    (try dsimp only)
    (with_reducible refine wpAny_execs_cons ?_)
    refine For_pairF F5 ?_ (fun _ => rfl)
    k_steps
    rename_i V2 h6 F6 N6 lV'
    refine Mine.by_op fun P9 bk9 => ?_
    obtain ⟨lW1, lW2, lW3, lW4⟩ := lV'
    refine bk9 ?_; clear bk9 P9
    refine iter_itemsW (od := (k_addc.2.2.1.2.2.1)) (kvs := (k_addc.2.2.2)) (d := (k_addc.2.2.1.1)) (fun i m' led' => ∃ o, led' = [(V2, ({ cls := .type "dict_items", data := .fields #[.ref (k_addc.2.2.1.1)] } : Obj)), (D, o), ((k_addc.2.2.1.1), (k_addc.2.2.1.2.2.1)), ((k_addc.2.1.2.2.2), (k_addc.2.2.1.2.1))] ++ (k_addc.1.news) ∧ IsTab (k_addc.1.w) o (if i = 0 then (k_addc.2.1.1) else bump (k_addc.2.1.1) (k_addc.2.1.2.1) (k_addc.2.1.2.2.1)) ∧ m' (Str.ofString "new_callers") = some (.ref D)) F6 N6 (by walk_at "m:mem") (by walk_at "m:mem") hks (by rfl) (by rfl) (by rfl) (by rfl) ⟨o, rfl, ⟨_, hko, hfo⟩, rfl⟩ ?_ ?_ (by passes_own)
    · intro i k u key m₁ led₁ s₁ I own hkv hkey qz119 hd₁ F7 N7 off offown
      refine Mine.by_op fun P9 bk9 => ?_
      obtain ⟨o, rfl, tabo, hm1⟩ := qz119
      refine bk9 ?_; clear bk9 P9
      refine Mine.by_op fun P9 bk9 => ?_
      obtain ⟨n, tn, rfl, hc⟩ := flat_at hfs hkv
      refine bk9 ?_; clear bk9 P9
      obtain ⟨tkey, rfl⟩ := Value.isStrOf_shape hkey
      have hi : i = 0 := by
        rcases i with _ | i
        · rfl
        · simp at hc
      subst hi
      cases hc
      rw [if_pos rfl] at tabo
      refine Mine.by_op fun P9 bk9 => ?_
      obtain ⟨ko, hko, hfo⟩ := tabo
      refine bk9 ?_; clear bk9 P9
      replace F7 := Mine.Fr.know F7 (x := Str.ofString "new_callers") (v := .ref D) hm1
      have hrest : ∀ p ∈ ((k_addc.2.2.1.1), (k_addc.2.2.1.2.2.1)) :: ((k_addc.2.1.2.2.2), (k_addc.2.2.1.2.1)) :: ((k_addc.1.news) ++ own), p.1 ≠ D := by
        intro p hp
        rcases List.mem_cons.mp hp with rfl | hp
        · exact Nat.ne_of_lt lD1
        · rcases List.mem_cons.mp hp with rfl | hp
          · exact Nat.ne_of_lt lD2
          · rcases List.mem_append.mp hp with hp | hp
            · exact allLt_ne lD3 p hp
            · exact offown D (off (D, o) (.tail _ (.head _))) (Nat.ne_of_gt lD1) p hp
      simp only [List.cons_append, List.nil_append] at N7
      clear F6 N6 F5 N5
      k_steps
      all_goals (rename Fr _ _ _ _ => F8; rename News _ _ _ _ => N8)
      all_goals (refine kdp_setItem F8 N8 (UpdF.tail (Nat.ne_of_gt lW1) (UpdF.head hrest)) (by assumption) (by assumption) (by omega) ?_; intro h9 o9 kv9 F9 N9 hd9 hf9; k_steps)
      all_goals (refine TurnOwn.intro ([(V2, ({ cls := .type "dict_items", data := .fields #[.ref (k_addc.2.2.1.1)] } : Obj)), (D, o9), ((k_addc.2.2.1.1), (k_addc.2.2.1.2.2.1)), ((k_addc.2.1.2.2.2), (k_addc.2.2.1.2.1))] ++ (k_addc.1.news)) F9 N9 (fun p hp => by simpa only [List.cons_append, List.nil_append, List.append_assoc] using hp) ?_ ⟨by walk_at "m:mem", o9, rfl, ?_, rfl⟩)
      all_goals first
        | (intro p hp
           rcases List.mem_cons.mp hp with rfl | hp
           · exact off _ (.head _)
           · rcases List.mem_cons.mp hp with rfl | hp
             · exact off (D, o) (.tail _ (.head _))
             · exact off p (.tail _ (.tail _ hp)))
        | (refine ⟨kv9, hd9, ?_⟩; rw [if_neg (by decide)]; exact hf9)
        | (refine ⟨kv9, hd9, ?_⟩; rw [if_neg (by decide)]; have hz : kdpLook (k_addc.2.1.1) (k_addc.2.1.2.1) 0 = 0 := look_none (by assumption); unfold bump; rw [hz, Int.zero_add]; exact hf9)
        | trace_state
    · intro h7 tk7 m7 led7 F7 N7 hd7 qz79
      refine Mine.by_op fun P9 bk9 => ?_
      obtain ⟨o, rfl, tabo, hm1⟩ := qz79
      refine bk9 ?_; clear bk9 P9
      rw [if_neg (by rw [flat_len hfs]; exact Nat.succ_ne_zero 0)] at tabo
      replace F7 := Mine.Fr.know F7 (x := Str.ofString "new_callers") (v := .ref D) hm1
      clear F6 N6 F5 N5
      k_steps
      refine hret _ [(D, o)] _ _ (by assumption) (news_sub (by assumption) ?_) ?_ ⟨D, o, rfl, rfl, tabo, loD⟩
      · intro p hp
        rcases List.mem_cons.mp hp with rfl | hp
        · walk_at "m:mem"
        · exact .tail _ (.tail _ (.tail _ (.tail _ hp)))
      · intro q hq p hp
        rw [List.mem_singleton.mp hp]
        exact allLt_mem lD3 q hq
theorem addc (w : World) (ct : List (Str × Int)) (x : Str) (v : Int) : Gives w 5 70 (fun news vs => ∃ t s ot os, vs = [.ref t, .ref s] ∧ (t, ot) ∈ news ∧ (s, os) ∈ news ∧ IsTab w ot ct ∧ IsTab w os [(x, v)] ∧ (t == sysModules) = false ∧ (s == sysModules) = false ∧ ct.length ≤ 1000) (fun _ add r => ∃ D o, r = .ref D ∧ add = [(D, o)] ∧ IsTab w o (bump ct x v) ∧ (D == sysModules) = false) := by
  w_on
  unfold Gives
  k_fill
  intro mean mg mb dp un gd cn cs aa ccd cl outer A₀ base h₀ L m news s vs Q E B F X N T₀ hk hR hd hu hret
  refine Mine.by_op fun P9 bk9 => ?_
  obtain ⟨t, sr, ot, os, rfl, ht, hs, ⟨kt, hkt, hft⟩, ⟨ks, hks, hfs⟩, lot, los, hlen⟩ := hR
  refine bk9 ?_; clear bk9 P9
  have ndk : (ct.map (·.1)).Nodup := flat_keys hft ▸ keysNodup_of_isDictOf hkt
  replace N := news_dup (news_dup N ht) (.tail _ hs)
  refine wpAny_call ?_
  k_dflt ktr_enter
  rename_i g' L' h' FG' F' N' B' X' T'
  exact in_body (pick_all k_addc.eq_1 addc_c (⟨w, mean, mg, mb, dp, un, gd, cn, cs, aa, ccd, cl, outer, base, h₀, L, m, news, s, Q, E, g', L', h', _⟩, (ct, x, v, t), (sr, ot, os, kt), (ks)) hkt hft hks hfs lot los hlen) B' FG' X F' X' N' T' hd hu hret rfl
end
-- D4
section
theorem setup_D4 : True := by
  k_with_none
  k_with "x:execs cons" => (refine Mine.any_tk ?_; (try clear qtk); intro qtk; (with_reducible refine wpAny_execs_cons ?_); (try dsimp only))
  k_with "x:m:mem" => (first | assumption | exact List.Mem.head _ | (refine List.Mem.tail _ ?_; walk_at "m:mem"))
  k_with "x:m:give" => ((
  (case zzk1 => k_asm); (case zzk2 => k_asm); (case zzk3 => k_asm); (case zzk4 => k_asm); (case zzk5 => k_asm); (case zzk6 => first | exact rfl | assumption); (case zzk8 => ktr_room); (case zzk9 => ktr_units)))
  k_with "x:subscriptTail Name Constant ref int" => ((k_here; (with_reducible show wpAny _ _ (subscriptTail _ _ (Value.ref _) (Value.int _ _)) _ _ _); (with_unfolding_all refine' sub_listN ?zzk1 ?zzk2 ?zzk3 ?zzk4 ?zzk5 ?_ ?zzk6; (case zzk1 => k_asm); (case zzk2 => walk_at "m:mem"); (case zzk3 => decide); (case zzk4 => decide); (case zzk5 => rfl); (case zzk6 => with_unfolding_all rfl); k_whole)))
  k_with "x:m:parts" => (w_on; (have qhz : PySem.Challenge.rw_zo0012_01 = PySem.Challenge.rw_zo0012_01 ∧ Mine.hd.heap_1 = Mine.hd.heap_1 := by (k_fill; exact ⟨rfl, rfl⟩)); clear qhz; refine Eq.trans rfl ?_; k_is)
  k_with "x:m:begin" => (w_on; (have qhz : PySem.Challenge.rw_zo0012_01 = PySem.Challenge.rw_zo0012_01 ∧ Mine.hd.heap_1 = Mine.hd.heap_1 := by (k_fill; exact ⟨rfl, rfl⟩)); clear qhz)
  trivial
set_option genSizeOf false in
set_option genInjectivity false in
/-- a row of a profile in the ledger: four ints and its callers -/
structure Stat where
  cc : Int
  nc : Int
  tt : Int
  ct : Int
  cs : List (Str × Int)
theorem ne_Stat : Nonempty Stat := ⟨⟨0, 0, 0, 0, []⟩⟩
noncomputable def IsStat (w : World) (news : List (Addr × Obj)) (a : Addr) (st : Stat) : Prop :=
  ∃ t1 t2 t3 t4 d n od, (a, tupObj [.int st.cc t1, .int st.nc t2, .int st.tt t3, .int st.ct t4, .ref d] n) ∈ news ∧ (d, od) ∈ news ∧ IsTab w od st.cs ∧ (d == sysModules) = false
noncomputable def afsP (p : Params) : FnParts p 63 := ⟨_, _, _, _, _, _, _, _, _, _, _, _, _, _, _, by walk_at "m:parts"⟩
noncomputable def s_afs (d : Spot × (Stat × Stat × Str × Int) × (Addr × Addr × Tok × Tok) × (Tok × Tok × Addr × Nat) × (Obj × Tok × Tok × Tok) × (Tok × Addr × Nat × Obj)) : Prop := ∀ (htab : IsTab (d.1.w) (d.2.2.2.2.1.1) (d.2.1.1).cs) (lod : ((d.2.2.2.1.2.2.1) == sysModules) = false) (htab2 : IsTab (d.1.w) (d.2.2.2.2.2.2.2.2) [((d.2.1.2.2.1), (d.2.1.2.2.2))]) (loe : ((d.2.2.2.2.2.2.1) == sysModules) = false) (hlen : (d.2.1.1).cs.length ≤ 1000) (hz : ∀ y ∈ [(d.2.1.1).cc, (d.2.1.1).nc, (d.2.1.1).tt, (d.2.1.1).ct, (d.2.1.2.1).cc, (d.2.1.2.1).nc, (d.2.1.2.1).tt, (d.2.1.2.1).ct], 0 ≤ y ∧ y ≤ 1000), InBody 10 63 afsP ([(Str.ofString "source", .ref (d.2.2.1.2.1)), (Str.ofString "target", .ref (d.2.2.1.1))]) (((d.2.2.2.2.2.2.1), (d.2.2.2.2.2.2.2.2)) :: ((d.2.2.1.2.1), tupObj [.int (d.2.1.2.1).cc (d.2.2.2.2.1.2.1), .int (d.2.1.2.1).nc (d.2.2.2.2.1.2.2.1), .int (d.2.1.2.1).tt (d.2.2.2.2.1.2.2.2), .int (d.2.1.2.1).ct (d.2.2.2.2.2.1), .ref (d.2.2.2.2.2.2.1)] (d.2.2.2.2.2.2.2.1)) :: ((d.2.2.2.1.2.2.1), (d.2.2.2.2.1.1)) :: ((d.2.2.1.1), tupObj [.int (d.2.1.1).cc (d.2.2.1.2.2.1), .int (d.2.1.1).nc (d.2.2.1.2.2.2), .int (d.2.1.1).tt (d.2.2.2.1.1), .int (d.2.1.1).ct (d.2.2.2.1.2.1), .ref (d.2.2.2.1.2.2.1)] (d.2.2.2.1.2.2.2)) :: (d.1.news)) (fun add r => ∃ R, r = .ref R ∧ IsStat (d.1.w) add R ⟨(d.2.1.2.1).cc + (d.2.1.1).cc, (d.2.1.2.1).nc + (d.2.1.1).nc, (d.2.1.2.1).tt + (d.2.1.1).tt, (d.2.1.2.1).ct + (d.2.1.1).ct, bump (d.2.1.1).cs (d.2.1.2.2.1) (d.2.1.2.2.2)⟩ ∧ add.length = 2) d.1
@[irreducible] noncomputable def k_afs : Spot × (Stat × Stat × Str × Int) × (Addr × Addr × Tok × Tok) × (Tok × Tok × Addr × Nat) × (Obj × Tok × Tok × Tok) × (Tok × Addr × Nat × Obj) := pick (by haveI := ne_Spot; haveI := ne_Stat; exact inferInstance) s_afs
theorem afs_c : s_afs k_afs := by
  delta s_afs
  intro htab lod htab2 loe hlen hz
  unfold InBody
  intro B FG X₀ F X N T hd hu hret
  walk_at "m:begin"
  dsimp only [afsP]
  (try k_unmd)
  k_fold
  k_with "x:call ref" => ((with_reducible show wpAny _ _ (call (Value.ref 70) _) _ _ _); k_dflt (refine' gives_use (addc (k_afs.1.w) (k_afs.2.1.1).cs (k_afs.2.1.2.2.1) (k_afs.2.1.2.2.2)) ?zzk1 ?zzk2 ?zzk3 ?zzk4 ?zzk5 ?zzk6 ?zzk7 ?zzk8 ?zzk9 ?_; walk_at "m:give"; (case zzk7 => exact ⟨_, _, _, _, rfl, .tail _ (.tail _ (.head _)), .head _, htab, htab2, lod, loe, hlen⟩)); intro r9 add9 h9 tk9 F9 N9 lt9 out9; refine Mine.by_op fun P9 bk9 => ?_; obtain ⟨D9, o9, hr9, ha9, htab9, lo9⟩ := out9; refine bk9 ?_; clear bk9 P9; subst hr9; subst ha9; simp only [List.singleton_append] at N9; (try dsimp only); (try k_fold))
  k_steps
  rename_i R9 h10 F10 N10 lR kF kN kX
  refine' hret _ [(R9, tupObj [.int ((k_afs.2.1.2.1).cc + (k_afs.2.1.1).cc) _, .int ((k_afs.2.1.2.1).nc + (k_afs.2.1.1).nc) _, .int ((k_afs.2.1.2.1).tt + (k_afs.2.1.1).tt) _, .int ((k_afs.2.1.2.1).ct + (k_afs.2.1.1).ct) _, .ref D9] _), (D9, o9)] _ _ kF (news_sub kN ?zzs) ?zzl ⟨R9, rfl, ⟨_, _, _, _, D9, _, o9, List.Mem.head _, List.Mem.tail _ (List.Mem.head _), htab9, lo9⟩, rfl⟩
  case zzs =>
    intro p hp
    rcases List.mem_cons.mp hp with hp | hp
    · rw [hp]; exact List.Mem.head _
    · rcases List.mem_cons.mp hp with hp | hp
      · rw [hp]; exact .tail _ (.head _)
      · exact .tail _ (.tail _ (.tail _ (.tail _ (.tail _ (.tail _ hp)))))
  case zzl =>
    intro q hq p hp
    have h1 : q.1 < D9 := lt9 q (.tail _ (.tail _ (.tail _ (.tail _ hq)))) (D9, o9) (.head _)
    rcases List.mem_cons.mp hp with hp | hp
    · rw [hp]; exact Nat.lt_trans h1 lR.1
    · rw [List.mem_singleton.mp hp]; exact h1
theorem afs (w : World) (T S : Stat) (x : Str) (v : Int) : Gives w 10 63 (fun news vs => ∃ a b, vs = [.ref a, .ref b] ∧ IsStat w news a T ∧ IsStat w news b S ∧ S.cs = [(x, v)] ∧ T.cs.length ≤ 1000 ∧ (∀ z ∈ [T.cc, T.nc, T.tt, T.ct, S.cc, S.nc, S.tt, S.ct], 0 ≤ z ∧ z ≤ 1000)) (fun _ add r => ∃ R, r = .ref R ∧ IsStat w add R ⟨S.cc + T.cc, S.nc + T.nc, S.tt + T.tt, S.ct + T.ct, bump T.cs x v⟩ ∧ add.length = 2) := by
  w_on
  unfold Gives
  k_fill
  intro mean mg mb dp un gd cn cs aa ccd cl outer A₀ base h₀ L m news s vs Q E B F X N T₀ hk hR hd hu hret
  refine Mine.by_op fun P9 bk9 => ?_
  obtain ⟨a, b, rfl, ⟨t1, t2, t3, t4, d, n, od, ha, hd1, htab, lod⟩, ⟨u1, u2, u3, u4, e, n', oe, hb, he, htab2, loe⟩, hS, hlen, hz⟩ := hR
  refine bk9 ?_; clear bk9 P9
  rw [hS] at htab2
  replace N := news_dup (news_dup (news_dup (news_dup N ha) (.tail _ hd1)) (.tail _ (.tail _ hb))) (.tail _ (.tail _ (.tail _ he)))
  refine wpAny_call ?_
  k_dflt ktr_enter
  rename_i g' L' h' FG' F' N' B' X' T'
  exact in_body (pick_all k_afs.eq_1 afs_c (⟨w, mean, mg, mb, dp, un, gd, cn, cs, aa, ccd, cl, outer, base, h₀, L, m, news, s, Q, E, g', L', h', _⟩, (T, S, x, v), (a, b, t1, t2), (t3, t4, d, n), (od, u1, u2, u3), (u4, e, n', oe)) htab lod htab2 loe hlen hz) B' FG' X F' X' N' T' hd hu hret rfl
end
-- D6
section
theorem setup_D6 : True := by
  k_with_none
  k_with "x:m:mem" => (first | assumption | exact List.Mem.head _ | (refine List.Mem.tail _ ?_; walk_at "m:mem"))
  k_with "x:m:give" => ((
  (case zzk1 => k_asm); (case zzk2 => k_asm); (case zzk3 => k_asm); (case zzk4 => k_asm); (case zzk5 => k_asm); (case zzk6 => first | exact rfl | assumption); (case zzk8 => ktr_room); (case zzk9 => ktr_units)))
  k_with "x:subscriptTail Name Constant ref int" => ((k_here; (with_reducible show wpAny _ _ (subscriptTail _ _ (Value.ref _) (Value.int _ _)) _ _ _); (with_unfolding_all refine' sub_listN ?zzk1 ?zzk2 ?zzk3 ?zzk4 ?zzk5 ?_ ?zzk6; (case zzk1 => k_asm); (case zzk2 => walk_at "m:mem"); (case zzk3 => decide); (case zzk4 => decide); (case zzk5 => rfl); (case zzk6 => with_unfolding_all rfl); k_whole)))
  k_with "x:execs cons" => (((with_reducible refine wpAny_execs_cons ?_); try dsimp only))
  k_with "x:execs nil" => (refine wpAny_execs_nil ?_)
  k_with "x:m:same" => (first | exact .inl rfl | exact .inr (.inl rfl) | exact .inr (.inr (.inl rfl)) | exact .inr (.inr (.inr rfl)))
  k_with "x:exec Assign" => ((exfalso; first | exact esc_amp (by assumption) (by assumption) | (refine esc_t (by assumption) ?_ (by assumption); walk_at "m:same") | (refine esc_n (by assumption) ?_ (by assumption); walk_at "m:same") | (refine esc_r (by assumption) ?_ (by assumption); walk_at "m:same")))
  k_with "x:call builtin:str.replace" => ((refine Mine.replaceT (by omega) (by omega) (by omega) (by decide) (by assumption) (by decide) ?_; intro _ _ _; dsimp only at *))
  k_with "x:m:parts" => (w_on; (have qhz : PySem.Challenge.rw_zo0012_01 = PySem.Challenge.rw_zo0012_01 ∧ Mine.hd.heap_1 = Mine.hd.heap_1 := by (k_fill; exact ⟨rfl, rfl⟩)); clear qhz; refine Eq.trans rfl ?_; k_is)
  k_with "x:m:begin" => (w_on; (have qhz : PySem.Challenge.rw_zo0012_01 = PySem.Challenge.rw_zo0012_01 ∧ Mine.hd.heap_1 = Mine.hd.heap_1 := by (k_fill; exact ⟨rfl, rfl⟩)); clear qhz)
  trivial
noncomputable def escP (p : Params) : FnParts p 91 := ⟨_, _, _, _, _, _, _, _, _, _, _, _, _, _, _, by walk_at "m:parts"⟩
noncomputable def s_esc (d : Spot × (Str × Tok)) : Prop := ∀ (hpl : Plain (d.2.1)) (htk : 0 < d.1.tk), InBody 5 91 escP ([(Str.ofString "text", .str (d.2.1) (d.2.2))]) ((d.1.news)) (fun add r => add = [] ∧ ∃ tt, r = .str (escS (d.2.1)) tt) d.1
@[irreducible] noncomputable def k_esc : Spot × (Str × Tok) := pick (by haveI := ne_Spot; exact inferInstance) s_esc
theorem esc_c : s_esc k_esc := by
  delta s_esc
  intro hpl htk
  unfold InBody
  intro B FG X₀ F X N T hd hu hret
  walk_at "m:begin"
  dsimp only [escP]
  (try k_unmd)
  k_fold
  have hl1 := (esc_len hpl).1
  have hl2 := (esc_len hpl).2
  k_steps
  all_goals (refine hret _ [] _ _ (by assumption) (by assumption) (fun _ _ _ h => nomatch h) ⟨rfl, ?_⟩)
  all_goals first
    | exact ⟨_, by rw [esc_end0 (by assumption) (by assumption)]⟩
    | exact ⟨_, by rw [esc_end1 (by assumption)]⟩
    | exact ⟨_, by rw [esc_end2 (by assumption)]⟩
    | exact ⟨_, by rw [esc_end3]⟩
theorem esc (w : World) (x : Str) : GivesT w 5 91 (fun news vs => Plain x ∧ ∃ t, vs = [.str x t]) (fun _ add r => add = [] ∧ ∃ t, r = .str (escS x) t) := by
  w_on
  unfold GivesT
  k_fill
  intro mean mg mb dp un gd cn cs aa ccd cl outer A₀ base h₀ L m news s vs Q E htk B F X N T₀ hk hR hd hu hret
  refine Mine.by_op fun P9 bk9 => ?_
  obtain ⟨hpl, t, rfl⟩ := hR
  refine bk9 ?_; clear bk9 P9
  have hl1 := (esc_len hpl).1
  have hl2 := (esc_len hpl).2
  refine wpAny_call ?_
  k_dflt ktr_enter
  rename_i g' L' h' FG' F' N' B' X' T'
  exact in_body (pick_all k_esc.eq_1 esc_c (⟨w, mean, mg, mb, dp, un, gd, cn, cs, aa, ccd, cl, outer, base, h₀, L, m, news, s, Q, E, g', L', h', _⟩, (x, t)) hpl (Nat.lt_of_lt_of_le htk (Nat.le_add_right _ _))) B' FG' X F' X' N' T' hd hu hret rfl
end
-- E1
section
theorem setup_E1 : True := by
  k_with_none
  k_with "x:execs cons" => (refine Mine.any_tk ?_; (try clear qtk); intro qtk; (with_reducible refine wpAny_execs_cons ?_); (try dsimp only))
  k_with "x:m:mem" => (first | assumption | exact List.Mem.head _ | (refine List.Mem.tail _ ?_; walk_at "m:mem"))
  k_with "x:m:give" => ((
  (case zzk1 => k_asm); (case zzk2 => k_asm); (case zzk3 => k_asm); (case zzk4 => k_asm); (case zzk5 => k_asm); (case zzk6 => first | exact rfl | assumption); (case zzk8 => ktr_room); (case zzk9 => ktr_units)))
  k_with "x:subscriptTail Name Constant ref int" => ((k_here; (with_reducible show wpAny _ _ (subscriptTail _ _ (Value.ref _) (Value.int _ _)) _ _ _); (with_unfolding_all refine' sub_listN ?zzk1 ?zzk2 ?zzk3 ?zzk4 ?zzk5 ?_ ?zzk6; (case zzk1 => k_asm); (case zzk2 => walk_at "m:mem"); (case zzk3 => decide); (case zzk4 => decide); (case zzk5 => rfl); (case zzk6 => with_unfolding_all rfl); k_whole)))
  k_with "x:call builtin:list.extend" => (((dsimp only [List.cons_append, List.nil_append]); k_dflt (refine' kl_extend ?zzF ?zzN ?zzb ?zze ?zzne ?zzU ?zzd ?zzz ?zzy ?_; (case zzF => k_asm); (case zzN => k_asm); (case zzb => k_mem); (case zzU => k_upd); (case zze => kl_lit); (case zzne => kl_some); (case zzd => kl_no); (case zzz => kl_room); (case zzy => kl_room)); kl_rest))
  k_with "x:m:parts" => (w_on; (have qhz : PySem.Challenge.rw_zo0012_01 = PySem.Challenge.rw_zo0012_01 ∧ Mine.hd.heap_1 = Mine.hd.heap_1 := by (k_fill; exact ⟨rfl, rfl⟩)); clear qhz; refine Eq.trans rfl ?_; k_is)
  k_with "x:m:begin" => (w_on; (have qhz : PySem.Challenge.rw_zo0012_01 = PySem.Challenge.rw_zo0012_01 ∧ Mine.hd.heap_1 = Mine.hd.heap_1 := by (k_fill; exact ⟨rfl, rfl⟩)); clear qhz)
  trivial
noncomputable def ring8 (μ0 μ1 μ2 μ3 μ4 μ5 μ6 μ7 μ8 : Nat) : Nat := max (max (max (max (max (max (max (6 * μ0) (6 * μ4)) (6 * μ8)) (3 * (μ1 + μ3))) (3 * (μ2 + μ6))) (3 * (μ5 + μ7))) (2 * (μ1 + μ5 + μ6))) (2 * (μ2 + μ7 + μ3))
theorem ring8_of {M : Int} {a b c d e f g h : Nat} (hs : M = (a : Int) ∨ M = b ∨ M = c ∨ M = d ∨ M = e ∨ M = f ∨ M = g ∨ M = h) (hl : (a : Int) ≤ M ∧ (b : Int) ≤ M ∧ (c : Int) ≤ M ∧ (d : Int) ≤ M ∧ (e : Int) ≤ M ∧ (f : Int) ≤ M ∧ (g : Int) ≤ M ∧ (h : Int) ≤ M) :
    M = ((max (max (max (max (max (max (max a b) c) d) e) f) g) h : Nat) : Int) := by
  refine Mine.by_op fun P9 bk9 => ?_
  obtain ⟨la, lb, lc, ld, le, lf, lg, lh⟩ := hl
  refine bk9 ?_; clear bk9 P9
  refine Mine.by_op fun P9 bk9 => ?_
  obtain ⟨q1, q2, q3, q4, q5, q6, q7, q8⟩ := max8_all a b c d e f g h
  refine bk9 ?_; clear bk9 P9
  obtain ⟨n, rfl⟩ : ∃ n : Nat, M = n := by
    rcases hs with q | q | q | q | q | q | q | q <;> exact ⟨_, q⟩
  refine congrArg Int.ofNat (Nat.le_antisymm ?_ (max8_le (Int.ofNat_le.mp la) (Int.ofNat_le.mp lb) (Int.ofNat_le.mp lc) (Int.ofNat_le.mp ld) (Int.ofNat_le.mp le) (Int.ofNat_le.mp lf) (Int.ofNat_le.mp lg) (Int.ofNat_le.mp lh)))
  rcases hs with q | q | q | q | q | q | q | q
  · exact Int.ofNat.inj q ▸ q1
  · exact Int.ofNat.inj q ▸ q2
  · exact Int.ofNat.inj q ▸ q3
  · exact Int.ofNat.inj q ▸ q4
  · exact Int.ofNat.inj q ▸ q5
  · exact Int.ofNat.inj q ▸ q6
  · exact Int.ofNat.inj q ▸ q7
  · exact Int.ofNat.inj q ▸ q8
noncomputable def bringP (p : Params) : FnParts p 124 := ⟨_, _, _, _, _, _, _, _, _, _, _, _, _, _, _, by walk_at "m:parts"⟩
noncomputable def s_bring (d : Spot × (Nat × Nat × Nat × Nat) × (Nat × Nat × Nat × Nat) × (Nat × Addr × Nat × Tok) × (Tok × Tok × Tok × Tok) × (Tok × Tok × Tok × Tok)) : Prop := InBody 5 124 bringP ([(Str.ofString "marks", .ref (d.2.2.2.1.2.1))]) (((d.2.2.2.1.2.1), listOf [.int ((d.2.1.1) : Int) (d.2.2.2.1.2.2.2), .int ((d.2.1.2.1) : Int) (d.2.2.2.2.1.1), .int ((d.2.1.2.2.1) : Int) (d.2.2.2.2.1.2.1), .int ((d.2.1.2.2.2) : Int) (d.2.2.2.2.1.2.2.1), .int ((d.2.2.1.1) : Int) (d.2.2.2.2.1.2.2.2), .int ((d.2.2.1.2.1) : Int) (d.2.2.2.2.2.1), .int ((d.2.2.1.2.2.1) : Int) (d.2.2.2.2.2.2.1), .int ((d.2.2.1.2.2.2) : Int) (d.2.2.2.2.2.2.2.1), .int ((d.2.2.2.1.1) : Int) (d.2.2.2.2.2.2.2.2)].toArray (d.2.2.2.1.2.2.1)) :: (d.1.news)) (fun add r => add = [] ∧ ∃ t, r = .int (ring8 (d.2.1.1) (d.2.1.2.1) (d.2.1.2.2.1) (d.2.1.2.2.2) (d.2.2.1.1) (d.2.2.1.2.1) (d.2.2.1.2.2.1) (d.2.2.1.2.2.2) (d.2.2.2.1.1) : Nat) t) d.1
@[irreducible] noncomputable def k_bring : Spot × (Nat × Nat × Nat × Nat) × (Nat × Nat × Nat × Nat) × (Nat × Addr × Nat × Tok) × (Tok × Tok × Tok × Tok) × (Tok × Tok × Tok × Tok) := pick (by haveI := ne_Spot; exact inferInstance) s_bring
theorem bring_c : s_bring k_bring := by
  delta s_bring
  unfold InBody
  intro B FG X₀ F X N T hd hu hret
  walk_at "m:begin"
  dsimp only [bringP]
  (try k_unmd)
  k_fold
  k_steps
  rename_i M' t' _ _ _ qa' qb' _ kN _
  have e : M' = ((ring8 (k_bring.2.1.1) (k_bring.2.1.2.1) (k_bring.2.1.2.2.1) (k_bring.2.1.2.2.2) (k_bring.2.2.1.1) (k_bring.2.2.1.2.1) (k_bring.2.2.1.2.2.1) (k_bring.2.2.1.2.2.2) (k_bring.2.2.2.1.1) : Nat) : Int) := by
    exact ring8_of (a := 6 * (k_bring.2.1.1)) (b := 6 * (k_bring.2.2.1.1)) (c := 6 * (k_bring.2.2.2.1.1)) (d := 3 * ((k_bring.2.1.2.1) + (k_bring.2.1.2.2.2))) (e := 3 * ((k_bring.2.1.2.2.1) + (k_bring.2.2.1.2.2.1))) (f := 3 * ((k_bring.2.2.1.2.1) + (k_bring.2.2.1.2.2.2))) (g := 2 * ((k_bring.2.1.2.1) + (k_bring.2.2.1.2.1) + (k_bring.2.2.1.2.2.1))) (h := 2 * ((k_bring.2.1.2.2.1) + (k_bring.2.2.1.2.2.2) + (k_bring.2.1.2.2.2))) qa' qb'
  subst e
  refine hret _ [] _ _ (by assumption) (news_sub kN fun p hp => by walk_at "m:mem") none_lt ⟨rfl, _, rfl⟩
theorem bring (w : World) (μ0 μ1 μ2 μ3 μ4 μ5 μ6 μ7 μ8 : Nat) : Gives w 5 124 (fun news vs => ∃ l c t0 t1 t2 t3 t4 t5 t6 t7 t8, vs = [.ref l] ∧ (l, listOf [.int (μ0 : Int) t0, .int (μ1 : Int) t1, .int (μ2 : Int) t2, .int (μ3 : Int) t3, .int (μ4 : Int) t4, .int (μ5 : Int) t5, .int (μ6 : Int) t6, .int (μ7 : Int) t7, .int (μ8 : Int) t8].toArray c) ∈ news) (fun _ add r => add = [] ∧ ∃ t, r = .int (ring8 μ0 μ1 μ2 μ3 μ4 μ5 μ6 μ7 μ8 : Nat) t) := by
  w_on
  unfold Gives
  k_fill
  intro mean mg mb dp un gd cn cs aa ccd cl outer A₀ base h₀ L m news s vs Q E B F X N T₀ hk hR hd hu hret
  refine Mine.by_op fun P9 bk9 => ?_
  obtain ⟨l, c, t0, t1, t2, t3, t4, t5, t6, t7, t8, rfl, hl⟩ := hR
  refine bk9 ?_; clear bk9 P9
  replace N := news_dup N hl
  refine wpAny_call ?_
  k_dflt ktr_enter
  rename_i g' L' h' FG' F' N' B' X' T'
  exact in_body (pick_all k_bring.eq_1 bring_c (⟨w, mean, mg, mb, dp, un, gd, cn, cs, aa, ccd, cl, outer, base, h₀, L, m, news, s, Q, E, g', L', h', _⟩, (μ0, μ1, μ2, μ3), (μ4, μ5, μ6, μ7), (μ8, l, c, t0), (t1, t2, t3, t4), (t5, t6, t7, t8))) B' FG' X F' X' N' T' hd hu hret rfl
end
section
local macro_rules | `(tactic| k_all) => `(tactic| exact allLt_ne (by assumption))
section
local macro_rules | `(tactic| k_all) => `(tactic| assumption)
-- E2
section
theorem setup_E2 : True := by
  k_with_none
  k_with "x:execs cons" => (refine Mine.any_tk ?_; (try clear qtk); intro qtk; (with_reducible refine wpAny_execs_cons ?_); (try dsimp only))
  k_with "x:m:mem" => (first | assumption | exact List.Mem.head _ | (refine List.Mem.tail _ ?_; walk_at "m:mem"))
  k_with "x:m:give" => ((
  (case zzk1 => k_asm); (case zzk2 => k_asm); (case zzk3 => k_asm); (case zzk4 => k_asm); (case zzk5 => k_asm); (case zzk6 => first | exact rfl | assumption); (case zzk8 => ktr_room); (case zzk9 => ktr_units)))
  k_with "x:subscriptTail Name Constant ref int" => ((k_here; (with_reducible show wpAny _ _ (subscriptTail _ _ (Value.ref _) (Value.int _ _)) _ _ _); (with_unfolding_all refine' sub_listN ?zzk1 ?zzk2 ?zzk3 ?zzk4 ?zzk5 ?_ ?zzk6; (case zzk1 => k_asm); (case zzk2 => walk_at "m:mem"); (case zzk3 => decide); (case zzk4 => decide); (case zzk5 => rfl); (case zzk6 => with_unfolding_all rfl); k_whole)))
  k_with "x:TurnPost" => ((dsimp only [TurnPost]))
  k_with "x:spliced" => (((dsimp only); walk_at "spliced"))
  k_with "x:subscriptTail Name Name ref int" => ((k_here; (with_unfolding_all refine' sub_listN ?zzk1 ?zzk2 ?zzk3 ?zzk4 ?zzk5 ?_ ?zzk6; (case zzk1 => k_asm); (case zzk2 => walk_at "m:mem"); (case zzk3 => omega); (case zzk4 => omega); (case zzk5 => assumption); (case zzk6 => with_unfolding_all rfl); k_whole)))
  k_with "x:subscriptTail Name Slice ref ref" => ((k_here; (with_unfolding_all refine' slice_scr ?zzF ?zzN ?zzS ?zzp ?zzq ?zzk ?zzo ?_ ?zzs ?zzt; (case zzF => k_asm); (case zzN => k_asm); (case zzS => assumption); (case zzp => kmk_part); (case zzq => kmk_part); (case zzk => kmk_part); (case zzo => decide); (case zzs => with_unfolding_all rfl); (case zzt => kmk_pure)); intro qD' qws' qms' qh' qF' qN' ql1 qhI' qhm'; (try k_lt ql1)))
  k_with "x:call builtin:sum" => ((k_here; (with_unfolding_all refine' sum_some ?zzk0 ?zzk1 ?zzk2 ?zzk3 ?zzk4 ?_; (case zzk0 => with_unfolding_all rfl); (case zzk1 => k_asm); (case zzk2 => k_asm); (case zzk3 => assumption); (case zzk4 => exact CarriedAll.intsOf (by assumption))); intro qsm' qh' qtk' qt' qF' qN'; (try dsimp only)))
  k_with "x:exec For Name Call cons nil" => ((with_reducible rename Fr _ _ _ _ => qfF; refine Mine.for_wordF qfF ?_ (fun _ => rfl) (by passes_own)))
  k_with "x:m:hide" => (have qD' := True.intro; have qF' := True.intro; have qN' := True.intro; have qfF := True.intro; have qh' := True.intro; have qhI' := True.intro; have qhm' := True.intro; have ql1 := True.intro; have qms' := True.intro; have qsm' := True.intro; have qt' := True.intro; have qtk' := True.intro; have qws' := True.intro)
  k_with "x:m:bare" => (clear qD' qF' qN' qfF qh' qhI' qhm' ql1 qms' qsm' qt' qtk' qws')
  trivial
noncomputable def GivesH (w : World) (n : Nat) (f : Addr) (pre : Heap → List Value → Prop) (out : List (Addr × Obj) → Value → Prop) : Prop :=
  ∀ (mean : ExcName → Option Value) (mg mb : Str → Option Value) (dp un : Nat) (gd : Option (List Code)) (cn : Str) (cs : Scope) (a : Addr) (ccd : Value) (cl : List (Str × Addr)) (outer : List Env) (A₀ : Around) (base h₀ : Heap) (L : Addr) (m : Str → Option Value) (news : List (Addr × Obj)) (s : Shared) (vs : List Value)
    (Q E : Value → Shared → Prop),
    Below A₀ base outer h₀ → Fr h₀ L s.heap m → (Mine.hd.heap_1 w.params).In h₀ → News h₀ L s.heap news → Top Mine.hd.view_1 (looseW Mine.hd.view_1 []) mean mg mb h₀ → cs.kind = .function → pre h₀ vs → dp + n < recursionLimit → un + 8 * n < cLine →
    (∀ r add h' tk', Fr h₀ L h' m → News h₀ L h' (add ++ news) → (∀ q ∈ news, ∀ p ∈ add, q.1 < p.1) → out add r → Q r { s with heap := h', toks := tk' }) →
    wpAny (model PySem.Challenge.rw_zo0012_01.row.prog w) (ktrTop dp un gd cn cs L a ccd cl outer) (call (.ref f) vs) Q E s
theorem figs (w : World) (xs : List Int) : GivesH w 5 96 (fun h₀ vs => ∃ l, vs = [.ref l] ∧ Scr h₀ l xs) (fun add r => ∃ y, (∀ i, y i < 64) ∧ Figs add r y) := by
  w_on
  unfold GivesH
  k_fill
  intro mean mg mb dp un gd cn cs _ ccd cl outer A₀ base h₀ L m news s vs Q E B F X N TT hk hR hd hu hret
  refine Mine.by_op fun P9 bk9 => ?_
  obtain ⟨l, rfl, hS⟩ := hR
  refine bk9 ?_; clear bk9 P9
  refine wpAny_call ?_
  k_dflt ktr_enter
  k_steps
  (walk_at "m:hide"; rename_i g' L' h1 FG B' X' T' tk1 O h2 lO h3 tk2 R h4 lR h5 F5 N5 h6 tk6 u1 u2 u3 hr F0 N0 kp; walk_at "m:bare")
  have hS' := scr_up hS FG
  obtain ⟨lR1, lR2⟩ := lR
  have hov : ∃ ov : List Value, News g' L' h6 ((R, listOf (List.toArray []) 0) :: (O, listOf ov.toArray 0) :: news) ∧ ∀ i, i < 9 → ∃ n t, ov[i]? = some (Value.int n t) := by
    exact ⟨_, N0, all9 ⟨_, _, rfl⟩ ⟨_, _, rfl⟩ ⟨_, _, rfl⟩ ⟨_, _, rfl⟩ ⟨_, _, rfl⟩ ⟨_, _, rfl⟩ ⟨_, _, rfl⟩ ⟨_, _, rfl⟩ ⟨_, _, rfl⟩⟩
  clear N0 N5 F5 N F
  refine Mine.by_op fun P9 bk9 => ?_
  obtain ⟨ov, N0, hov⟩ := hov
  refine bk9 ?_; clear bk9 P9
  refine iter_rangeW (n := 9) (fun i m' led' => ∃ rl rs, ∃ ys : List Nat, led' = (R, listOf (List.toArray (rs.map Value.ref)) i) :: (rl ++ (O, listOf ov.toArray 0) :: news) ∧ (∀ p ∈ rl, R < p.1) ∧ rs.length = i ∧ ys.length = i ∧ (∀ (j : Nat) a y, rs[j]? = some a → ys[j]? = some y → y < 64 ∧ ∃ o, (a, o) ∈ rl ∧ IsRow o y) ∧ m' (Str.ofString "own") = some (.ref O) ∧ m' (Str.ofString "script") = some (.ref l) ∧ m' (Str.ofString "rows") = some (.ref R)) (by rfl) hr (by decide) (by decide) F0 N0 ⟨[], [], [], rfl, (fun _ h => nomatch h), rfl, rfl, (fun _ _ _ h => nomatch h), rfl, rfl, rfl⟩ (by intros; exact Expr.noConfusion) (by intros; exact Expr.noConfusion) ?_ ?_
  · intro i t m₁ led₁ h tk I oI hi qz99 F6 N6 off
    refine Mine.by_op fun P9 bk9 => ?_
    obtain ⟨rl, rs, ys, rfl, hrl, hrs, hys, hrow, hm1, hm2, hm3⟩ := qz99
    refine bk9 ?_; clear bk9 P9
    replace F6 := Mine.Fr.know3 F6 hm1 hm2 hm3
    refine Mine.by_op fun P9 bk9 => ?_
    obtain ⟨nx, tx, hx⟩ := hov i hi
    refine bk9 ?_; clear bk9 P9
    have hx : ov[((0 : Int) + (i : Int)).toNat]? = some (Value.int nx tx) := by rw [Int.zero_add, Int.toNat_natCast]; exact hx
    replace N6 : News g' L' h ((I, oI) :: (R, listOf (List.toArray (rs.map Value.ref)) i) :: (rl ++ (O, listOf ov.toArray 0) :: news)) := N6
    have hOT : (O, listOf ov.toArray 0) ∈ rl ++ (O, listOf ov.toArray 0) :: news := List.mem_append_right _ (.head _)
    have hRT : ∀ p ∈ rl ++ (O, listOf ov.toArray 0) :: news, p.1 ≠ R := by
      intro p hp
      rcases List.mem_append.mp hp with hp | hp
      · exact Nat.ne_of_gt (hrl p hp)
      · rcases List.mem_cons.mp hp with rfl | hp
        · exact Nat.ne_of_lt lR1
        · exact allLt_ne lR2 p hp
    have hIR : I ≠ R := Ne.symm (off _ (.head _))
    have hIT : ∀ p ∈ rl ++ (O, listOf ov.toArray 0) :: news, p.1 ≠ I := fun p hp => off _ (.tail _ hp)
    clear F0 N0 hov off kp hr
    generalize hT : rl ++ (O, listOf ov.toArray 0) :: news = T at *
    k_steps
    (try dsimp only [List.cons_append, List.nil_append])
    refine' append_K ?zzk1 ?zzk2 ?zzk3 ?_ ?zzz
    case zzk1 => k_asm
    case zzk2 => k_asm
    case zzk3 => exact Upd.tail (Nat.ne_of_gt (by omega)) (Upd.tail (Nat.ne_of_gt (by omega)) (Upd.tail hIR (Upd.head hRT)))
    case zzz => rw [List.size_toArray, List.length_map, hrs]; exact Nat.le_trans (Nat.le_of_lt hi) (by decide)
    intro h' F' N'
    (try k_sweep)
    k_steps
    rename Int => sm
    (walk_at "m:hide"; rename_i rowA _ lN; walk_at "m:bare")
    refine Mine.by_op fun P9 bk9 => ?_
    obtain ⟨l4, l5, l6, l7⟩ := lN
    refine bk9 ?_; clear bk9 P9
    refine' Mine.TurnEnd.intro ((R, listOf (List.toArray ((rs ++ [rowA]).map Value.ref)) (i + 1)) :: (((rowA, _) :: rl) ++ (O, listOf ov.toArray 0) :: news)) F' N' ?zzsub ?zzoff ⟨_, rs ++ [rowA], ys ++ [((nx + sm).fmod 64).toNat], rfl, ?zzp1, ?zzp2, ?zzp3, ?zzp4, rfl, rfl, rfl⟩
    case zzsub =>
      intro p hp
      rcases List.mem_cons.mp hp with rfl | hp
      · exact .tail _ (.tail _ (.head _))
      · rcases List.mem_cons.mp hp with hp | hp
        · rw [hp, List.map_append]
          exact .tail _ (.tail _ (.tail _ (by rw [List.push_toArray]; exact .head _)))
        · rcases List.mem_cons.mp hp with hp | hp
          · rw [hp]; exact .head _
          · exact .tail _ (.tail _ (.tail _ (.tail _ (hT ▸ hp))))
    case zzp4 =>
      intro j a y hj hy
      by_cases hji : j < i
      · rw [List.getElem?_append_left (by omega)] at hj hy
        refine Mine.by_op fun P9 bk9 => ?_
        obtain ⟨q1, o, q2, q3⟩ := hrow j a y hj hy
        refine bk9 ?_; clear bk9 P9
        exact ⟨q1, o, .tail _ q2, q3⟩
      · have hji : j = i := by
          have : j < (rs ++ [rowA]).length := (List.getElem?_eq_some_iff.mp hj).1
          rw [List.length_append, hrs] at this
          have e1 : [rowA].length = 1 := rfl
          omega
        subst hji
        rw [List.getElem?_append_right (by omega), hrs, Nat.sub_self] at hj
        rw [List.getElem?_append_right (by omega), hys, Nat.sub_self] at hy
        cases hj
        cases hy
        exact ⟨(row_of (nx + sm) 0 0 0 0).2, _, .head _, (row_of (nx + sm) _ _ _ _).1⟩
    case zzoff =>
      intro p hp
      rcases List.mem_cons.mp hp with hp | hp
      · rw [hp]; exact hIR.symm
      · rcases List.mem_cons.mp hp with hp | hp
        · rw [hp]; exact Nat.ne_of_gt l5
        · exact hIT p (hT ▸ hp)
    case zzp1 =>
      intro p hp
      rcases List.mem_cons.mp hp with hp | hp
      · rw [hp]; exact l6
      · exact hrl p hp
    case zzp2 => rw [List.length_append, hrs]; rfl
    case zzp3 => rw [List.length_append, hys]; rfl
  · intro h' tk' m' led' F6 N6 qz69
    refine Mine.by_op fun P9 bk9 => ?_
    obtain ⟨rl, rs, ys, rfl, hrl, hrs, hys, hrow, hm1, hm2, hm3⟩ := qz69
    refine bk9 ?_; clear bk9 P9
    replace F6 := Mine.Fr.know3 F6 hm1 hm2 hm3
    clear F0 N0 hov kp hr
    k_steps
    (walk_at "m:hide"; rename_i kF kN _ _; walk_at "m:bare")
    refine hret _ ((R, listOf (List.toArray (rs.map Value.ref)) 9) :: rl) _ _ kF (news_sub kN ?_) ?_ ⟨fun i => (ys[i]?).getD 0, ?_, R, 9, rs, rfl, hrs, .head _, ?_⟩
    · intro p hp
      rcases List.mem_cons.mp hp with hp | hp
      · rw [hp]; exact .head _
      · rcases List.mem_append.mp hp with hp | hp
        · exact .tail _ (List.mem_append_left _ hp)
        · exact .tail _ (List.mem_append_right _ (.tail _ hp))
    · intro q hq p hp
      have h1 : q.1 < R := allLt_mem lR2 q hq
      rcases List.mem_cons.mp hp with hp | hp
      · rw [hp]; exact h1
      · exact Nat.lt_trans h1 (hrl p hp)
    · intro i
      show (ys[i]?).getD 0 < 64
      cases hy : ys[i]? with
      | none => decide
      | some y =>
        have hi : i < ys.length := (List.getElem?_eq_some_iff.mp hy).1
        exact (hrow i rs[i] y (List.getElem?_eq_getElem (by omega)) hy).1
    · intro i a ha
      have hi : i < rs.length := (List.getElem?_eq_some_iff.mp ha).1
      have hy : ys[i]? = some ys[i] := List.getElem?_eq_getElem (by omega)
      refine Mine.by_op fun P9 bk9 => ?_
      obtain ⟨_, o, ho, hr⟩ := hrow i a _ ha hy
      refine bk9 ?_; clear bk9 P9
      refine ⟨o, .tail _ ho, ?_⟩
      show IsRow o ((ys[i]?).getD 0)
      rw [hy]
      exact hr
end
-- G0
section
set_option genSizeOf false in
set_option genInjectivity false in
structure LawParts (P : Params) where
  params : Arguments
  body : List Stmt
  scope : Scope
  oc : Value
  od : Option Addr
  osl : Array (Option Value)
  dV : Value
  kV : Value
  doc : Value
  pm : Value
  an : Option Addr
  cdv : Value
  ct : Value
  is : (Mine.hd.heap_1 P).lookup 134 = some ⟨oc, od, .func (fnOf (Str.ofString "law") (Str.ofString "law") params body scope dV kV doc pm an cdv ct), osl⟩
noncomputable def lawParts (P : Params) : LawParts P := ⟨_, _, _, _, _, _, _, _, _, _, _, _, _, by (w_on; (have hz : PySem.Challenge.rw_zo0012_01 = PySem.Challenge.rw_zo0012_01 ∧ Mine.hd.heap_1 P = Mine.hd.heap_1 P := by (k_fill; exact ⟨rfl, rfl⟩)); clear hz; refine Eq.trans rfl ?_; k_is)⟩
noncomputable def lawB (P : Params) : List Stmt := (lawParts P).body
noncomputable def lawS (P : Params) : Scope := (lawParts P).scope
set_option genSizeOf false in
set_option genInjectivity false in
/-- the objects of law's eleven cells -/
structure LawCells where
  oF : Obj
  oP : Obj
  oW : Obj
  oV : Obj
  oX : Obj
  oM : Obj
  oD : Obj
  oR : Obj
  oS : Obj
  oG : Obj
  oQ : Obj
theorem ne_Cells : Nonempty LawCells := ⟨⟨default, default, default, default, default, default, default, default, default, default, default⟩⟩
noncomputable def cellLed (L : Addr) (c : LawCells) : List (Addr × Obj) := [(L + 1 + 1 + 1 + 1 + 1 + 1 + 1 + 1 + 1 + 1 + 1, c.oQ), (L + 1 + 1 + 1 + 1 + 1 + 1 + 1 + 1 + 1 + 1, c.oG), (L + 1 + 1 + 1 + 1 + 1 + 1 + 1 + 1 + 1, c.oS), (L + 1 + 1 + 1 + 1 + 1 + 1 + 1 + 1, c.oR), (L + 1 + 1 + 1 + 1 + 1 + 1 + 1, c.oD), (L + 1 + 1 + 1 + 1 + 1 + 1, c.oM), (L + 1 + 1 + 1 + 1 + 1, c.oX), (L + 1 + 1 + 1 + 1, c.oV), (L + 1 + 1 + 1, c.oW), (L + 1 + 1, c.oP), (L + 1, c.oF)]
/-- no object of T is one of the cells -/
noncomputable def Young (L : Addr) (T : List (Addr × Obj)) : Prop := ∀ p ∈ T, @LT.lt Nat _ p.1 (L + 1) ∨ @LT.lt Nat _ (L + 11) p.1
theorem young_ne {L a : Nat} {T : List (Addr × Obj)} {p : Addr × Obj} (h : Young L T) (hp : p ∈ T) (h1 : @LE.le Nat _ (L + 1) a) (h2 : @LE.le Nat _ a (L + 11)) : p.1 ≠ a := by
  rcases h p hp with q | q
  · exact Nat.ne_of_lt (Nat.lt_of_lt_of_le q h1)
  · exact Nat.ne_of_gt (Nat.lt_of_le_of_lt h2 q)
theorem Fr.unknow {h₀ h : Heap} {L : Addr} {m : Str → Option Value} {x : Str} {v : Value} (F : Fr h₀ L h (fun y => if y = x then some v else m y)) (hx : m x = some v) : Fr h₀ L h m := Mine.Fr.alike F (fun y => (know_ite hx (fun _ => rfl) y).symm)
noncomputable abbrev lawEnv (P : Params) (L fa : Addr) (cd : Value) : Env := envOfC (Str.ofString "law") (lawS P) L fa cd
noncomputable abbrev lawA (P : Params) (dp un : Nat) (gd : Option (List Code)) (L fa : Addr) (cd : Value) : Around := ktrTop dp un gd (Str.ofString "law") (lawS P) L fa cd (cellsFrom (L + 1) (lawS P).names []) []
theorem perm_cells {g h : Heap} {L : Addr} {add A T : List (Addr × Obj)} (N : News g L h (add ++ (A ++ T))) : News g L h (A ++ (add ++ T)) := fun p hp => N p (by
  rcases List.mem_append.mp hp with q | q
  · exact List.mem_append_right _ (List.mem_append_left _ q)
  · rcases List.mem_append.mp q with q | q
    · exact List.mem_append_left _ q
    · exact List.mem_append_right _ (List.mem_append_right _ q))
theorem young_add {L : Addr} {add T : List (Addr × Obj)} {c : LawCells} (hy : Young L T) (lt : ∀ q ∈ cellLed L c ++ T, ∀ p ∈ add, q.1 < p.1) : Young L (add ++ T) := by
  intro p hp
  rcases List.mem_append.mp hp with hp | hp
  · exact .inr (lt (L + 11, c.oQ) (.head _) p hp)
  · exact hy p hp
theorem young_cons {L a : Nat} {o : Obj} {T : List (Addr × Obj)} (ha : @LT.lt Nat _ (L + 11) a) (hy : Young L T) : Young L ((a, o) :: T) := by
  intro p hp
  rcases List.mem_cons.mp hp with rfl | hp
  · exact .inr ha
  · exact hy p hp
theorem off_cells {a L : Nat} (h1 : a ≠ L + 1) (h2 : a ≠ L + 1 + 1) (h3 : a ≠ L + 1 + 1 + 1) (h4 : a ≠ L + 1 + 1 + 1 + 1) (h5 : a ≠ L + 1 + 1 + 1 + 1 + 1) (h6 : a ≠ L + 1 + 1 + 1 + 1 + 1 + 1) (h7 : a ≠ L + 1 + 1 + 1 + 1 + 1 + 1 + 1) (h8 : a ≠ L + 1 + 1 + 1 + 1 + 1 + 1 + 1 + 1)
    (h9 : a ≠ L + 1 + 1 + 1 + 1 + 1 + 1 + 1 + 1 + 1) (h10 : a ≠ L + 1 + 1 + 1 + 1 + 1 + 1 + 1 + 1 + 1 + 1) (h11 : a ≠ L + 1 + 1 + 1 + 1 + 1 + 1 + 1 + 1 + 1 + 1 + 1) : a < L + 1 ∨ L + 11 < a :=
  (Nat.lt_or_gt_of_ne h1).imp id fun q => Nat.lt_of_le_of_ne (Nat.lt_of_le_of_ne (Nat.lt_of_le_of_ne (Nat.lt_of_le_of_ne (Nat.lt_of_le_of_ne (Nat.lt_of_le_of_ne (Nat.lt_of_le_of_ne (Nat.lt_of_le_of_ne (Nat.lt_of_le_of_ne (Nat.lt_of_le_of_ne q (Ne.symm h2)) (Ne.symm h3)) (Ne.symm h4)) (Ne.symm h5)) (Ne.symm h6)) (Ne.symm h7)) (Ne.symm h8)) (Ne.symm h9)) (Ne.symm h10)) (Ne.symm h11)
theorem young_off {L a : Nat} {o : Obj} {c : LawCells} {T R : List (Addr × Obj)} (ha : LCg.Off1 a (cellLed L c ++ R)) (hy : Young L T) : Young L ((a, o) :: T) := by
  intro p hp
  rcases List.mem_cons.mp hp with rfl | hp
  · obtain ⟨h1, h2, h3, h4, h5, h6, h7, h8, h9, h10, h11, _⟩ := ha
    exact off_cells h11.symm h10.symm h9.symm h8.symm h7.symm h6.symm h5.symm h4.symm h3.symm h2.symm h1.symm
  · exact hy p hp
theorem figs_mono {add T : List (Addr × Obj)} {r : Value} {y : Nat → Nat} (h : Figs add r y) (hs : ∀ p ∈ add, p ∈ T) : Figs T r y := by
  obtain ⟨R, n, rs, h1, h2, h3, h4⟩ := h
  refine ⟨R, n, rs, h1, h2, hs _ h3, fun i a ha => ?_⟩
  obtain ⟨o, ho, hr⟩ := h4 i a ha
  exact ⟨o, hs _ ho, hr⟩
theorem givesH_use {w : World} {n : Nat} {f : Addr} {pre : Heap → List Value → Prop} {out : List (Addr × Obj) → Value → Prop} (G : GivesH w n f pre out)
  {mean : ExcName → Option Value} {mg mb : Str → Option Value} {dp un : Nat} {gd : Option (List Code)} {cn : Str} {cs : Scope} {a : Addr} {ccd : Value} {cl : List (Str × Addr)} {outer : List Env} {A₀ : Around} {base h₀ : Heap} {L : Addr} {m : Str → Option Value} {news : List (Addr × Obj)} {s : Shared} {vs : List Value}
    {Q E : Value → Shared → Prop} (B : Below A₀ base outer h₀) (F : Fr h₀ L s.heap m) (X : (Mine.hd.heap_1 w.params).In h₀) (N : News h₀ L s.heap news) (T : Top Mine.hd.view_1 (looseW Mine.hd.view_1 []) mean mg mb h₀) (hk : cs.kind = .function) (R : pre h₀ vs) (hd : dp + n < recursionLimit) (hu : un + 8 * n < cLine)
    (ret : ∀ r add h' tk', Fr h₀ L h' m → News h₀ L h' (add ++ news) → (∀ q ∈ news, ∀ p ∈ add, q.1 < p.1) → out add r → Q r { s with heap := h', toks := tk' }) :
    wpAny (model PySem.Challenge.rw_zo0012_01.row.prog w) (ktrTop dp un gd cn cs L a ccd cl outer) (call (.ref f) vs) Q E s := by unfold GivesH at G; apply G <;> first | assumption | exact B | exact T
theorem givesT_use {w : World} {n : Nat} {f : Addr} {pre : List (Addr × Obj) → List Value → Prop} {out : List (Addr × Obj) → List (Addr × Obj) → Value → Prop} (G : GivesT w n f pre out)
  {mean : ExcName → Option Value} {mg mb : Str → Option Value} {dp un : Nat} {gd : Option (List Code)} {cn : Str} {cs : Scope} {a : Addr} {ccd : Value} {cl : List (Str × Addr)} {outer : List Env} {A₀ : Around} {base h₀ : Heap} {L : Addr} {m : Str → Option Value} {news : List (Addr × Obj)} {s : Shared} {vs : List Value}
    {Q E : Value → Shared → Prop} (tk0 : 0 < s.toks) (B : Below A₀ base outer h₀) (F : Fr h₀ L s.heap m) (X : (Mine.hd.heap_1 w.params).In h₀) (N : News h₀ L s.heap news) (T : Top Mine.hd.view_1 (looseW Mine.hd.view_1 []) mean mg mb h₀) (hk : cs.kind = .function) (R : pre news vs) (hd : dp + n < recursionLimit) (hu : un + 8 * n < cLine)
    (ret : ∀ r add h' tk', Fr h₀ L h' m → News h₀ L h' (add ++ news) → (∀ q ∈ news, ∀ p ∈ add, q.1 < p.1) → out news add r → Q r { s with heap := h', toks := tk' }) :
    wpAny (model PySem.Challenge.rw_zo0012_01.row.prog w) (ktrTop dp un gd cn cs L a ccd cl outer) (call (.ref f) vs) Q E s := by unfold GivesT at G; apply G <;> first | assumption | exact B | exact T
noncomputable def IsPieces (T : List (Addr × Obj)) (a : Addr) (x0 x1 x2 x3 : Str) : Prop := ∃ t0 t1 t2 t3 n, (a, listOf [.str x0 t0, .str x1 t1, .str x2 t2, .str x3 t3].toArray n) ∈ T
noncomputable def IsWorth (T : List (Addr × Obj)) (a : Addr) : Prop := ∃ t0 t1 t2 t3 n, (a, listOf [.int 0 t0, .int 1 t1, .int 4 t2, .int 6 t3].toArray n) ∈ T
end
-- G2
section
noncomputable def Stop (p : Prop) : Prop := p
theorem stop {p : Prop} (h : Stop p) : p := h
theorem news_tl {h₀ h : Heap} {L : Addr} {p : Addr × Obj} {l : List (Addr × Obj)} (N : News h₀ L h (p :: l)) : News h₀ L h l := fun q hq => N q (.tail _ hq)
theorem int_val {a b : Int} {t : Tok} (h : a = b) : ∃ t', Value.int a t = Value.int b t' := ⟨t, h ▸ rfl⟩
noncomputable def ValsF (vs : List Value) (n : Nat) (G : Nat → Value → Prop) : Prop := vs.length = n ∧ ∀ i, i < n → ∃ v, vs[i]? = some v ∧ G i v
theorem ValsF.snoc {vs : List Value} {n : Nat} {G : Nat → Value → Prop} {v : Value} (h : ValsF vs n G) (e : G n v) : ValsF (vs ++ [v]) (n + 1) G := by
  refine ⟨by rw [List.length_append, h.1]; rfl, fun i hi => ?_⟩
  by_cases hlt : i < n
  · obtain ⟨u, hu, hG⟩ := h.2 i hlt
    exact ⟨u, by rw [List.getElem?_append_left (by rw [h.1]; exact hlt)]; exact hu, hG⟩
  · obtain rfl : i = n := by lia
    exact ⟨v, by rw [List.getElem?_append_right (by rw [h.1]; exact Nat.le_refl _), h.1, Nat.sub_self]; rfl, e⟩
theorem ValsF.nil {G : Nat → Value → Prop} : ValsF [] 0 G := ⟨rfl, fun _ h => absurd h (Nat.not_lt_zero _)⟩
section
variable {prog : Program} {w : World} {A : Around} {s : Shared} {h₀ : Heap} {L : Addr} {m : Str → Option Value} {env : Env}
open LCg
theorem comp_all {elt : Expr} {x : Str} {scope : Scope} {cl : List (Str × Addr)} {S : List (Addr × Obj) → Prop} {P : Nat → Value → Prop} {Fin : List Value → List (Addr × Obj) → Prop} {n : Nat} {news : List (Addr × Obj)} (G : Nat → Value → Prop)
    (step : ∀ i v ys I oI C oC D m₂ h tk (E' : Value → Shared → Prop), i < n → P i v → ys.length = i → NsObj oC m₂ → m₂ x = some v → Fr h₀ L h m → News h₀ L h ((I, oI) :: (C, oC) :: (D, lst ys) :: news) → Off3 I C D news → ((@Ne Nat I C) ∧ (@Ne Nat I D) ∧ (@Ne Nat C D)) →
      wpAny (model prog w) A (eval elt (compEnvC scope cl C env)) (CompEnd h₀ L m { s with heap := h, toks := tk } I oI C oC D (lst ys) S (fun y news' => news' = news ∧ G i y)) E' { s with heap := h, toks := tk })
    (fin : ∀ ys, ValsF ys n G → Fin ys news) : CompRest prog w A h₀ L m env elt x scope cl s S P Fin n 0 [] news := by
  have key : ∀ k i ys, i + k = n → ValsF ys i G → CompRest prog w A h₀ L m env elt x scope cl s S P Fin k i ys news := by
    intro k
    induction k with
    | zero => intro i ys hi hv; exact CompRest.zero (fin ys (by rw [Nat.add_zero] at hi; exact hi ▸ hv))
    | succ k ih =>
      intro i ys hi hv
      refine CompRest.succ fun v I oI C oC D m₂ h tk E' hP hC hx F N off ne => ?_
      refine wpAny_mono (step i v ys I oI C oC D m₂ h tk E' (by lia) hP hv.1 hC hx F N off ne) (fun y s' hE => ?_) fun _ _ e => e
      obtain ⟨h', tk', news', e1, F', N', off', hS, rfl, hG⟩ := hE
      exact ⟨h', tk', _, e1, F', N', off', hS, ih (i + 1) (ys ++ [y]) (by lia) (hv.snoc hG)⟩
  exact key n 0 [] (Nat.zero_add n) ValsF.nil
end
section
variable {prog : Program} {w : World} {A : Around} {E : Value → Shared → Prop} {s : Shared} {h₀ : Heap} {L l : Addr} {news : List (Addr × Obj)}
noncomputable def pk (x0 x1 x2 x3 : Str) (d : Nat) : Str := if d = 0 then x0 else if d = 1 then x1 else if d = 2 then x2 else x3
theorem sub_pieces {value slice : Expr} {x0 x1 x2 x3 : Str} {T : List (Addr × Obj)} {d : Nat} {u : Tok} {Q : Value → Shared → Prop} (N : News h₀ L s.heap news) (hp : IsPieces T l x0 x1 x2 x3) (hs : ∀ p ∈ T, p ∈ news) (hd : d < 4)
    (h : ∀ t, Q (.str (pk x0 x1 x2 x3 d) t) s)
    (hs' : subscripted slice false (.ref l) (.int (d : Int) u) = operate [.ref l, .int (d : Int) u] (getItem (.ref l) (.int (d : Int) u))) :
    wpAny (model prog w) A (subscriptTail value slice (.ref l) (.int (d : Int) u)) Q E s := by
  obtain ⟨t0, t1, t2, t3, n, hm⟩ := hp
  have key : ∃ t, [Value.str x0 t0, .str x1 t1, .str x2 t2, .str x3 t3][(d : Int).toNat]? = some (.str (pk x0 x1 x2 x3 d) t) := by
    rw [Int.toNat_natCast]
    match d, hd with
    | 0, _ => exact ⟨t0, rfl⟩
    | 1, _ => exact ⟨t1, rfl⟩
    | 2, _ => exact ⟨t2, rfl⟩
    | 3, _ => exact ⟨t3, rfl⟩
  obtain ⟨t, ht⟩ := key
  exact sub_listN N (hs _ hm) (by lia) (by lia) ht (h t) hs'
noncomputable def wk (d : Nat) : Nat := if d = 0 then 0 else if d = 1 then 1 else if d = 2 then 4 else 6
theorem sub_worth {value slice : Expr} {T : List (Addr × Obj)} {d : Nat} {u : Tok} {Q : Value → Shared → Prop} (N : News h₀ L s.heap news) (hp : IsWorth T l) (hs : ∀ p ∈ T, p ∈ news) (hd : d < 4)
    (h : ∀ t, Q (.int (wk d : Int) t) s)
    (hs' : subscripted slice false (.ref l) (.int (d : Int) u) = operate [.ref l, .int (d : Int) u] (getItem (.ref l) (.int (d : Int) u))) :
    wpAny (model prog w) A (subscriptTail value slice (.ref l) (.int (d : Int) u)) Q E s := by
  obtain ⟨t0, t1, t2, t3, n, hm⟩ := hp
  have key : ∃ t, [Value.int 0 t0, .int 1 t1, .int 4 t2, .int 6 t3][(d : Int).toNat]? = some (.int (wk d : Int) t) := by
    rw [Int.toNat_natCast]
    match d, hd with
    | 0, _ => exact ⟨t0, rfl⟩
    | 1, _ => exact ⟨t1, rfl⟩
    | 2, _ => exact ⟨t2, rfl⟩
    | 3, _ => exact ⟨t3, rfl⟩
  obtain ⟨t, ht⟩ := key
  exact sub_listN N (hs _ hm) (by lia) (by lia) ht (h t) hs'
theorem join_L {sep : Str} {t : Tok} {vs : List Value} {ys : List Str} {n : Nat} {Q : Value → Shared → Prop} (N : News h₀ L s.heap news) (hm : (l, listOf (List.toArray vs) n) ∈ news) (hi : StrsAre vs ys) (hsep : sep.length ≤ 16) (hw : (ys.map (·.length)).sum + ys.length ≤ 1048576)
    (h : ∀ t' k, Q (.str (Txt.join sep ys) t') { s with toks := k }) : wpAny (model prog w) A (call (.builtin "str.join") [.str sep t, .ref l]) Q E s :=
  join_listW (items := List.toArray vs) ⟨_, (N _ hm).1, rfl, n, rfl⟩ hi hsep hw h
theorem sum_L {m : Str → Option Value} {vs : List Value} {ns : List Int} {n : Nat} {Q : Value → Shared → Prop} (hh : A.handled = none) (F : Fr h₀ L s.heap m) (N : News h₀ L s.heap news) (hm : (l, listOf (List.toArray vs) n) ∈ news) (hi : IntsAre vs ns)
    (h : ∀ h' tk t', Fr h₀ L h' m → News h₀ L h' news → Q (.int ns.sum t') { s with heap := h', toks := tk }) : wpAny (model prog w) A (call (.builtin "sum") [.ref l]) Q E s :=
  sumK hh F N ⟨_, (N _ hm).1, rfl, n, rfl⟩ hi h
theorem sub_vals {value slice : Expr} {vs : List Value} {n : Nat} {G : Nat → Value → Prop} {c : Nat} {k : Int} {j : Nat} {u : Tok} {Q : Value → Shared → Prop} (hv : ValsF vs n G) (N : News h₀ L s.heap news) (hm : (l, listOf (List.toArray vs) c) ∈ news)
    (hj : (j : Int) = k) (hk : j < n) (hn : n ≤ 1000) (h : ∀ v, G j v → Q v s)
    (hs : subscripted slice false (.ref l) (.int k u) = operate [.ref l, .int k u] (getItem (.ref l) (.int k u))) :
    wpAny (model prog w) A (subscriptTail value slice (.ref l) (.int k u)) Q E s := by
  obtain ⟨v, hv1, hG⟩ := hv.2 j hk
  exact sub_listN N hm (by lia) (by lia) (by rw [← hj, Int.toNat_natCast]; exact hv1) (h v hG) hs
/-- a door's text by its figure -/
noncomputable def txt (y : Nat) : Str := Txt.join (Str.ofString "") [pk (Str.ofString "") (Str.ofString ">") (Str.ofString "<") (Str.ofString "\"") (y % 4), pk (Str.ofString "") (Str.ofString ">") (Str.ofString "<") (Str.ofString "\"") (y / 4 % 4), pk (Str.ofString "") (Str.ofString ">") (Str.ofString "<") (Str.ofString "\"") (y / 16)]
noncomputable def Texts (T : List (Addr × Obj)) (a : Addr) (y : Nat → Nat) : Prop := ∃ vs n, (a, listOf (List.toArray vs) n) ∈ T ∧ ValsF vs 9 (fun i v => ∃ t, v = .str (txt (y i)) t)
noncomputable def mk (y : Nat) : Nat := wk (y % 4) + wk (y / 4 % 4) + wk (y / 16)
noncomputable def Marks (T : List (Addr × Obj)) (a : Addr) (y : Nat → Nat) : Prop := ∃ vs n, (a, listOf (List.toArray vs) n) ∈ T ∧ IntsZ vs 9 18 (fun i => (mk (y i) : Int))
theorem pk_len {d : Nat} : (pk (Str.ofString "") (Str.ofString ">") (Str.ofString "<") (Str.ofString "\"") d).length ≤ 1 := by
  unfold pk
  split
  · decide +kernel
  · split
    · decide +kernel
    · split <;> decide +kernel
theorem pk3 {a b c : Nat} : ((([pk (Str.ofString "") (Str.ofString ">") (Str.ofString "<") (Str.ofString "\"") a, pk (Str.ofString "") (Str.ofString ">") (Str.ofString "<") (Str.ofString "\"") b, pk (Str.ofString "") (Str.ofString ">") (Str.ofString "<") (Str.ofString "\"") c] : List Str).map (·.length)).sum + ([pk (Str.ofString "") (Str.ofString ">") (Str.ofString "<") (Str.ofString "\"") a, pk (Str.ofString "") (Str.ofString ">") (Str.ofString "<") (Str.ofString "\"") b, pk (Str.ofString "") (Str.ofString ">") (Str.ofString "<") (Str.ofString "\"") c] : List Str).length) ≤ 1048576 := by
  have h1 := pk_len (d := a)
  have h2 := pk_len (d := b)
  have h3 := pk_len (d := c)
  simp only [List.map_cons, List.map_nil, List.sum_cons, List.sum_nil, List.length_cons, List.length_nil]
  lia
noncomputable def dstat (y : Nat → Nat) (d : Nat) : Stat := ⟨1, 1, ((txt (y d)).length : Int), (mk (y d) : Int), [(nm d, 1)]⟩
noncomputable def Doors (w : World) (T : List (Addr × Obj)) (a : Addr) (y : Nat → Nat) : Prop := ∃ rs : List Addr, ∃ n, (a, listOf (List.toArray (rs.map Value.ref)) n) ∈ T ∧ rs.length = 9 ∧ ∀ d a', rs[d]? = some a' → IsStat w T a' (dstat y d)
theorem wk_le {d : Nat} : wk d ≤ 6 := by unfold wk; (repeat' split) <;> lia
theorem mk_le {y : Nat} : mk y ≤ 18 := by
  have h1 := wk_le (d := y % 4)
  have h2 := wk_le (d := y / 4 % 4)
  have h3 := wk_le (d := y / 16)
  unfold mk; lia
end
end
-- A5
section
theorem lit_0 : Str.ofString "" = ⟨#[]⟩ := by decide +kernel
theorem lit_gt : Str.ofString ">" = ⟨#[62]⟩ := by decide +kernel
theorem join0 : ∀ l : List Str, (Txt.join (Str.ofString "") l).cps.toList = l.flatMap (·.cps.toList) := by
  intro l
  have e : Txt.join (Str.ofString "") l = Str.join (Str.ofString "") l := eq_of_beq (join_plain_closes _ l)
  rw [e, lit_0]
  induction l with
  | nil => rfl
  | cons p r ih =>
    cases r with
    | nil => simp [Str.join]
    | cons q r =>
      show (p ++ ⟨#[]⟩ ++ Str.join ⟨#[]⟩ (q :: r)).cps.toList = _
      simp only [Str.cps_append, Array.toList_append, List.flatMap_cons]
      have ih' := ih (by rw [eq_of_beq (join_plain_closes _ (q :: r)), lit_0])
      rw [ih', List.flatMap_cons]
      simp
noncomputable def pkL (d : Nat) : List Nat := if d = 0 then [] else if d = 1 then [62] else if d = 2 then [60] else [34]
noncomputable def wrL (d : Nat) : List Nat := if d = 0 then [] else if d = 1 then [62] else if d = 2 then [38, 108, 116, 59] else [38, 113, 117, 111, 116, 59]
noncomputable abbrev pkP (d : Nat) : Str := pk (Str.ofString "") (Str.ofString ">") (Str.ofString "<") (Str.ofString "\"") d
noncomputable abbrev pkW (d : Nat) : Str := pk (Str.ofString "") (Str.ofString ">") (Str.ofString "&lt;") (Str.ofString "&quot;") d
theorem pk_list (d : Nat) : (pkP d).cps.toList = pkL d := by
  unfold pkP pk pkL
  rw [lit_0, lit_gt, lit_lt, lit_qu]
  (repeat' split) <;> rfl
theorem wr_list (d : Nat) : (pkW d).cps.toList = wrL d := by
  unfold pkW pk wrL
  rw [lit_0, lit_gt, lit_lt4, lit_qu6]
  (repeat' split) <;> rfl
theorem esc_pk (d : Nat) : escL (pkL d) = wrL d := by
  unfold pkL wrL
  (repeat' split) <;> rfl
theorem wr_len (d : Nat) : (wrL d).length = wk d := by
  unfold wrL wk
  (repeat' split) <;> rfl
theorem escL_append (a b : List Nat) : escL (a ++ b) = escL a ++ escL b := by unfold escL; rw [List.flatMap_append]
noncomputable def figL (y : Nat) : List Nat := [y % 4, y / 4 % 4, y / 16]
theorem txt_list (y : Nat) : (txt y).cps.toList = (figL y).flatMap pkL := by
  unfold txt
  rw [join0]
  simp only [List.flatMap_cons, List.flatMap_nil, figL, pk_list]
theorem escL_flat (l : List Nat) : escL (l.flatMap pkL) = l.flatMap wrL := by
  induction l with
  | nil => rfl
  | cons d r ih => rw [List.flatMap_cons, List.flatMap_cons, escL_append, esc_pk, ih]
theorem pkL_len (d : Nat) : (pkL d).length ≤ 1 := by unfold pkL; (repeat' split) <;> decide
theorem pkL_in (d k : Nat) (h : k ∈ pkL d) : k = 62 ∨ k = 60 ∨ k = 34 := by
  unfold pkL at h
  (repeat' split at h) <;> simp_all
theorem flatp_len (l : List Nat) : (l.flatMap pkL).length ≤ l.length := by
  induction l with
  | nil => exact Nat.le_refl _
  | cons d r ih =>
    have := pkL_len d
    rw [List.flatMap_cons, List.length_append, List.length_cons]
    omega
/-- a text of figures is plain -/
theorem plain_of {x : Str} {l : List Nat} (h : x.cps.toList = l.flatMap pkL) (hl : l.length ≤ 30) : Plain x := by
  refine ⟨fun k hk => ?_, ?_⟩
  · rw [h] at hk
    obtain ⟨d, _, hd⟩ := List.mem_flatMap.mp hk
    exact pkL_in d k hd
  · rw [h]; exact Nat.le_trans (flatp_len l) hl
theorem plain_txt (y : Nat) : Plain (txt y) := plain_of (txt_list y) (show 3 ≤ 30 by decide)
theorem wr_flatp_len (l : List Nat) : (l.flatMap wrL).length = (l.map wk).sum := by
  induction l with
  | nil => rfl
  | cons d r ih => rw [List.flatMap_cons, List.length_append, List.map_cons, List.sum_cons, wr_len, ih]
theorem esc_txt_len (y : Nat) : (escS (txt y)).length = mk y := by
  have : (escS (txt y)).length = (escL (txt y).cps.toList).length := by simp [Str.length, escS]
  rw [this, txt_list, escL_flat, wr_flatp_len]
  simp only [figL, List.map_cons, List.map_nil, List.sum_cons, List.sum_nil, mk]
  omega
theorem txt_len (y : Nat) : (txt y).length ≤ 3 := by
  have : (txt y).length = (txt y).cps.toList.length := by simp [Str.length]
  rw [this, txt_list]
  exact flatp_len (figL y)
theorem lt_txt {y : Nat} : ¬ ((txt y).length : Int) ≥ 2 ^ 63 := by have := txt_len y; omega
theorem lt_esc {y : Nat} : ¬ ((escS (txt y)).length : Int) ≥ 2 ^ 63 := by rw [esc_txt_len]; have := mk_le (y := y); omega
end
-- G2b
section
section
variable {prog : Program} {w : World} {A : Around} {s : Shared} {h₀ : Heap} {L : Addr} {m : Str → Option Value} {env : Env}
open LCg
/-- a comprehension by its word: the ledger may grow -/
theorem comp_inv {elt : Expr} {x : Str} {scope : Scope} {cl : List (Str × Addr)} {S : List (Addr × Obj) → Prop} {P : Nat → Value → Prop} {Fin : List Value → List (Addr × Obj) → Prop} {n : Nat} {news : List (Addr × Obj)} (J : Nat → List Value → List (Addr × Obj) → Prop) (h0 : J 0 [] news)
    (step : ∀ i v ys news₁ I oI C oC D m₂ h tk (E' : Value → Shared → Prop), i < n → P i v → ys.length = i → J i ys news₁ → NsObj oC m₂ → m₂ x = some v → Fr h₀ L h m → News h₀ L h ((I, oI) :: (C, oC) :: (D, lst ys) :: news₁) → Off3 I C D news₁ → ((@Ne Nat I C) ∧ (@Ne Nat I D) ∧ (@Ne Nat C D)) →
      wpAny (model prog w) A (eval elt (compEnvC scope cl C env)) (CompEnd h₀ L m { s with heap := h, toks := tk } I oI C oC D (lst ys) S (fun y news' => J (i + 1) (ys ++ [y]) news')) E' { s with heap := h, toks := tk })
    (fin : ∀ ys news', ys.length = n → J n ys news' → Fin ys news') : CompRest prog w A h₀ L m env elt x scope cl s S P Fin n 0 [] news := by
  have key : ∀ k i ys news₁, i + k = n → ys.length = i → J i ys news₁ → CompRest prog w A h₀ L m env elt x scope cl s S P Fin k i ys news₁ := by
    intro k
    induction k with
    | zero => intro i ys news₁ hi hl hJ; rw [Nat.add_zero] at hi; subst hi; exact CompRest.zero (fin ys news₁ hl hJ)
    | succ k ih =>
      intro i ys news₁ hi hl hJ
      refine CompRest.succ fun v I oI C oC D m₂ h tk E' hP hC hx F N off ne => ?_
      refine wpAny_mono (step i v ys news₁ I oI C oC D m₂ h tk E' (by omega) hP hl hJ hC hx F N off ne) (fun y s' hE => ?_) fun _ _ e => e
      refine Mine.by_op fun P9 bk9 => ?_
      obtain ⟨h', tk', news', e1, F', N', off', hS, hJ'⟩ := hE
      refine bk9 ?_; clear bk9 P9
      exact ⟨h', tk', news', e1, F', N', off', hS, ih (i + 1) (ys ++ [y]) news' (by omega) (by rw [List.length_append, hl]; rfl) hJ'⟩
  exact key n 0 [] news (Nat.zero_add n) rfl h0
end
/-- the kept walk's bytes -/
noncomputable def wb (l : List Nat) : List UInt8 := l.map Nat.toUInt8
noncomputable def Ways (T : List (Addr × Obj)) (a : Addr) (W : Nat → List Nat) : Prop := ∃ vs n, (a, listOf (List.toArray vs) n) ∈ T ∧ ValsF vs 3 (fun i v => ∃ t, v = .bytes (wb (W i)).toArray t)
/-- the rows of one stage -/
noncomputable def StageAt (w : World) (T : List (Addr × Obj)) (a : Addr) (S : Nat → Stat) : Prop := ∃ rs : List Addr, ∃ n, (a, listOf (List.toArray (rs.map Value.ref)) n) ∈ T ∧ rs.length = 3 ∧ ∀ r a', rs[r]? = some a' → IsStat w T a' (S r)
theorem isStat_mono {w : World} {T T' : List (Addr × Obj)} {a : Addr} {st : Stat} (h : IsStat w T a st) (hs : ∀ p ∈ T, p ∈ T') : IsStat w T' a st := by
  refine Mine.by_op fun P9 bk9 => ?_
  obtain ⟨q1, q2, q3, q4, q5, q6, q7, e1, e2, e3⟩ := h
  refine bk9 ?_; clear bk9 P9
  exact ⟨q1, q2, q3, q4, q5, q6, q7, hs _ e1, hs _ e2, e3⟩
theorem stageAt_mono {w : World} {T T' : List (Addr × Obj)} {a : Addr} {S : Nat → Stat} (h : StageAt w T a S) (hs : ∀ p ∈ T, p ∈ T') : StageAt w T' a S := by
  refine Mine.by_op fun P9 bk9 => ?_
  obtain ⟨rs, n, h1, h2, h3⟩ := h
  refine bk9 ?_; clear bk9 P9
  exact ⟨rs, n, hs _ h1, h2, fun r a' hr => isStat_mono (h3 r a' hr) hs⟩
end
-- C5
section
open Sem (wp)
section
variable {prog : Program} {w : World} {A : Around} {E : Value → Shared → Prop} {R : Result → Shared → Prop} {s : Shared} {h₀ : Heap} {L : Addr} {m : Str → Option Value} {env : Env} {news : List (Addr × Obj)}
/-- a list made by two fors -/
noncomputable abbrev two (elt iter iter2 : Expr) (x z : Str) (px pz : Pos) (scope : Scope) (pos : Pos) : Expr := .ListComp elt [⟨.Name x px, iter, [], 0⟩, ⟨.Name z pz, iter2, [], 0⟩] scope pos
theorem two_turn0 (elt iter iter2 : Expr) (x z : Str) (px pz : Pos) (scope : Scope) (pos : Pos) (it acc : Value) (env : Env) :
    compTurn (two elt iter iter2 x z px pz scope pos) 0 it acc env = (standAt iter.pos >>= fun _ => pyNext it >>= fun r => match r with
      | none => pure (.done .next)
      | some v => letOwnedTupleGo (.Name x px) it v >>= fun _ => assign (.Name x px) env v >>= fun _ =>
        (eval iter2 env >>= fun y => standAt iter2.pos >>= fun _ => foldedSetIterable iter2 env y >>= fun y => holding [y] (pyIter y) >>= fun i2 => runOwn (.compStart (two elt iter iter2 x z px pz scope pos) 1 i2 acc env) env >>= fun _ =>
          again (.compLoop (two elt iter iter2 x z px pz scope pos) 0 it acc env))) := by rfl
theorem two_turn1 (elt iter iter2 : Expr) (x z : Str) (px pz : Pos) (scope : Scope) (pos : Pos) (it acc : Value) (env : Env) :
    compTurn (two elt iter iter2 x z px pz scope pos) 1 it acc env = (standAt iter2.pos >>= fun _ => pyNext it >>= fun r => match r with
      | none => pure (.done .next)
      | some v => letOwnedTupleGo (.Name z pz) it v >>= fun _ => assign (.Name z pz) env v >>= fun _ =>
        (eval elt env >>= fun x => call (.builtin "list.append") [acc, x] >>= fun _ => pure ()) >>= fun _ =>
          again (.compLoop (two elt iter iter2 x z px pz scope pos) 1 it acc env)) := by rfl
theorem two_start1 {elt iter iter2 : Expr} {x z : Str} {px pz : Pos} {scope : Scope} {pos : Pos} {it acc : Value} {env : Env}
    (h0 : codeAny (model prog w) A (.compLoop (two elt iter iter2 x z px pz scope pos) 1 it acc env) R s)
    (h : wpAny (model prog w) A (pyIter it) (fun it' s' => codeAny (model prog w) A (.compLoop (two elt iter iter2 x z px pz scope pos) 1 it' acc env) R s')
      (notedBy (model prog w) A env fun x s' => R (.error x) s') s) :
    codeAny (model prog w) A (.compStart (two elt iter iter2 x z px pz scope pos) 1 it acc env) R s := by
  refine codeAny_of_tree ?_
  show wpAny _ _ ((compStart (two elt iter iter2 x z px pz scope pos) 1 it acc env).onRaise (fun x => do noteFrame x env; standAt theWindowsPlace)) _ _ s
  refine wpAny_notedAt ?_
  unfold compStart
  show wpAny _ _ (ask >>= _) _ _ s
  refine wpAny_bind (wpAny_askSetting (wpAny_ite ?_))
  split
  · first
      | exact wpAny_bind (wpAny_pure (wpAny_pure (And.intro rfl h0)))
      | exact wpAny_pure (And.intro rfl h0)
  · refine wpAny_bind (wpAny_rule ?_)
    show wpAny _ _ (standAt iter2.pos >>= _) _ _ s
    exact wpAny_bind (wpAny_standAt (wpAny_bind (wpAny_mono h (fun it' s' h' => wpAny_pure (And.intro rfl h')) fun _ _ x => x)))
theorem two_loop1 {elt iter iter2 : Expr} {x z : Str} {px pz : Pos} {scope : Scope} {pos : Pos} {it acc : Value} {env : Env} (I : Nat → Shared → Prop)
    (turn : ∀ n s, I n s → ∀ E' : Value → Shared → Prop, wpAny (model prog w) A (pyNext it) (fun r s₁ => match r with
      | none => R (.ok .next) s₁
      | some v => wpAny (model prog w) A (assign (.Name z pz) env v) (fun _ s₂ => wpAny (model prog w) A (eval elt env) (fun x s₃ =>
          wpAny (model prog w) A (call (.builtin "list.append") [acc, x]) (fun _ s₄ => ∃ m, m < n ∧ I m s₄) E' s₃) E' s₂) E' s₁) E' s)
    (n : Nat) (h : I n s) :
    codeAny (model prog w) A (.compLoop (two elt iter iter2 x z px pz scope pos) 1 it acc env) R s := by
  refine codeAny_loop rfl I (fun n s hI => ?_) n h
  show wpAny _ A ((compTurn (two elt iter iter2 x z px pz scope pos) 1 it acc env).onRaise (fun x => do noteFrame x env; theTreesLotGoes x)) _ _ s
  refine wpAny_noted ?_
  rw [two_turn1]
  refine wpAny_bind (wpAny_standAt (wpAny_bind (wpAny_mono (turn n s hI _) (fun r s₁ h₁ => ?_) fun _ _ h' => h')))
  cases r with
  | none => exact wpAny_pure h₁
  | some v =>
    refine wpAny_bind (wpAny_of_eq (show letOwnedTupleGo (.Name z pz) it v = pure () from rfl) ?_)
    exact wpAny_bind (wpAny_mono h₁ (fun _ s₂ h₂ => wpAny_bind (wpAny_bind (wpAny_mono h₂ (fun x s₃ h₃ => wpAny_bind (wpAny_mono h₃
      (fun _ s₄ h₄ => wpAny_pure (wpAny_pure ⟨rfl, h₄⟩)) fun _ _ h' => h')) fun _ _ h' => h'))) fun _ _ h' => h')
theorem two_loop0 {elt iter iter2 : Expr} {x z : Str} {px pz : Pos} {scope : Scope} {pos : Pos} {it acc : Value} {env : Env} (hA : A.mark none = A) (I : Nat → Shared → Prop)
    (turn : ∀ n s, I n s → ∀ E' : Value → Shared → Prop, ∀ EE : Value → Shared → Prop, wpAny (model prog w) A (pyNext it) (fun r s₁ => match r with
      | none => R (.ok .next) s₁
      | some v => wpAny (model prog w) A (assign (.Name x px) env v) (fun _ s₂ => wpAny (model prog w) A (eval iter2 env) (fun y s₃ =>
          wpAny (model prog w) A (pyIter y) (fun i2 s₄ => codeAny (model prog w) A (.compStart (two elt iter iter2 x z px pz scope pos) 1 i2 acc env) (fun r s' => match r with | .ok _ => ∃ m, m < n ∧ I m s' | .error e => EE e s') s₄) E' s₃) E' s₂) E' s₁) E' s)
    (n : Nat) (h : I n s) (hs : ∀ y, foldedSetIterable iter2 env y = pure y) :
    codeAny (model prog w) A (.compLoop (two elt iter iter2 x z px pz scope pos) 0 it acc env) R s := by
  refine codeAny_loop rfl I (fun n s hI => ?_) n h
  show wpAny _ A ((compTurn (two elt iter iter2 x z px pz scope pos) 0 it acc env).onRaise (fun x => do noteFrame x env; theTreesLotGoes x)) _ _ s
  refine wpAny_noted ?_
  rw [two_turn0]
  refine wpAny_bind (wpAny_standAt (wpAny_bind (wpAny_mono (turn n s hI _ (cameBackBy (model prog w) A env (notedBy (model prog w) A env fun e s' => R (.error e) s'))) (fun r s₁ h₁ => ?_) fun _ _ h' => h')))
  cases r with
  | none => exact wpAny_pure h₁
  | some v =>
    refine wpAny_bind (wpAny_of_eq (show letOwnedTupleGo (.Name x px) it v = pure () from rfl) ?_)
    refine wpAny_bind (wpAny_mono h₁ (fun _ s₂ h₂ => wpAny_bind (wpAny_mono h₂ (fun y s₃ h₃ => wpAny_bind (wpAny_standAt (wpAny_bind (wpAny_of_eq (hs y) (wpAny_bind (wpAny_holding (wpAny_mono h₃ (fun i2 s₄ h₄ => wpAny_bind ?_) fun _ _ h' => h'))))))) fun _ _ h' => h')) fun _ _ h' => h')
    refine wpAny_runOwn ?_
    rw [hA]
    refine codeAny_mono h₄ fun r s' h' => ?_
    cases r with
    | ok f => exact wpAny_pure ⟨rfl, h'⟩
    | error e => exact h'
end
end
-- C6
section
open Sem (wp)
section
variable {prog : Program} {w : World} {A : Around} {E : Value → Shared → Prop} {R : Result → Shared → Prop} {s : Shared} {h₀ : Heap} {L : Addr} {m : Str → Option Value} {env : Env} {news : List (Addr × Obj)}
noncomputable def keepBut (b : Addr) (h h' : Heap) : Prop := ∀ a o, a ≠ b → h.get? a = some o → h'.get? a = some o
set_option genSizeOf false in
set_option genInjectivity false in
/-- what stands while a comprehension runs: the frame, the ledger, the list that grows, the outer iterator -/
structure Mid (h₀ : Heap) (L : Addr) (m : Str → Option Value) (news : List (Addr × Obj)) (D I0 ax : Addr) (i : Nat) (ys : List Value) (h : Heap) : Prop where
  fr : Fr h₀ L h m
  ne : News h₀ L h news
  li : h.get? D = some (LCg.lst ys)
  it : h.IsListIter I0 ax i
theorem Mid.but {D I0 ax b : Addr} {i : Nat} {ys : List Value} {h h' : Heap} (x : Mid h₀ L m news D I0 ax i ys h) (hk : keepBut b h h') (hL : L ≠ b) (h0 : h₀.get? b = none) (hn : ∀ p ∈ news, p.1 ≠ b) (hD : D ≠ b) (hI : I0 ≠ b) : Mid h₀ L m news D I0 ax i ys h' :=
  ⟨⟨x.fr.ns.at' fun o e => hk L o hL e, fun a o e => hk a o (fun q => by rw [q, h0] at e; cases e) (x.fr.keep a o e), x.fr.above⟩, fun p hp => ⟨hk _ _ (hn p hp) (x.ne p hp).1, (x.ne p hp).2⟩, hk _ _ hD x.li, x.it.at fun o e => hk _ o hI e⟩
set_option synthInstance.maxSize 100000 in
set_option synthInstance.maxHeartbeats 800000 in
noncomputable def s_two_inner (d : (Program × World × Around × (Result → Shared → Prop)) × (Shared × Heap × Addr × (Str → Option Value)) × (Env × (List (Addr × Obj)) × Expr × Expr) × (Expr × Str × Str × Pos) × (Pos × Scope × Pos × (List (Str × Addr))) × (Addr × Addr × Addr × Addr) × (Addr × Addr × (List Value) × (List Value)) × (Nat × Value × (Nat → Value → Prop))) : Prop := ∀ (i : Nat) (m' : Str → Option Value) (hh : (d.1.2.2.1).handled = none) (hkind : (d.2.2.2.2.1.2.1).kind = .function) (hz : (d.2.2.2.2.1.2.1).names.lookup (d.2.2.2.1.2.2.1) = some .local) (hxz : (d.2.2.2.1.2.1) ≠ (d.2.2.2.1.2.2.1)) (M : Mid (d.2.1.2.1) (d.2.1.2.2.1) (d.2.1.2.2.2) (d.2.2.1.2.1) (d.2.2.2.2.2.1.2.1) (d.2.2.2.2.2.1.2.2.1) (d.2.2.2.2.2.2.1.1) i (d.2.2.2.2.2.2.1.2.2.1) (d.2.1.1).heap) (hC : (d.2.1.1).heap.Ns (d.2.2.2.2.2.1.1) m') (hx : m' (d.2.2.2.1.2.1) = some (d.2.2.2.2.2.2.2.2.1)) (h1 : (d.2.1.1).heap.IsListIter (d.2.2.2.2.2.1.2.2.2) (d.2.2.2.2.2.2.1.2.1) 0) (ha2 : ((d.2.2.2.2.2.2.1.2.1), listOf (d.2.2.2.2.2.2.1.2.2.2).toArray (d.2.2.2.2.2.2.2.1)) ∈ (d.2.2.1.2.1)) (hl2 : (d.2.2.2.2.2.2.1.2.2.2).length ≤ 100) (hl0 : (d.2.2.2.2.2.2.1.2.2.1).length ≤ 100) (nC : (d.2.2.2.2.2.1.1) ≠ (d.2.1.2.2.1) ∧ (d.2.2.2.2.2.1.1) ≠ (d.2.2.2.2.2.1.2.1) ∧ (d.2.2.2.2.2.1.1) ≠ (d.2.2.2.2.2.1.2.2.1) ∧ (d.2.2.2.2.2.1.1) ≠ (d.2.2.2.2.2.1.2.2.2) ∧ (d.2.1.2.1).get? (d.2.2.2.2.2.1.1) = none ∧ ∀ p ∈ (d.2.2.1.2.1), p.1 ≠ (d.2.2.2.2.2.1.1)) (n1 : (d.2.2.2.2.2.1.2.2.2) ≠ (d.2.1.2.2.1) ∧ (d.2.2.2.2.2.1.2.2.2) ≠ (d.2.2.2.2.2.1.2.1) ∧ (d.2.2.2.2.2.1.2.2.2) ≠ (d.2.2.2.2.2.1.2.2.1) ∧ (d.2.1.2.1).get? (d.2.2.2.2.2.1.2.2.2) = none ∧ ∀ p ∈ (d.2.2.1.2.1), p.1 ≠ (d.2.2.2.2.2.1.2.2.2)) (nD : (d.2.2.2.2.2.1.2.1) ≠ (d.2.1.2.2.1) ∧ (d.2.2.2.2.2.1.2.1) ≠ (d.2.2.2.2.2.1.2.2.1) ∧ (d.2.1.2.1).get? (d.2.2.2.2.2.1.2.1) = none ∧ ∀ p ∈ (d.2.2.1.2.1), p.1 ≠ (d.2.2.2.2.2.1.2.1)) (elem : ∀ j u oC m₂ h tk (E' : Value → Shared → Prop), (d.2.2.2.2.2.2.1.2.2.2)[j]? = some u → LCg.NsObj oC m₂ → m₂ (d.2.2.2.1.2.1) = some (d.2.2.2.2.2.2.2.2.1) → m₂ (d.2.2.2.1.2.2.1) = some u → Fr (d.2.1.2.1) (d.2.1.2.2.1) h (d.2.1.2.2.2) → News (d.2.1.2.1) (d.2.1.2.2.1) h (((d.2.2.2.2.2.1.1), oC) :: (d.2.2.1.2.1)) →
      wpAny (model (d.1.1) (d.1.2.1)) (d.1.2.2.1) (eval (d.2.2.1.2.2.1) (compEnvC (d.2.2.2.2.1.2.1) (d.2.2.2.2.1.2.2.2) (d.2.2.2.2.2.1.1) (d.2.2.1.1))) (fun y s₂ => ∃ tk', s₂ = { (d.2.1.1) with heap := h, toks := tk' } ∧ (d.2.2.2.2.2.2.2.2.2) j y) E' { (d.2.1.1) with heap := h, toks := tk }) (hR : ∀ h tk ys m', Mid (d.2.1.2.1) (d.2.1.2.2.1) (d.2.1.2.2.2) (d.2.2.1.2.1) (d.2.2.2.2.2.1.2.1) (d.2.2.2.2.2.1.2.2.1) (d.2.2.2.2.2.2.1.1) i ((d.2.2.2.2.2.2.1.2.2.1) ++ ys) h → ValsF ys (d.2.2.2.2.2.2.1.2.2.2).length (d.2.2.2.2.2.2.2.2.2) → h.Ns (d.2.2.2.2.2.1.1) m' → (d.1.2.2.2) (.ok .next) { (d.2.1.1) with heap := h, toks := tk }), codeAny (model (d.1.1) (d.1.2.1)) (d.1.2.2.1) (.compStart (two (d.2.2.1.2.2.1) (d.2.2.1.2.2.2) (d.2.2.2.1.1) (d.2.2.2.1.2.1) (d.2.2.2.1.2.2.1) (d.2.2.2.1.2.2.2) (d.2.2.2.2.1.1) (d.2.2.2.2.1.2.1) (d.2.2.2.2.1.2.2.1)) 1 (.ref (d.2.2.2.2.2.1.2.2.2)) (.ref (d.2.2.2.2.2.1.2.1)) (compEnvC (d.2.2.2.2.1.2.1) (d.2.2.2.2.1.2.2.2) (d.2.2.2.2.2.1.1) (d.2.2.1.1))) (d.1.2.2.2) (d.2.1.1)
set_option synthInstance.maxSize 100000 in
set_option synthInstance.maxHeartbeats 800000 in
@[irreducible] noncomputable def k_two_inner : (Program × World × Around × (Result → Shared → Prop)) × (Shared × Heap × Addr × (Str → Option Value)) × (Env × (List (Addr × Obj)) × Expr × Expr) × (Expr × Str × Str × Pos) × (Pos × Scope × Pos × (List (Str × Addr))) × (Addr × Addr × Addr × Addr) × (Addr × Addr × (List Value) × (List Value)) × (Nat × Value × (Nat → Value → Prop)) := pick (by haveI := ne_World; haveI := ne_Around; haveI := ne_Shared; exact inferInstance) s_two_inner
theorem two_inner_c : s_two_inner k_two_inner := by
  delta s_two_inner
  intro i m' hh hkind hz hxz M hC hx h1 ha2 hl2 hl0 nC n1 nD elem hR
  refine Mine.by_op fun P9 bk9 => ?_
  obtain ⟨c1, c2, c3, c4, c5, c6⟩ := nC
  refine bk9 ?_; clear bk9 P9
  refine Mine.by_op fun P9 bk9 => ?_
  obtain ⟨i1, i2, i3, i4, i5⟩ := n1
  refine bk9 ?_; clear bk9 P9
  refine Mine.by_op fun P9 bk9 => ?_
  obtain ⟨d1, d2, d3, d4⟩ := nD
  refine bk9 ?_; clear bk9 P9
  have ha21 : (k_two_inner.2.2.2.2.2.2.1.2.1) ≠ (k_two_inner.2.2.2.2.2.1.2.2.2) := i5 _ ha2
  have hlist : ∀ {h : Heap}, News (k_two_inner.2.1.2.1) (k_two_inner.2.1.2.2.1) h (k_two_inner.2.2.1.2.1) → h.IsList (k_two_inner.2.2.2.2.2.2.1.2.1) (k_two_inner.2.2.2.2.2.2.1.2.2.2).toArray := fun N => ⟨_, (N _ ha2).1, rfl, (k_two_inner.2.2.2.2.2.2.2.1), rfl⟩
  have W := Walks.list (prog := (k_two_inner.1.1)) (w := (k_two_inner.1.2.1)) hh (k_two_inner.2.2.2.2.2.1.2.2.2) (k_two_inner.2.2.2.2.2.2.1.2.1) ha21 (k_two_inner.2.2.2.2.2.2.1.2.2.2).toArray
  have loop : codeAny (model (k_two_inner.1.1) (k_two_inner.1.2.1)) (k_two_inner.1.2.2.1) (.compLoop (two (k_two_inner.2.2.1.2.2.1) (k_two_inner.2.2.1.2.2.2) (k_two_inner.2.2.2.1.1) (k_two_inner.2.2.2.1.2.1) (k_two_inner.2.2.2.1.2.2.1) (k_two_inner.2.2.2.1.2.2.2) (k_two_inner.2.2.2.2.1.1) (k_two_inner.2.2.2.2.1.2.1) (k_two_inner.2.2.2.2.1.2.2.1)) 1 (.ref (k_two_inner.2.2.2.2.2.1.2.2.2)) (.ref (k_two_inner.2.2.2.2.2.1.2.1)) (compEnvC (k_two_inner.2.2.2.2.1.2.1) (k_two_inner.2.2.2.2.1.2.2.2) (k_two_inner.2.2.2.2.2.1.1) (k_two_inner.2.2.1.1))) (k_two_inner.1.2.2.2) (k_two_inner.2.1.1) := by
    refine two_loop1 (fun n s' => ∃ h' tk j ys m', s' = { (k_two_inner.2.1.1) with heap := h', toks := tk } ∧ j ≤ (k_two_inner.2.2.2.2.2.2.1.2.2.2).length ∧ n = (k_two_inner.2.2.2.2.2.2.1.2.2.2).length + 1 - j ∧ ValsF ys j (k_two_inner.2.2.2.2.2.2.2.2.2) ∧ Mid (k_two_inner.2.1.2.1) (k_two_inner.2.1.2.2.1) (k_two_inner.2.1.2.2.2) (k_two_inner.2.2.1.2.1) (k_two_inner.2.2.2.2.2.1.2.1) (k_two_inner.2.2.2.2.2.1.2.2.1) (k_two_inner.2.2.2.2.2.2.1.1) i ((k_two_inner.2.2.2.2.2.2.1.2.2.1) ++ ys) h' ∧ h'.IsListIter (k_two_inner.2.2.2.2.2.1.2.2.2) (k_two_inner.2.2.2.2.2.2.1.2.1) j ∧ h'.Ns (k_two_inner.2.2.2.2.2.1.1) m' ∧ m' (k_two_inner.2.2.2.1.2.1) = some (k_two_inner.2.2.2.2.2.2.2.2.1)) ?_ ((k_two_inner.2.2.2.2.2.2.1.2.2.2).length + 1)
      ⟨(k_two_inner.2.1.1).heap, (k_two_inner.2.1.1).toks, 0, [], m', rfl, Nat.zero_le _, rfl, ⟨rfl, fun i hi => absurd hi (Nat.not_lt_zero _)⟩, by rw [List.append_nil]; exact M, h1, hC, hx⟩
    intro n s' qz29 E'
    refine Mine.by_op fun P9 bk9 => ?_
    obtain ⟨h', tk, j, ys, m1, rfl, hj, rfl, hv, M1, hit, hn, hx1⟩ := qz29
    refine bk9 ?_; clear bk9 P9
    by_cases hlt : j < (k_two_inner.2.2.2.2.2.2.1.2.2.2).length
    · refine W.item j _ _ _ (by rw [List.size_toArray]; exact hlt) ⟨hit, hlist M1.ne⟩ fun u h₂ tk₂ hP hst₂ hk₂ => ?_
      have hP' : (k_two_inner.2.2.2.2.2.2.1.2.2.2)[j]? = some u := by rw [← hP, List.getElem?_toArray]
      have k2' : keepBut (k_two_inner.2.2.2.2.2.1.2.2.2) h' h₂ := fun a o ne e => hk₂ a o (fun hm => ne (List.mem_singleton.mp hm)) e
      have M2 := M1.but k2' (Ne.symm i1) i4 i5 (Ne.symm i2) (Ne.symm i3)
      have hn2 : h₂.Ns (k_two_inner.2.2.2.2.2.1.1) m1 := hn.at' fun o e => k2' (k_two_inner.2.2.2.2.2.1.1) o c4 e
      refine wpAny_assign_Name (wpAny_storeName_local (lookup_relabel_local hz) hn2 (fun h₃ hn₃ hs₃ => ?_) (by simp [compEnvC, relabel, hkind]))
      have k3 : keepBut (k_two_inner.2.2.2.2.2.1.1) h₂ h₃ := fun a o ne e => hs₃.extBut a o ne e
      have M3 := M2.but k3 (Ne.symm c1) c5 c6 (Ne.symm c2) (Ne.symm c3)
      have hit3 : h₃.IsListIter (k_two_inner.2.2.2.2.2.1.2.2.2) (k_two_inner.2.2.2.2.2.2.1.2.1) (j + 1) := hst₂.1.at fun o e => k3 (k_two_inner.2.2.2.2.2.1.2.2.2) o (Ne.symm c4) e
      refine Mine.by_op fun P9 bk9 => ?_
      obtain ⟨oC, heC, hoC⟩ := LCg.ns_obj hn₃
      refine bk9 ?_; clear bk9 P9
      have N3 : News (k_two_inner.2.1.2.1) (k_two_inner.2.1.2.2.1) h₃ (((k_two_inner.2.2.2.2.2.1.1), oC) :: (k_two_inner.2.2.1.2.1)) := fun p hp => by
        rcases List.mem_cons.mp hp with rfl | hp
        · exact ⟨heC, c1, c5⟩
        · exact M3.ne p hp
      refine wpAny_mono (elem j u oC _ h₃ _ E' hP' hoC ((if_neg hxz).trans hx1) (if_pos rfl) M3.fr N3) (fun y s₄ h₄ => ?_) fun _ _ e => e
      refine Mine.by_op fun P9 bk9 => ?_
      obtain ⟨tk4, rfl, hG⟩ := h₄
      refine bk9 ?_; clear bk9 P9
      have hyl : ys.length = j := hv.1
      refine append_at (hsz := by show ((k_two_inner.2.2.2.2.2.2.1.2.2.1) ++ ys).toArray.size ≤ sizeLine; rw [List.size_toArray, List.length_append, hyl, sizeLine_eq]; omega) M3.li fun h₅ hs₅ hD₅ => ?_
      have k5 : keepBut (k_two_inner.2.2.2.2.2.1.2.1) h₃ h₅ := fun a o ne e => hs₅.extBut a o ne e
      refine ⟨(k_two_inner.2.2.2.2.2.2.1.2.2.2).length + 1 - (j + 1), by omega, h₅, tk4, j + 1, ys ++ [y], _, rfl, hlt, rfl, hv.snoc hG, ⟨⟨M3.fr.ns.at' fun o e => k5 (k_two_inner.2.1.2.2.1) o (Ne.symm d1) e, fun a o e => k5 a o (fun q => by rw [q, d3] at e; cases e) (M3.fr.keep a o e), M3.fr.above⟩, fun p hp => ⟨k5 _ _ (d4 p hp) (M3.ne p hp).1, (M3.ne p hp).2⟩, ?_, M3.it.at fun o e => k5 _ o (Ne.symm d2) e⟩,
        hit3.at fun o e => k5 _ o i2 e, hn₃.at' fun o e => k5 (k_two_inner.2.2.2.2.2.1.1) o c2 e, (if_neg hxz).trans hx1⟩
      rw [← List.append_assoc]
      exact hD₅.trans (congrArg some (LCg.lst_snoc ((k_two_inner.2.2.2.2.2.2.1.2.2.1) ++ ys) y))
    · refine Mine.by_op fun P9 bk9 => ?_
      obtain rfl : j = (k_two_inner.2.2.2.2.2.2.1.2.2.2).length := Nat.le_antisymm hj (Nat.not_lt.mp hlt)
      refine bk9 ?_; clear bk9 P9
      refine W.done _ _ _ (by rw [List.size_toArray]; exact ⟨hit, hlist M1.ne⟩) fun h₂ tk₂ hk₂ => ?_
      have k2' : keepBut (k_two_inner.2.2.2.2.2.1.2.2.2) h' h₂ := fun a o ne e => hk₂ a o (fun hm => ne (List.mem_singleton.mp hm)) e
      exact hR _ _ ys m1 (M1.but k2' (Ne.symm i1) i4 i5 (Ne.symm i2) (Ne.symm i3)) hv (hn.at' fun o e => k2' (k_two_inner.2.2.2.2.2.1.1) o c4 e)
  exact two_start1 loop (W.self 0 _ _ _ ⟨h1, hlist M.ne⟩ loop)
theorem two_inner {elt iter iter2 : Expr} {x z : Str} {px pz : Pos} {scope : Scope} {pos : Pos} {cl : List (Str × Addr)} {C D I0 I1 ax a2 : Addr} {i : Nat} {ys₀ : List Value} {its2 : List Value} {k2 : Nat} {v : Value} {m' : Str → Option Value} (G : Nat → Value → Prop)
    (hh : A.handled = none) (hkind : scope.kind = .function) (hz : scope.names.lookup z = some .local) (hxz : x ≠ z)
    (M : Mid h₀ L m news D I0 ax i ys₀ s.heap) (hC : s.heap.Ns C m') (hx : m' x = some v) (h1 : s.heap.IsListIter I1 a2 0) (ha2 : (a2, listOf its2.toArray k2) ∈ news) (hl2 : its2.length ≤ 100) (hl0 : ys₀.length ≤ 100)
    (nC : C ≠ L ∧ C ≠ D ∧ C ≠ I0 ∧ C ≠ I1 ∧ h₀.get? C = none ∧ ∀ p ∈ news, p.1 ≠ C) (n1 : I1 ≠ L ∧ I1 ≠ D ∧ I1 ≠ I0 ∧ h₀.get? I1 = none ∧ ∀ p ∈ news, p.1 ≠ I1) (nD : D ≠ L ∧ D ≠ I0 ∧ h₀.get? D = none ∧ ∀ p ∈ news, p.1 ≠ D)
    (elem : ∀ j u oC m₂ h tk (E' : Value → Shared → Prop), its2[j]? = some u → LCg.NsObj oC m₂ → m₂ x = some v → m₂ z = some u → Fr h₀ L h m → News h₀ L h ((C, oC) :: news) →
      wpAny (model prog w) A (eval elt (compEnvC scope cl C env)) (fun y s₂ => ∃ tk', s₂ = { s with heap := h, toks := tk' } ∧ G j y) E' { s with heap := h, toks := tk })
    (hR : ∀ h tk ys m', Mid h₀ L m news D I0 ax i (ys₀ ++ ys) h → ValsF ys its2.length G → h.Ns C m' → R (.ok .next) { s with heap := h, toks := tk }) : codeAny (model prog w) A (.compStart (two elt iter iter2 x z px pz scope pos) 1 (.ref I1) (.ref D) (compEnvC scope cl C env)) R s :=
  pick_all k_two_inner.eq_1 two_inner_c ((prog, w, A, R), (s, h₀, L, m), (env, news, elt, iter), (iter2, x, z, px), (pz, scope, pos, cl), (C, D, I0, I1), (ax, a2, ys₀, its2), (k2, v, G)) i m' hh hkind hz hxz M hC hx h1 ha2 hl2 hl0 nC n1 nD elem hR
theorem valsF_append {ys zs : List Value} {a r : Nat} {G : Nat → Value → Prop} (hy : ValsF ys a G) (hz : ValsF zs r (fun j v => G (a + j) v)) : ValsF (ys ++ zs) (a + r) G := by
  refine ⟨by rw [List.length_append, hy.1, hz.1], fun i hi => ?_⟩
  by_cases hlt : i < a
  · refine Mine.by_op fun P9 bk9 => ?_
    obtain ⟨v, e, g⟩ := hy.2 i hlt
    refine bk9 ?_; clear bk9 P9
    exact ⟨v, by rw [List.getElem?_append_left (by rw [hy.1]; exact hlt)]; exact e, g⟩
  · refine Mine.by_op fun P9 bk9 => ?_
    obtain ⟨v, e, g⟩ := hz.2 (i - a) (by omega)
    refine bk9 ?_; clear bk9 P9
    refine ⟨v, by rw [List.getElem?_append_right (by rw [hy.1]; omega), hy.1]; exact e, ?_⟩
    have : a + (i - a) = i := by omega
    rw [this] at g
    exact g
/- a list made by two fors, both over lists of the ledger, no element making anything -/
set_option synthInstance.maxSize 100000 in
set_option synthInstance.maxHeartbeats 800000 in
noncomputable def s_ListComp_two (d : (Program × World × Around × (Value → Shared → Prop)) × (Shared × Heap × Addr × (Str → Option Value)) × (Env × Expr × Expr × Expr) × (Str × Str × Pos × Pos) × (Scope × Pos × (List (Str × Addr)) × (Value → Shared → Prop)) × (Nat × Nat × (Nat → Value → Prop))) : Prop := ∀ (hh : (d.1.2.2.1).handled = none) (hA : (d.1.2.2.1).mark none = (d.1.2.2.1)) (hnr : (d.2.2.2.2.2.2.1) * (d.2.2.2.2.2.1) ≤ 100) (hn : (d.2.2.2.2.2.1) ≤ 100) (hr : (d.2.2.2.2.2.2.1) ≤ 100) (hclos : closureFor (d.2.2.2.2.1.1) (d.2.2.1.1) = pure (d.2.2.2.2.1.2.2.1)) (hcell : ∀ y ∈ (d.2.2.2.2.1.1).names, y.2 ≠ .cell) (hkind : (d.2.2.2.2.1.1).kind = .function) (hnames : ∀ y ∈ (d.2.2.2.2.1.1).names, y.2 = .local → (d.2.2.2.2.1.1).names.lookup y.1 = some .local) (hx : (d.2.2.2.2.1.1).names.lookup (d.2.2.2.1.1) = some .local) (hz : (d.2.2.2.2.1.1).names.lookup (d.2.2.2.1.2.1) = some .local) (hxz : (d.2.2.2.1.1) ≠ (d.2.2.2.1.2.1)) (hs : ∀ x9, foldedSetIterable (d.2.2.1.2.2.1) (d.2.2.1.1) x9 = pure x9) (hs2 : ∀ (env2 : Env) x9, foldedSetIterable (d.2.2.1.2.2.2) env2 x9 = pure x9) (h : wpAny (model (d.1.1) (d.1.2.1)) (d.1.2.2.1) (eval (d.2.2.1.2.2.1) (d.2.2.1.1)) (fun xv s₁ => Stop (∃ ax its k news, xv = .ref ax ∧ Fr (d.2.1.2.1) (d.2.1.2.2.1) s₁.heap (d.2.1.2.2.2) ∧ News (d.2.1.2.1) (d.2.1.2.2.1) s₁.heap news ∧ (ax, listOf (List.toArray its) k) ∈ news ∧ its.length = (d.2.2.2.2.2.1) ∧
      (∀ i v C oC m₂ h tk (Q' : Value → Shared → Prop) (E' : Value → Shared → Prop), its[i]? = some v → LCg.NsObj oC m₂ → m₂ (d.2.2.2.1.1) = some v → Fr (d.2.1.2.1) (d.2.1.2.2.1) h (d.2.1.2.2.2) → News (d.2.1.2.1) (d.2.1.2.2.1) h ((C, oC) :: news) →
        (∀ tk' a2 its2 k2, (a2, listOf (List.toArray its2) k2) ∈ news → its2.length = (d.2.2.2.2.2.2.1) →
          (∀ j u oC m₂ h tk (Q' : Value → Shared → Prop) (E' : Value → Shared → Prop), its2[j]? = some u → LCg.NsObj oC m₂ → m₂ (d.2.2.2.1.1) = some v → m₂ (d.2.2.2.1.2.1) = some u → Fr (d.2.1.2.1) (d.2.1.2.2.1) h (d.2.1.2.2.2) → News (d.2.1.2.1) (d.2.1.2.2.1) h ((C, oC) :: news) →
            (∀ tk' y, (d.2.2.2.2.2.2.2) ((d.2.2.2.2.2.2.1) * i + j) y → Q' y { s₁ with heap := h, toks := tk' }) → wpAny (model (d.1.1) (d.1.2.1)) (d.1.2.2.1) (eval (d.2.2.1.2.1) (compEnvC (d.2.2.2.2.1.1) (d.2.2.2.2.1.2.2.1) C (d.2.2.1.1))) Q' E' { s₁ with heap := h, toks := tk }) → Q' (.ref a2) { s₁ with heap := h, toks := tk' }) →
        wpAny (model (d.1.1) (d.1.2.1)) (d.1.2.2.1) (eval (d.2.2.1.2.2.2) (compEnvC (d.2.2.2.2.1.1) (d.2.2.2.2.1.2.2.1) C (d.2.2.1.1))) Q' E' { s₁ with heap := h, toks := tk }) ∧
      ∀ ys, ValsF ys ((d.2.2.2.2.2.2.1) * (d.2.2.2.2.2.1)) (d.2.2.2.2.2.2.2) → LCg.FinE (d.2.1.2.1) (d.2.1.2.2.1) (d.2.1.2.2.2) s₁ (d.2.2.2.2.1.2.2.2) ys news)) (d.1.2.2.2) (d.2.1.1)), wpAny (model (d.1.1) (d.1.2.1)) (d.1.2.2.1) (eval (two (d.2.2.1.2.1) (d.2.2.1.2.2.1) (d.2.2.1.2.2.2) (d.2.2.2.1.1) (d.2.2.2.1.2.1) (d.2.2.2.1.2.2.1) (d.2.2.2.1.2.2.2) (d.2.2.2.2.1.1) (d.2.2.2.2.1.2.1)) (d.2.2.1.1)) (d.2.2.2.2.1.2.2.2) (d.1.2.2.2) (d.2.1.1)
set_option synthInstance.maxSize 100000 in
set_option synthInstance.maxHeartbeats 800000 in
@[irreducible] noncomputable def k_ListComp_two : (Program × World × Around × (Value → Shared → Prop)) × (Shared × Heap × Addr × (Str → Option Value)) × (Env × Expr × Expr × Expr) × (Str × Str × Pos × Pos) × (Scope × Pos × (List (Str × Addr)) × (Value → Shared → Prop)) × (Nat × Nat × (Nat → Value → Prop)) := pick (by haveI := ne_World; haveI := ne_Around; haveI := ne_Shared; exact inferInstance) s_ListComp_two
theorem ListComp_two_c : s_ListComp_two k_ListComp_two := by
  delta s_ListComp_two
  intro hh hA hnr hn hr hclos hcell hkind hnames hx hz hxz hs hs2 h
  unfold two
  rw [eval_ListComp]
  refine wpAny_comprehension_free (use := none) rfl hs hclos hkind hnames (wpAny_mono h (fun xv s₁ h₁ => ?_) fun _ _ e => e)
  refine Mine.by_op fun P9 bk9 => ?_
  obtain ⟨ax, its, k, news, rfl, F, N, hax, hln, rows, fin⟩ := h₁
  refine bk9 ?_; clear bk9 P9
  have hl : s₁.heap.IsList ax its.toArray := ⟨_, (N _ hax).1, rfl, k, rfl⟩
  refine wpAny_pyIter_list hl ?_
  generalize hH1 : s₁.heap.push { cls := .type "list_iterator", data := .fields #[.ref ax, .int 0 0] } = H1
  generalize hI : s₁.heap.objs.size = I0
  have hI1 : I0 < H1.objs.size := by rw [← hI, ← hH1, Heap.size_push]; exact Nat.lt_succ_self _
  have up1 : ∀ b o, s₁.heap.get? b = some o → H1.get? b = some o := fun b o e => hH1 ▸ Heap.get?_push_of_some _ e
  have F1 := F.keeps up1
  have N1 : News (k_ListComp_two.2.1.2.1) (k_ListComp_two.2.1.2.2.1) H1 news := fun p hp => ⟨up1 _ _ (N p hp).1, (N p hp).2⟩
  have it1 : H1.IsListIter I0 ax 0 := ⟨_, by rw [← hH1, ← hI]; exact Heap.get?_push_size _ rfl, rfl, rfl⟩
  have i0 : (k_ListComp_two.2.1.2.1).get? I0 = none := hI ▸ next_is_new F
  have iL : I0 ≠ (k_ListComp_two.2.1.2.2.1) := by rw [← hI]; exact Ne.symm (Nat.ne_of_lt F.ns.lt)
  have iN : ∀ p ∈ news, p.1 ≠ I0 := fun p hp => by rw [← hI]; exact Nat.ne_of_lt (Heap.lt_size (N p hp).1)
  refine wpAny_newObj_type ?_
  dsimp only
  refine wpAny_newFunctionEnv hcell (by intro y hy; simp at hy) (fun h₂ hns₂ hsb₂ => ?_) hkind
  dsimp only at hns₂ hsb₂ ⊢
  generalize hH2 : H1.push { cls := .type "list", dict := none, data := .seq ([] : List Value).toArray } = H2 at hns₂ hsb₂ ⊢
  generalize hD : H1.objs.size = D at hI1 ⊢
  have hC2 : H2.objs.size = D + 1 := by rw [← hH2, Heap.size_push, hD]
  generalize hC : H2.objs.size = C at hns₂ hsb₂ hC2 ⊢
  have below : ∀ b, b < D → b ≠ C ∧ b ≠ D := fun b hb => ⟨by omega, by omega⟩
  have cD : C ≠ D := by omega
  have old : ∀ b o, H1.get? b = some o → h₂.get? b = some o := fun b o e => hsb₂.extBut b o (below b (hD ▸ Heap.lt_size e)).1 (Heap.get?_push_of_some _ (hH2 ▸ Heap.get?_push_of_some _ e))
  have hacc : h₂.get? D = some (LCg.lst []) := hsb₂.extBut _ _ (Ne.symm cD) (Heap.get?_push_of_some _ (by rw [← hH2, ← hD]; exact Heap.get?_push_size _ rfl))
  have fresh₀ : ∀ a, D ≤ a → (k_ListComp_two.2.1.2.1).get? a = none := fun a ha => by
    cases e : (k_ListComp_two.2.1.2.1).get? a with
    | none => rfl
    | some o' => exact absurd (Heap.lt_size (F1.keep a o' e)) (Nat.not_lt.mpr (hD ▸ ha))
  have lt1 : ∀ p ∈ news, p.1 < D := fun p hp => hD ▸ Heap.lt_size (N1 p hp).1
  have ltL : (k_ListComp_two.2.1.2.2.1) < D := hD ▸ F1.ns.lt
  have M0 : Mid (k_ListComp_two.2.1.2.1) (k_ListComp_two.2.1.2.2.1) (k_ListComp_two.2.1.2.2.2) news D I0 ax 0 [] h₂ := ⟨F1.keeps old, fun p hp => ⟨old _ _ (N1 p hp).1, (N1 p hp).2⟩, hacc, it1.at fun o e => old _ o e⟩
  have hnC : C ≠ (k_ListComp_two.2.1.2.2.1) ∧ C ≠ D ∧ C ≠ I0 ∧ (k_ListComp_two.2.1.2.1).get? C = none ∧ ∀ p ∈ news, p.1 ≠ C := ⟨Ne.symm (below (k_ListComp_two.2.1.2.2.1) ltL).1, cD, Ne.symm (below I0 hI1).1, fresh₀ _ (by omega), fun p hp => (below _ (lt1 p hp)).1⟩
  have hnD : D ≠ (k_ListComp_two.2.1.2.2.1) ∧ D ≠ I0 ∧ (k_ListComp_two.2.1.2.1).get? D = none ∧ ∀ p ∈ news, p.1 ≠ D := ⟨Ne.symm (below (k_ListComp_two.2.1.2.2.1) ltL).2, Ne.symm (below I0 hI1).2, fresh₀ _ (Nat.le_refl _), fun p hp => (below _ (lt1 p hp)).2⟩
  refine Mine.by_op fun P9 bk9 => ?_
  obtain ⟨c1, c2, c3, c5, c6⟩ := hnC
  refine bk9 ?_; clear bk9 P9
  have W := Walks.list (prog := (k_ListComp_two.1.1)) (w := (k_ListComp_two.1.2.1)) (A := (k_ListComp_two.1.2.2.1)) hh I0 ax (iN _ hax) its.toArray
  have hlist : ∀ {h : Heap}, News (k_ListComp_two.2.1.2.1) (k_ListComp_two.2.1.2.2.1) h news → h.IsList ax its.toArray := fun N => ⟨_, (N _ hax).1, rfl, k, rfl⟩
  have loop : ∀ s₃ : Shared, (∃ tk, s₃ = { s₁ with heap := h₂, toks := tk }) → codeAny (model (k_ListComp_two.1.1) (k_ListComp_two.1.2.1)) (k_ListComp_two.1.2.2.1) (.compLoop (two (k_ListComp_two.2.2.1.2.1) (k_ListComp_two.2.2.1.2.2.1) (k_ListComp_two.2.2.1.2.2.2) (k_ListComp_two.2.2.2.1.1) (k_ListComp_two.2.2.2.1.2.1) (k_ListComp_two.2.2.2.1.2.2.1) (k_ListComp_two.2.2.2.1.2.2.2) (k_ListComp_two.2.2.2.2.1.1) (k_ListComp_two.2.2.2.2.1.2.1)) 0 (.ref I0) (.ref D) (compEnvC (k_ListComp_two.2.2.2.2.1.1) (k_ListComp_two.2.2.2.2.1.2.2.1) C (k_ListComp_two.2.2.1.1))) (compPost (model (k_ListComp_two.1.1) (k_ListComp_two.1.2.1)) (k_ListComp_two.1.2.2.1) (k_ListComp_two.1.2.2.2) none (k_ListComp_two.2.2.2.2.1.2.2.2) (.ref D) C) s₃ := by
    rintro s₃ ⟨tk₃, rfl⟩
    refine two_loop0 hA (fun k s' => ∃ h' tk i ys m', s' = { s₁ with heap := h', toks := tk } ∧ i ≤ (k_ListComp_two.2.2.2.2.2.1) ∧ k = (k_ListComp_two.2.2.2.2.2.1) + 1 - i ∧ ValsF ys ((k_ListComp_two.2.2.2.2.2.2.1) * i) (k_ListComp_two.2.2.2.2.2.2.2) ∧ Mid (k_ListComp_two.2.1.2.1) (k_ListComp_two.2.1.2.2.1) (k_ListComp_two.2.1.2.2.2) news D I0 ax i ys h' ∧ h'.Ns C m') ?_ ((k_ListComp_two.2.2.2.2.2.1) + 1)
      ⟨h₂, _, 0, [], _, rfl, Nat.zero_le _, rfl, ⟨rfl, fun i hi => absurd hi (Nat.not_lt_zero _)⟩, M0, hns₂⟩ (hs2 _)
    intro k s' qz29 E' EE
    refine Mine.by_op fun P9 bk9 => ?_
    obtain ⟨h', tk, i, ys, m1, rfl, hi, rfl, hv, M1, hn1⟩ := qz29
    refine bk9 ?_; clear bk9 P9
    have hrn : (k_ListComp_two.2.2.2.2.2.2.1) * i ≤ 100 := Nat.le_trans (Nat.mul_le_mul_left (k_ListComp_two.2.2.2.2.2.2.1) hi) hnr
    by_cases hlt : i < (k_ListComp_two.2.2.2.2.2.1)
    · refine W.item i _ _ _ (by rw [List.size_toArray, hln]; exact hlt) ⟨M1.it, hlist M1.ne⟩ fun v h3 tk3 hP hst3 hk3 => ?_
      have hP' : its[i]? = some v := by rw [← hP, List.getElem?_toArray]
      have k3 : keepBut I0 h' h3 := fun a o ne e => hk3 a o (fun hm => ne (List.mem_singleton.mp hm)) e
      have F3 : Fr (k_ListComp_two.2.1.2.1) (k_ListComp_two.2.1.2.2.1) h3 (k_ListComp_two.2.1.2.2.2) := ⟨M1.fr.ns.at' fun o e => k3 (k_ListComp_two.2.1.2.2.1) o (Ne.symm iL) e, fun a o e => k3 a o (fun q => by rw [q, i0] at e; cases e) (M1.fr.keep a o e), M1.fr.above⟩
      have N3 : News (k_ListComp_two.2.1.2.1) (k_ListComp_two.2.1.2.2.1) h3 news := fun p hp => ⟨k3 _ _ (iN p hp) (M1.ne p hp).1, (M1.ne p hp).2⟩
      have M3 : Mid (k_ListComp_two.2.1.2.1) (k_ListComp_two.2.1.2.2.1) (k_ListComp_two.2.1.2.2.2) news D I0 ax (i + 1) ys h3 := ⟨F3, N3, k3 _ _ hnD.2.1 M1.li, hst3.1⟩
      have hn3 : h3.Ns C m1 := hn1.at' fun o e => k3 C o c3 e
      refine wpAny_assign_Name (wpAny_storeName_local (lookup_relabel_local hx) hn3 (fun h4 hn4 hs4 => ?_) (by simp [compEnvC, relabel, hkind]))
      have k4 : keepBut C h3 h4 := fun a o ne e => hs4.extBut a o ne e
      have M4 := M3.but k4 (Ne.symm c1) c5 c6 (Ne.symm c2) (Ne.symm c3)
      refine Mine.by_op fun P9 bk9 => ?_
      obtain ⟨oC, heC, hoC⟩ := LCg.ns_obj hn4
      refine bk9 ?_; clear bk9 P9
      have N4 : News (k_ListComp_two.2.1.2.1) (k_ListComp_two.2.1.2.2.1) h4 ((C, oC) :: news) := fun p hp => by
        rcases List.mem_cons.mp hp with rfl | hp
        · exact ⟨heC, c1, c5⟩
        · exact M4.ne p hp
      refine rows i v C oC _ h4 _ _ E' hP' hoC (if_pos rfl) M4.fr N4 ?_
      intro tk4 a2 its2 k2 ha2 hl2 elem
      have hla : h4.IsList a2 its2.toArray := ⟨_, (M4.ne _ ha2).1, rfl, k2, rfl⟩
      refine wpAny_pyIter_list hla ?_
      dsimp only
      have up5 : ∀ b o, h4.get? b = some o → (h4.push { cls := .type "list_iterator", data := .fields #[.ref a2, .int 0 0] }).get? b = some o := fun b o e => Heap.get?_push_of_some _ e
      have M5 : Mid (k_ListComp_two.2.1.2.1) (k_ListComp_two.2.1.2.2.1) (k_ListComp_two.2.1.2.2.2) news D I0 ax (i + 1) ys (h4.push { cls := .type "list_iterator", data := .fields #[.ref a2, .int 0 0] }) := ⟨M4.fr.keeps up5, fun p hp => ⟨up5 _ _ (M4.ne p hp).1, (M4.ne p hp).2⟩, up5 _ _ M4.li, M4.it.at fun o e => up5 _ o e⟩
      have ltI : I0 < h4.objs.size := by obtain ⟨o, e, _⟩ := M4.it; exact Heap.lt_size e
      refine two_inner (G := fun j y => (k_ListComp_two.2.2.2.2.2.2.2) ((k_ListComp_two.2.2.2.2.2.2.1) * i + j) y) hh hkind hz hxz M5 (hn4.at' fun o e => up5 _ o e) (if_pos rfl) ⟨_, Heap.get?_push_size _ rfl, rfl, rfl⟩ ha2 (by rw [hl2]; exact hr) (by rw [hv.1]; exact hrn) ⟨c1, c2, c3, Nat.ne_of_lt (Heap.lt_size heC), c5, c6⟩
        ⟨Ne.symm (Nat.ne_of_lt M4.fr.ns.lt), Ne.symm (Nat.ne_of_lt (Heap.lt_size M4.li)), Ne.symm (Nat.ne_of_lt ltI), next_is_new M4.fr, fun p hp => Nat.ne_of_lt (Heap.lt_size (M4.ne p hp).1)⟩ hnD (fun j u oC m₂ h tk E' h1 h2 h3 h4 h5 h6 => elem j u oC m₂ h tk _ E' h1 h2 h3 h4 h5 h6 fun tk' y hG => ⟨tk', rfl, hG⟩) ?_
      intro h6 tk6 zs m6 M6 hz6 hn6
      refine ⟨(k_ListComp_two.2.2.2.2.2.1) + 1 - (i + 1), by omega, h6, tk6, i + 1, ys ++ zs, m6, rfl, hlt, rfl, ?_, M6, hn6⟩
      rw [hl2] at hz6
      exact valsF_append hv hz6
    · refine Mine.by_op fun P9 bk9 => ?_
      obtain rfl : i = (k_ListComp_two.2.2.2.2.2.1) := Nat.le_antisymm hi (Nat.not_lt.mp hlt)
      refine bk9 ?_; clear bk9 P9
      refine W.done _ _ _ (by rw [List.size_toArray, hln]; exact ⟨M1.it, hlist M1.ne⟩) fun h3 tk3 hk3 => ?_
      have k3 : keepBut I0 h' h3 := fun a o ne e => hk3 a o (fun hm => ne (List.mem_singleton.mp hm)) e
      have M3 : Fr (k_ListComp_two.2.1.2.1) (k_ListComp_two.2.1.2.2.1) h3 (k_ListComp_two.2.1.2.2.2) := ⟨M1.fr.ns.at' fun o e => k3 (k_ListComp_two.2.1.2.2.1) o (Ne.symm iL) e, fun a o e => k3 a o (fun q => by rw [q, i0] at e; cases e) (M1.fr.keep a o e), M1.fr.above⟩
      have N3 : News (k_ListComp_two.2.1.2.1) (k_ListComp_two.2.1.2.2.1) h3 ((D, LCg.lst ys) :: news) := fun p hp => by
        rcases List.mem_cons.mp hp with rfl | hp
        · exact ⟨k3 _ _ hnD.2.1 M1.li, hnD.1, hnD.2.2.1⟩
        · exact ⟨k3 _ _ (iN p hp) (M1.ne p hp).1, (M1.ne p hp).2⟩
      refine ⟨m1, hn1.at' fun o e => k3 C o c3 e, fun h4 hs4 => fin ys hv D h4 tk3 (M3.change hs4 c1 c5) (fun p hp => ?_) (LCg.Off3.one (I := D) (C := D) (LCg.Off3.of fun p hp => ⟨hnD.2.2.2 p hp, hnD.2.2.2 p hp, hnD.2.2.2 p hp⟩))⟩
      refine ⟨hs4.extBut _ _ ?_ (N3 p hp).1, (N3 p hp).2⟩
      rcases List.mem_cons.mp hp with rfl | hp
      · exact Ne.symm cD
      · exact c6 p hp
  exact codeAny_compStart_list (loop _ ⟨_, rfl⟩) (W.self 0 _ _ _ ⟨M0.it, hlist M0.ne⟩ (loop _ ⟨_, rfl⟩))
theorem ListComp_two {elt iter iter2 : Expr} {x z : Str} {px pz : Pos} {scope : Scope} {pos : Pos} {cl : List (Str × Addr)} {Q : Value → Shared → Prop} (n r : Nat) (G : Nat → Value → Prop)
    (hh : A.handled = none) (hA : A.mark none = A) (hnr : r * n ≤ 100) (hn : n ≤ 100) (hr : r ≤ 100) (hclos : closureFor scope env = pure cl) (hcell : ∀ y ∈ scope.names, y.2 ≠ .cell) (hkind : scope.kind = .function)
    (hnames : ∀ y ∈ scope.names, y.2 = .local → scope.names.lookup y.1 = some .local) (hx : scope.names.lookup x = some .local) (hz : scope.names.lookup z = some .local) (hxz : x ≠ z)
    (hs : ∀ x9, foldedSetIterable iter env x9 = pure x9) (hs2 : ∀ (env2 : Env) x9, foldedSetIterable iter2 env2 x9 = pure x9)
    (h : wpAny (model prog w) A (eval iter env) (fun xv s₁ => Stop (∃ ax its k news, xv = .ref ax ∧ Fr h₀ L s₁.heap m ∧ News h₀ L s₁.heap news ∧ (ax, listOf (List.toArray its) k) ∈ news ∧ its.length = n ∧
      (∀ i v C oC m₂ h tk (Q' : Value → Shared → Prop) (E' : Value → Shared → Prop), its[i]? = some v → LCg.NsObj oC m₂ → m₂ x = some v → Fr h₀ L h m → News h₀ L h ((C, oC) :: news) →
        (∀ tk' a2 its2 k2, (a2, listOf (List.toArray its2) k2) ∈ news → its2.length = r →
          (∀ j u oC m₂ h tk (Q' : Value → Shared → Prop) (E' : Value → Shared → Prop), its2[j]? = some u → LCg.NsObj oC m₂ → m₂ x = some v → m₂ z = some u → Fr h₀ L h m → News h₀ L h ((C, oC) :: news) →
            (∀ tk' y, G (r * i + j) y → Q' y { s₁ with heap := h, toks := tk' }) → wpAny (model prog w) A (eval elt (compEnvC scope cl C env)) Q' E' { s₁ with heap := h, toks := tk }) → Q' (.ref a2) { s₁ with heap := h, toks := tk' }) →
        wpAny (model prog w) A (eval iter2 (compEnvC scope cl C env)) Q' E' { s₁ with heap := h, toks := tk }) ∧
      ∀ ys, ValsF ys (r * n) G → LCg.FinE h₀ L m s₁ Q ys news)) E s) : wpAny (model prog w) A (eval (two elt iter iter2 x z px pz scope pos) env) Q E s :=
  pick_all k_ListComp_two.eq_1 ListComp_two_c ((prog, w, A, E), (s, h₀, L, m), (env, elt, iter, iter2), (x, z, px, pz), (scope, pos, cl, Q), (n, r, G)) hh hA hnr hn hr hclos hcell hkind hnames hx hz hxz hs hs2 h
end
end
end
section
local macro_rules | `(tactic| k_all) => `(tactic| exact fun p hp => Nat.ne_of_lt (Nat.lt_of_lt_of_le (Mine.low_mem (by assumption) p hp) (by omega)))
local macro_rules | `(tactic| k_all) => `(tactic| exact Mine.off1_mem (by assumption))
local macro_rules | `(tactic| k_all) => `(tactic| assumption)
-- E3
section
theorem setup_E3 : True := by
  k_with_none
  k_with "x:execs cons" => (refine Mine.any_tk ?_; (try clear qtk); intro qtk; (with_reducible refine wpAny_execs_cons ?_); (try dsimp only))
  k_with "x:m:mem" => (first | assumption | exact List.Mem.head _ | (refine List.Mem.tail _ ?_; walk_at "m:mem"))
  k_with "x:m:give" => ((
  (case zzk1 => k_asm); (case zzk2 => k_asm); (case zzk3 => k_asm); (case zzk4 => k_asm); (case zzk5 => k_asm); (case zzk6 => first | exact rfl | assumption); (case zzk8 => ktr_room); (case zzk9 => ktr_units)))
  k_with "x:subscriptTail Name Constant ref int" => ((k_here; (with_reducible show wpAny _ _ (subscriptTail _ _ (Value.ref _) (Value.int _ _)) _ _ _); (with_unfolding_all refine' sub_listN ?zzk1 ?zzk2 ?zzk3 ?zzk4 ?zzk5 ?_ ?zzk6; (case zzk1 => k_asm); (case zzk2 => walk_at "m:mem"); (case zzk3 => decide); (case zzk4 => decide); (case zzk5 => rfl); (case zzk6 => with_unfolding_all rfl); k_whole)))
  k_with "x:TurnPost" => ((dsimp only [TurnPost]))
  k_with "x:m:enterC" => ((refine' code_defC ?zzk1 ?zzk2 ?zzk3 ?zzk4 ?zzk5 ?zzkA ?zzkF ?zzkK ?zzk6 ?zzk7 ?zzk8 ?zzk9 ?zzkB ?zzkD ?_ ?zzc2 ?zzc3 ?zzc4; (case zzkA => exact rfl); (case zzkF => exact rfl); (case zzkK => assumption); (case zzk1 => k_asm); (case zzk2 => k_asm); (case zzk3 => k_asm); (case zzk4 => k_asm); (case zzk5 => k_asm); (case zzk6 => k_is); (case zzk7 => k_is); (case zzk8 => ktr_room); (case zzk9 => exact BindsTo.of_eq rfl); (case zzkB => exact rfl); (case zzkD => decide +kernel); (case zzc2 => exact rfl); (case zzc3 => exact rfl); (case zzc4 => exact rfl); k_whole; intro qg' qL' qh' qtk' qcells' qFG' qF' qN' qY' qB' qX' qT' ql1; (try k_lt ql1); k_cells qY'; (try simp only [List.cons_append, List.nil_append] at qN'); (try dsimp only); (try k_fold)))
  k_with "x:spliced" => (((dsimp only); walk_at "spliced"))
  k_with "x:eval ListComp" => ((k_here; k_dflt (refine LCg.ListComp_U (F₀ := by k_asm) (by with_unfolding_all rfl) (by decide) (by rfl) (by decide) (by rfl) ?_); k_dflt lcg_toSrc))
  k_with "x:CompEnd" => ((refine LCg.CompEnd.intro (by assumption) (by assumption) _ (fun p hp => hp) (by first | assumption | (simp only [LCg.Off3, and_true]; assumption)) (by first | exact trivial | (refine Or.inr ⟨_, ?_, rfl, _, rfl⟩; walk_at "m:mem") | exact Or.inl (by assumption)) ?_))
  k_with "x:m:idx" => (first | ((with_reducible refine' Mine.idx_add ?_ ?_) <;> try walk_at "m:idx") | ((with_reducible refine' Mine.idx_mul ?_ ?_) <;> try walk_at "m:idx") | (with_reducible exact rfl) | (with_reducible_and_instances exact Int.cast_ofNat_Int))
  k_with "x:m:sub" => ((k_here; (with_unfolding_all refine' sub_z ?zzk1 ?zzk2 ?zzk3 ?zzk4 ?zzk5 ?zzk7 ?_ ?zzk6; (case zzk2 => k_asm); (case zzk3 => walk_at "m:mem"); (case zzk1 => assumption); (case zzk4 => walk_at "m:idx"); (case zzk5 => first | exact Mine.idx_lt (by decide) (by assumption) | exact Mine.idx_st (by assumption) (by decide) | omega); (case zzk7 => decide); (case zzk6 => with_unfolding_all rfl)); intro qzz' qtx' qhz' qh0' qh1'; (try simp only [Nat.zero_add, Nat.add_zero, Nat.mul_zero, Nat.reduceAdd, Nat.reduceMul] at qhz')))
  k_with "x:subscriptTail Name BinOp ref int" => (walk_at "m:sub")
  k_with "x:subscriptTail Name Name ref int" => (walk_at "m:sub")
  k_with "x:exec For Name Call cons nil" => ((with_reducible rename Fr _ _ _ _ => qfF; refine Mine.for_wordF qfF ?_ (fun _ => rfl) (by passes_own)))
  k_with "x:CompSrc" => ((k_here; k_dflt (first
  | (refine LCg.CompSrc.ledger (by rfl) (by k_asm) (by k_asm) (by walk_at "m:mem") (by first | size_fits | exact Nat.le_of_ble_eq_true rfl) ?_; intro qg'; lcg_lit)
  | (refine LCg.CompSrc.range (by rfl) (by k_asm) (by k_asm) (by assumption) (by first | decide | rfl) (by first | rfl | decide) (by first | size_fits | exact Nat.le_of_ble_eq_true rfl) ?_; intro qg'; lcg_lit))))
  k_with "x:call builtin:list.append" => (((try dsimp only [List.cons_append, List.nil_append]); k_dflt (refine' append_K ?zzk1 ?zzk2 ?zzk3 ?_ ?zzz; (case zzk1 => k_asm); (case zzk2 => k_asm); (case zzk3 => k_upd); (case zzz => exact Mine.IntsZ.size (by assumption) (by omega))); intro qh' qF' qN'; (try k_sweep)))
  k_with "x:storeName" => (((dsimp only); walk_at "storeName"))
  k_with "x:newList" => (((dsimp only); walk_at "newList"))
  k_with "x:m:split" => ((refine Mine.by_op fun qP9 qk9 => ?_; (repeat (with_reducible rename (_ ∧ _) => qhc'; obtain ⟨_, _⟩ := qhc')); refine qk9 ?_; clear qk9 qP9))
  k_with "x:m:junk" => (((repeat (with_reducible rename LCg.NsObj _ _ => qjk'; clear qjk')); (repeat (with_reducible rename ((_ ≠ _ ∧ _ ≠ _ ∧ _ ≠ _) ∧ _) => qjk'; clear qjk')); (repeat (with_reducible rename (_ ≠ _ ∧ _ ≠ _ ∧ _ ≠ _) => qjk'; clear qjk'))))
  k_with "x:FinE" => (((unfold LCg.FinE); walk_at "m:junk"; intro qD' qh' qtk' qF' qN' qo1'; (try simp only [LCg.Off1, and_true] at qo1'); (try simp only [List.nil_append, List.cons_append] at qN'); walk_at "m:split"; (try dsimp only)))
  k_with "x:m:subs" => (first | (refine List.forall_mem_cons.mpr ⟨?_, ?_⟩; (focus walk_at "m:mem"); walk_at "m:subs") | (intro qp qhp; walk_at "m:mem"))
  k_with "x:m:hide" => (have qB' := True.intro; have qD' := True.intro; have qF' := True.intro; have qFG' := True.intro; have qL' := True.intro; have qN' := True.intro; have qT' := True.intro; have qX' := True.intro; have qY' := True.intro; have qcells' := True.intro; have qfF := True.intro; have qg' := True.intro; have qh' := True.intro; have qh0' := True.intro; have qh1' := True.intro; have qhc' := True.intro; have qhp := True.intro; have qhz' := True.intro; have qjk' := True.intro; have ql1 := True.intro; have qo1' := True.intro; have qp := True.intro; have qtk' := True.intro; have qtx' := True.intro; have qzz' := True.intro)
  k_with "x:m:bare" => (clear qB' qD' qF' qFG' qL' qN' qT' qX' qY' qcells' qfF qg' qh' qh0' qh1' qhc' qhp qhz' qjk' ql1 qo1' qp qtk' qtx' qzz')
  trivial
noncomputable def p1 (μ : Nat → Nat) (st rate r : Nat) : Int := 256 + 6 * (μ (3 * st + r) : Int) - rate
noncomputable def ptw (μ : Nat → Nat) (st r : Nat) : Int := max (max ((μ (3 * st) : Int) + μ r) ((μ (3 * st + 1) : Int) + μ (3 + r))) ((μ (3 * st + 2) : Int) + μ (6 + r))
noncomputable def ppr (μ : Nat → Nat) (st rate r : Nat) : Int := max (max (if r = st then 256 else p1 μ st rate r) (p1 μ st rate r)) (256 + 6 * ptw μ st r - 2 * rate)
/-- the prices at st hold -/
noncomputable def PHold (μ : Nat → Nat) (st rate : Nat) : Prop := ppr μ st rate st = 256 ∧ ∀ r, r < 3 → max (max (ppr μ st rate 0 + 6 * (μ r : Int)) (ppr μ st rate 1 + 6 * (μ (3 + r) : Int))) (ppr μ st rate 2 + 6 * (μ (6 + r) : Int)) = ppr μ st rate r + rate
noncomputable def prParts (P : Params) : FnParts P 129 := ⟨_, _, _, _, _, _, _, _, _, _, _, _, _, _, _, by (w_on; (have hz : PySem.Challenge.rw_zo0012_01 = PySem.Challenge.rw_zo0012_01 ∧ Mine.hd.heap_1 P = Mine.hd.heap_1 P := by (k_fill; exact ⟨rfl, rfl⟩)); clear hz; refine Eq.trans rfl ?_; k_is)⟩
noncomputable def prB (P : Params) : List Stmt := (prParts P).body
noncomputable def prS (P : Params) : Scope := (prParts P).scope
theorem ppr_bd {μ : Nat → Nat} {st rate r : Nat} (hμ : ∀ i, μ i ≤ 18) (hr : rate ≤ 108) : 0 ≤ ppr μ st rate r ∧ ppr μ st rate r ≤ 472 := by
  have h1 := hμ (3 * st + r)
  have t0 : 0 ≤ ptw μ st r := Int.le_trans (Int.add_nonneg (Int.natCast_nonneg _) (Int.natCast_nonneg _)) (imax3_ge1 _ _ _)
  have t1 : ptw μ st r ≤ 36 := imax3_le (Int.add_le_add (Int.ofNat_le.mpr (hμ _)) (Int.ofNat_le.mpr (hμ _))) (Int.add_le_add (Int.ofNat_le.mpr (hμ _)) (Int.ofNat_le.mpr (hμ _))) (Int.add_le_add (Int.ofNat_le.mpr (hμ _)) (Int.ofNat_le.mpr (hμ _)))
  have p0 : p1 μ st rate r ≤ 472 := by unfold p1; omega
  have p2 : (if r = st then 256 else p1 μ st rate r) ≤ 472 := by
    by_cases h : r = st
    · rw [if_pos h]; decide
    · rw [if_neg h]; exact p0
  refine ⟨Int.le_trans ?_ (imax3_ge3 _ _ _), imax3_le p2 p0 ?_⟩ <;> omega
theorem cast_eq {i st : Nat} (h : (0 : Int) + (i : Int) = st) : i = st := by omega
theorem cast_ne {i st : Nat} (h : ¬ ((0 : Int) + (i : Int) = st)) : ¬ i = st := by omega
theorem snoc_ppr {μ : Nat → Nat} {st rate i : Nat} {ps : List Value} {v : Int} {t : Tok} (hps : IntsZ ps i 472 (ppr μ st rate)) (hμ : ∀ j, μ j ≤ 18) (hr : rate ≤ 108) (e : v = ppr μ st rate i) : IntsZ (ps ++ [.int v t]) (i + 1) 472 (ppr μ st rate) :=
  IntsZ.snoc hps (e ▸ (ppr_bd hμ hr).1) (e ▸ (ppr_bd hμ hr).2) e
theorem ark1 {a b : Int} (ha : a ≤ 18) (hb : b ≤ 18) : a + b < 600 := Int.lt_of_le_of_lt (Int.add_le_add ha hb) (by decide)
theorem ark2 {v : Int} {r : Nat} (h : 0 ≤ v) (hr : r ≤ 108) : 0 ≤ 256 + 6 * v - (r : Int) := by omega
theorem ark3 {v : Int} {r : Nat} (h : v ≤ 18) : 256 + 6 * v - (r : Int) < 600 := by omega
theorem ark4 {x y : Int} {r : Nat} (h : 0 ≤ y) (hr : r ≤ 108) : 0 ≤ 256 + 6 * max x y - 2 * (r : Int) := by omega
theorem ark5 {a b c d e f : Int} {r : Nat} (ha : a ≤ 18) (hb : b ≤ 18) (hc : c ≤ 18) (hd : d ≤ 18) (he : e ≤ 18) (hf : f ≤ 18) : 256 + 6 * max (max (a + b) (c + d)) (e + f) - 2 * (r : Int) < 600 := by
  have := imax3_le (z := 36) (Int.add_le_add ha hb) (Int.add_le_add hc hd) (Int.add_le_add he hf)
  clear ha hb hc hd he hf
  omega
theorem ark6 {p v : Int} (h : p ≤ 472) (h' : v ≤ 18) : p + 6 * v < 600 := by omega
theorem ark7 {p v : Int} (h : 0 ≤ p) (h' : 0 ≤ v) : 0 ≤ p + 6 * v := by omega
theorem idx_lt {a i : Nat} (ha : a ≤ 2) (h : i < 3) : 3 * a + (0 + i) < 9 := by omega
theorem idx_st {s a : Nat} (h : s < 3) (ha : a < 3) : 3 * s + a < 9 := by omega
theorem setup_E3_1 : True := by
  k_with "x:m:ar" => (first | assumption | decide | exact Int.add_nonneg (by assumption) (by assumption) | exact Mine.ark1 (by assumption) (by assumption) | exact Mine.ark2 (by assumption) (by assumption) | exact Mine.ark3 (by assumption) | exact Mine.ark4 (Int.add_nonneg (by assumption) (by assumption)) (by assumption) | exact Mine.ark5 (by assumption) (by assumption) (by assumption) (by assumption) (by assumption) (by assumption) | exact Mine.ark6 (by assumption) (by assumption) | exact Mine.ark7 (by assumption) (by assumption) | omega)
  k_with "x:call ref" => (k_dflt (refine' gives_use (mostI _ _ _ _) ?zzk1 ?zzk2 ?zzk3 ?zzk4 ?zzk5 ?zzk6 ?zzk7 ?zzk8 ?zzk9 ?_; walk_at "m:give"; (case zzk7 => (refine ⟨?_, ?_, ?_, ?_, ?_, ?_, _, _, _, _, _, rfl, by walk_at "m:mem"⟩ <;> walk_at "m:ar"))); refine Mine.ret_nil ?_; intro t9 h9 tk9 F9 N9; (try dsimp only); (try k_fold))
  trivial
set_option synthInstance.maxSize 100000 in
set_option synthInstance.maxHeartbeats 800000 in
noncomputable def s_prT1 (d : (World × (ExcName → Option Value) × (Str → Option Value) × (Str → Option Value)) × (Around × Nat × Nat × (Option (List Code))) × (Addr × Value × (List Env) × Heap) × (Heap × Addr × Shared × Heap) × (Nat × (Flow → Shared → Prop) × (Value → Shared → Prop) × (Nat → Nat)) × (Nat × Nat × Tok × Tok) × (Tok × Addr × Addr × Addr) × (Addr × Nat × Nat × Obj) × (Obj × Obj × Obj × Obj) × (Obj × (Option Value) × (List Value) × (List Value)) × ((List Value) × (List (Addr × Obj)) × (Str → Option Value))) : Prop := ∀ (B : Below (d.2.1.1) (d.2.2.1.2.2.2) (d.2.2.1.2.2.1) (d.2.2.2.1.1)) (X : (Mine.hd.heap_1 (d.1.1).params).In (d.2.2.2.1.1)) (TT : Top Mine.hd.view_1 (looseW Mine.hd.view_1 []) (d.1.2.1) (d.1.2.2.1) (d.1.2.2.2) (d.2.2.2.1.1)) (hd : (d.2.1.2.1) + 14 < recursionLimit) (hu : (d.2.1.2.2.1) + 8 * 14 < cLine) (hμ : ∀ j, (d.2.2.2.2.1.2.2.2) j ≤ 18) (hst : (d.2.2.2.2.2.1.1) < 3) (hrate : (d.2.2.2.2.2.1.2.1) ≤ 108) (hv : IntsZ (d.2.2.2.2.2.2.2.2.2.1.2.2.1) 9 18 (fun j => ((d.2.2.2.2.1.2.2.2) j : Int))) (hov : IntsZ (d.2.2.2.2.2.2.2.2.2.1.2.2.2) 3 18 (fun r => ((d.2.2.2.2.1.2.2.2) (3 * (d.2.2.2.2.2.1.1) + r) : Int))) (l1a : @LT.lt Nat _ (d.2.2.2.2.2.2.1.2.1) (d.2.2.2.1.2.1)) (low : Low (d.2.2.2.1.2.1) (d.2.2.2.2.2.2.2.2.2.2.2.1)) (e1 : (d.2.2.2.1.2.1) + 1 + 1 + 1 + 1 + 1 ≠ (d.2.2.2.2.2.2.1.2.2.1)) (e2 : (d.2.2.2.1.2.1) + 1 + 1 + 1 + 1 ≠ (d.2.2.2.2.2.2.1.2.2.1)) (e3 : (d.2.2.2.1.2.1) + 1 + 1 + 1 ≠ (d.2.2.2.2.2.2.1.2.2.1)) (e4 : (d.2.2.2.1.2.1) + 1 + 1 ≠ (d.2.2.2.2.2.2.1.2.2.1)) (e5 : (d.2.2.2.1.2.1) + 1 ≠ (d.2.2.2.2.2.2.1.2.2.1)) (e6 : (d.2.2.2.2.2.2.1.2.1) ≠ (d.2.2.2.2.2.2.1.2.2.1)) (e7 : LCg.Off1 (d.2.2.2.2.2.2.1.2.2.1) (d.2.2.2.2.2.2.2.2.2.2.2.1)) (q0 : @LT.lt Nat _ (d.2.2.2.2.2.2.1.2.2.1) (d.2.2.2.2.2.2.1.2.2.2)) (q1 : @LT.lt Nat _ ((d.2.2.2.1.2.1) + 1 + 1 + 1 + 1 + 1) (d.2.2.2.2.2.2.1.2.2.2)) (q2 : @LT.lt Nat _ ((d.2.2.2.1.2.1) + 1 + 1 + 1 + 1) (d.2.2.2.2.2.2.1.2.2.2)) (q3 : @LT.lt Nat _ ((d.2.2.2.1.2.1) + 1 + 1 + 1) (d.2.2.2.2.2.2.1.2.2.2)) (q4 : @LT.lt Nat _ ((d.2.2.2.1.2.1) + 1 + 1) (d.2.2.2.2.2.2.1.2.2.2)) (q5 : @LT.lt Nat _ ((d.2.2.2.1.2.1) + 1) (d.2.2.2.2.2.2.1.2.2.2)) (q6 : @LT.lt Nat _ (d.2.2.2.2.2.2.1.2.1) (d.2.2.2.2.2.2.1.2.2.2)) (q7 : AllLt (d.2.2.2.2.2.2.1.2.2.2) (d.2.2.2.2.2.2.2.2.2.2.2.1)) (f1 : (d.2.2.2.2.2.2.1.2.2.2) ≠ (d.2.2.2.2.2.2.2.1.1)) (f2 : (d.2.2.2.2.2.2.1.2.2.1) ≠ (d.2.2.2.2.2.2.2.1.1)) (f3 : (d.2.2.2.1.2.1) + 1 + 1 + 1 + 1 + 1 ≠ (d.2.2.2.2.2.2.2.1.1)) (f4 : (d.2.2.2.1.2.1) + 1 + 1 + 1 + 1 ≠ (d.2.2.2.2.2.2.2.1.1)) (f5 : (d.2.2.2.1.2.1) + 1 + 1 + 1 ≠ (d.2.2.2.2.2.2.2.1.1)) (f6 : (d.2.2.2.1.2.1) + 1 + 1 ≠ (d.2.2.2.2.2.2.2.1.1)) (f7 : (d.2.2.2.1.2.1) + 1 ≠ (d.2.2.2.2.2.2.2.1.1)) (f8 : (d.2.2.2.2.2.2.1.2.1) ≠ (d.2.2.2.2.2.2.2.1.1)) (f9 : LCg.Off1 (d.2.2.2.2.2.2.2.1.1) (d.2.2.2.2.2.2.2.2.2.2.2.1)) (dM : (d.2.2.2.2.2.2.2.1.2.2.2).data = .cell (some (.ref (d.2.2.2.2.2.2.1.2.1)))) (dS : (d.2.2.2.2.2.2.2.2.1.1).data = .cell (some (.int ((d.2.2.2.2.2.1.1) : Int) (d.2.2.2.2.2.1.2.2.1)))) (dR' : (d.2.2.2.2.2.2.2.2.1.2.1).data = .cell (d.2.2.2.2.2.2.2.2.2.1.2.1)) (dO2 : (d.2.2.2.2.2.2.2.2.1.2.2.1).data = .cell (some (.ref (d.2.2.2.2.2.2.1.2.2.1)))) (dP2 : (d.2.2.2.2.2.2.2.2.1.2.2.2).data = .cell (some (.ref (d.2.2.2.2.2.2.1.2.2.2)))) (hi : (d.2.2.2.2.2.2.2.1.2.2.1) < 3) (F6 : Fr (d.2.2.2.1.1) (d.2.2.2.1.2.1) (d.2.2.2.1.2.2.2) (fun y => if y = Str.ofString "rate" then some (.int ((d.2.2.2.2.2.1.2.1) : Int) (d.2.2.2.2.2.1.2.2.2)) else (d.2.2.2.2.2.2.2.2.2.2.2.2) y)) (hps : IntsZ (d.2.2.2.2.2.2.2.2.2.2.1) (d.2.2.2.2.2.2.2.1.2.2.1) 472 (ppr (d.2.2.2.2.1.2.2.2) (d.2.2.2.2.2.1.1) (d.2.2.2.2.2.1.2.1))) (N7 : News (d.2.2.2.1.1) (d.2.2.2.1.2.1) (d.2.2.2.1.2.2.2) (((d.2.2.2.2.2.2.2.1.1), (d.2.2.2.2.2.2.2.2.2.1.1)) :: ((d.2.2.2.2.2.2.1.2.2.2), listOf (List.toArray (d.2.2.2.2.2.2.2.2.2.2.1)) (d.2.2.2.2.2.2.2.1.2.2.1)) :: ((d.2.2.2.2.2.2.1.2.2.1), listOf (List.toArray (d.2.2.2.2.2.2.2.2.2.1.2.2.2)) 3) :: ((d.2.2.2.1.2.1) + 1 + 1 + 1 + 1 + 1, (d.2.2.2.2.2.2.2.2.1.2.2.2)) :: ((d.2.2.2.1.2.1) + 1 + 1 + 1 + 1, (d.2.2.2.2.2.2.2.2.1.2.2.1)) :: ((d.2.2.2.1.2.1) + 1 + 1 + 1, (d.2.2.2.2.2.2.2.2.1.2.1)) :: ((d.2.2.2.1.2.1) + 1 + 1, (d.2.2.2.2.2.2.2.2.1.1)) :: ((d.2.2.2.1.2.1) + 1, (d.2.2.2.2.2.2.2.1.2.2.2)) :: ((d.2.2.2.2.2.2.1.2.1), listOf (d.2.2.2.2.2.2.2.2.2.1.2.2.1).toArray (d.2.2.2.2.2.2.2.1.2.1)) :: (d.2.2.2.2.2.2.2.2.2.2.2.1))), wpAny (model PySem.Challenge.rw_zo0012_01.row.prog (d.1.1)) (ktrTop (d.2.1.2.1) (d.2.1.2.2.1) (d.2.1.2.2.2) (Str.ofString "_law_prices_hold") (prS (d.1.1).params) (d.2.2.2.1.2.1) (d.2.2.1.1) (d.2.2.1.2.1) (cellsFrom ((d.2.2.2.1.2.1) + 1) (prS (d.1.1).params).names []) (d.2.2.1.2.2.1)) (assign (forAt (prB (d.1.1).params) 2).1 (envOfC (Str.ofString "_law_prices_hold") (prS (d.1.1).params) (d.2.2.2.1.2.1) (d.2.2.1.1) (d.2.2.1.2.1)) (.int ((0 : Int) + ((d.2.2.2.2.2.2.2.1.2.2.1) : Int)) (d.2.2.2.2.2.2.1.1))) (fun _ s₃ => wpAny (model PySem.Challenge.rw_zo0012_01.row.prog (d.1.1)) (ktrTop (d.2.1.2.1) (d.2.1.2.2.1) (d.2.1.2.2.2) (Str.ofString "_law_prices_hold") (prS (d.1.1).params) (d.2.2.2.1.2.1) (d.2.2.1.1) (d.2.2.1.2.1) (cellsFrom ((d.2.2.2.1.2.1) + 1) (prS (d.1.1).params).names []) (d.2.2.1.2.2.1)) (execs (forAt (prB (d.1.1).params) 2).2 (envOfC (Str.ofString "_law_prices_hold") (prS (d.1.1).params) (d.2.2.2.1.2.1) (d.2.2.1.1) (d.2.2.1.2.1))) (TurnPost (d.2.2.2.1.1) (d.2.2.2.1.2.1) (d.2.2.2.2.2.2.2.1.1) (d.2.2.2.2.2.2.2.2.2.1.1) (fun m' led' => ∃ oR' vr1 ps1, oR'.data = .cell vr1 ∧ led' = ((d.2.2.2.2.2.2.1.2.2.2), listOf (List.toArray ps1) ((d.2.2.2.2.2.2.2.1.2.2.1) + 1)) :: ((d.2.2.2.2.2.2.1.2.2.1), listOf (List.toArray (d.2.2.2.2.2.2.2.2.2.1.2.2.2)) 3) :: ((d.2.2.2.1.2.1) + 1 + 1 + 1 + 1 + 1, (d.2.2.2.2.2.2.2.2.1.2.2.2)) :: ((d.2.2.2.1.2.1) + 1 + 1 + 1 + 1, (d.2.2.2.2.2.2.2.2.1.2.2.1)) :: ((d.2.2.2.1.2.1) + 1 + 1 + 1, oR') :: ((d.2.2.2.1.2.1) + 1 + 1, (d.2.2.2.2.2.2.2.2.1.1)) :: ((d.2.2.2.1.2.1) + 1, (d.2.2.2.2.2.2.2.1.2.2.2)) :: ((d.2.2.2.2.2.2.1.2.1), listOf (d.2.2.2.2.2.2.2.2.2.1.2.2.1).toArray (d.2.2.2.2.2.2.2.1.2.1)) :: (d.2.2.2.2.2.2.2.2.2.2.2.1) ∧ IntsZ ps1 ((d.2.2.2.2.2.2.2.1.2.2.1) + 1) 472 (ppr (d.2.2.2.2.1.2.2.2) (d.2.2.2.2.2.1.1) (d.2.2.2.2.2.1.2.1)) ∧ m' (Str.ofString "rate") = some (.int ((d.2.2.2.2.2.1.2.1) : Int) (d.2.2.2.2.2.1.2.2.2))) { (d.2.2.2.1.2.2.1) with heap := (d.2.2.2.1.2.2.2), toks := (d.2.2.2.2.1.1) } (d.2.2.2.2.1.2.1)) (d.2.2.2.2.1.2.2.1) s₃) (d.2.2.2.2.1.2.2.1) { (d.2.2.2.1.2.2.1) with heap := (d.2.2.2.1.2.2.2), toks := (d.2.2.2.2.1.1) }
set_option synthInstance.maxSize 100000 in
set_option synthInstance.maxHeartbeats 800000 in
@[irreducible] noncomputable def k_prT1 : (World × (ExcName → Option Value) × (Str → Option Value) × (Str → Option Value)) × (Around × Nat × Nat × (Option (List Code))) × (Addr × Value × (List Env) × Heap) × (Heap × Addr × Shared × Heap) × (Nat × (Flow → Shared → Prop) × (Value → Shared → Prop) × (Nat → Nat)) × (Nat × Nat × Tok × Tok) × (Tok × Addr × Addr × Addr) × (Addr × Nat × Nat × Obj) × (Obj × Obj × Obj × Obj) × (Obj × (Option Value) × (List Value) × (List Value)) × ((List Value) × (List (Addr × Obj)) × (Str → Option Value)) := pick (by haveI := ne_World; haveI := ne_Around; haveI := ne_Shared; exact inferInstance) s_prT1
theorem prT1_c : s_prT1 k_prT1 := by
  delta s_prT1
  intro B X TT hd hu hμ hst hrate hv hov l1a low e1 e2 e3 e4 e5 e6 e7 q0 q1 q2 q3 q4 q5 q6 q7 f1 f2 f3 f4 f5 f6 f7 f8 f9 dM dS dR' dO2 dP2 hi F6 hps N7
  (w_on; (have qhz : PySem.Challenge.rw_zo0012_01 = PySem.Challenge.rw_zo0012_01 ∧ Mine.hd.heap_1 = Mine.hd.heap_1 := by (k_fill; exact ⟨rfl, rfl⟩)); clear qhz)
  dsimp only [forAt, prB, prS, prParts]
  (try dsimp only [prB, prS, prParts] at B)
  k_steps
  all_goals (rename Fr _ _ _ _ => F8; rename News _ _ _ _ => N8; simp only [List.push_toArray] at N8)
  all_goals first
    | (with_reducible rename ((0 : Int) + _ = _) => hc9; replace hc9 := cast_eq hc9)
    | (with_reducible rename (¬ ((0 : Int) + _ = _)) => hc9; replace hc9 := cast_ne hc9)
  all_goals (repeat (with_reducible rename (_ = Nat.cast _) => hz9; subst hz9))
  all_goals (refine Mine.TurnEnd.intro (((k_prT1.2.2.2.2.2.2.1.2.2.2), listOf (List.toArray ((k_prT1.2.2.2.2.2.2.2.2.2.2.1) ++ [Value.int _ _])) ((k_prT1.2.2.2.2.2.2.2.1.2.2.1) + 1)) :: ((k_prT1.2.2.2.2.2.2.1.2.2.1), listOf (List.toArray (k_prT1.2.2.2.2.2.2.2.2.2.1.2.2.2)) 3) :: ((k_prT1.2.2.2.1.2.1) + 1 + 1 + 1 + 1 + 1, (k_prT1.2.2.2.2.2.2.2.2.1.2.2.2)) :: ((k_prT1.2.2.2.1.2.1) + 1 + 1 + 1 + 1, (k_prT1.2.2.2.2.2.2.2.2.1.2.2.1)) :: ((k_prT1.2.2.2.1.2.1) + 1 + 1 + 1, _) :: ((k_prT1.2.2.2.1.2.1) + 1 + 1, (k_prT1.2.2.2.2.2.2.2.2.1.1)) :: ((k_prT1.2.2.2.1.2.1) + 1, (k_prT1.2.2.2.2.2.2.2.1.2.2.2)) :: ((k_prT1.2.2.2.2.2.2.1.2.1), listOf (k_prT1.2.2.2.2.2.2.2.2.2.1.2.2.1).toArray (k_prT1.2.2.2.2.2.2.2.1.2.1)) :: (k_prT1.2.2.2.2.2.2.2.2.2.2.2.1)) F8 N8 (by walk_at "m:subs") (by first | k_all | fail) ⟨_, _, _, by assumption, rfl, snoc_ppr hps hμ hrate ?_, rfl⟩)
  · unfold ppr ptw p1; rw [if_pos hc9]
  · unfold ppr ptw p1; rw [if_neg hc9]
theorem prT1 (w : World) {mean : ExcName → Option Value} {mg mb : Str → Option Value} {A₀ : Around} {dp un : Nat} {gd : Option (List Code)} {fa : Addr} {cd : Value} {outer : List Env} {base g : Heap} {L : Addr} {s : Shared} {h : Heap} {tk : Nat} {Q : Flow → Shared → Prop} {E : Value → Shared → Prop} {μ : Nat → Nat} {st rate : Nat} {t u ti : Tok} {l D P I : Addr} {c i : Nat} {oM oS oR oO oP oI : Obj} {vr : Option Value} {vals ov ps : List Value} {news : List (Addr × Obj)} {m : Str → Option Value}
    (B : Below A₀ base outer g) (X : (Mine.hd.heap_1 w.params).In g) (TT : Top Mine.hd.view_1 (looseW Mine.hd.view_1 []) mean mg mb g) (hd : dp + 14 < recursionLimit) (hu : un + 8 * 14 < cLine)
    (hμ : ∀ j, μ j ≤ 18) (hst : st < 3) (hrate : rate ≤ 108) (hv : IntsZ vals 9 18 (fun j => (μ j : Int))) (hov : IntsZ ov 3 18 (fun r => (μ (3 * st + r) : Int)))
    (l1a : @LT.lt Nat _ l L) (low : Low L news) (e1 : L + 1 + 1 + 1 + 1 + 1 ≠ D) (e2 : L + 1 + 1 + 1 + 1 ≠ D) (e3 : L + 1 + 1 + 1 ≠ D) (e4 : L + 1 + 1 ≠ D) (e5 : L + 1 ≠ D) (e6 : l ≠ D) (e7 : LCg.Off1 D news)
    (q0 : @LT.lt Nat _ D P) (q1 : @LT.lt Nat _ (L + 1 + 1 + 1 + 1 + 1) P) (q2 : @LT.lt Nat _ (L + 1 + 1 + 1 + 1) P) (q3 : @LT.lt Nat _ (L + 1 + 1 + 1) P) (q4 : @LT.lt Nat _ (L + 1 + 1) P) (q5 : @LT.lt Nat _ (L + 1) P) (q6 : @LT.lt Nat _ l P) (q7 : AllLt P news)
    (f1 : P ≠ I) (f2 : D ≠ I) (f3 : L + 1 + 1 + 1 + 1 + 1 ≠ I) (f4 : L + 1 + 1 + 1 + 1 ≠ I) (f5 : L + 1 + 1 + 1 ≠ I) (f6 : L + 1 + 1 ≠ I) (f7 : L + 1 ≠ I) (f8 : l ≠ I) (f9 : LCg.Off1 I news)
    (dM : oM.data = .cell (some (.ref l))) (dS : oS.data = .cell (some (.int (st : Int) t))) (dR' : oR.data = .cell vr) (dO2 : oO.data = .cell (some (.ref D))) (dP2 : oP.data = .cell (some (.ref P))) (hi : i < 3)
    (F6 : Fr g L h (fun y => if y = Str.ofString "rate" then some (.int (rate : Int) u) else m y))
    (hps : IntsZ ps i 472 (ppr μ st rate)) (N7 : News g L h ((I, oI) :: (P, listOf (List.toArray ps) i) :: (D, listOf (List.toArray ov) 3) :: (L + 1 + 1 + 1 + 1 + 1, oP) :: (L + 1 + 1 + 1 + 1, oO) :: (L + 1 + 1 + 1, oR) :: (L + 1 + 1, oS) :: (L + 1, oM) :: (l, listOf vals.toArray c) :: news)) : wpAny (model PySem.Challenge.rw_zo0012_01.row.prog w) (ktrTop dp un gd (Str.ofString "_law_prices_hold") (prS w.params) L fa cd (cellsFrom (L + 1) (prS w.params).names []) outer) (assign (forAt (prB w.params) 2).1 (envOfC (Str.ofString "_law_prices_hold") (prS w.params) L fa cd) (.int ((0 : Int) + (i : Int)) ti)) (fun _ s₃ => wpAny (model PySem.Challenge.rw_zo0012_01.row.prog w) (ktrTop dp un gd (Str.ofString "_law_prices_hold") (prS w.params) L fa cd (cellsFrom (L + 1) (prS w.params).names []) outer) (execs (forAt (prB w.params) 2).2 (envOfC (Str.ofString "_law_prices_hold") (prS w.params) L fa cd)) (TurnPost g L I oI (fun m' led' => ∃ oR' vr1 ps1, oR'.data = .cell vr1 ∧ led' = (P, listOf (List.toArray ps1) (i + 1)) :: (D, listOf (List.toArray ov) 3) :: (L + 1 + 1 + 1 + 1 + 1, oP) :: (L + 1 + 1 + 1 + 1, oO) :: (L + 1 + 1 + 1, oR') :: (L + 1 + 1, oS) :: (L + 1, oM) :: (l, listOf vals.toArray c) :: news ∧ IntsZ ps1 (i + 1) 472 (ppr μ st rate) ∧ m' (Str.ofString "rate") = some (.int (rate : Int) u)) { s with heap := h, toks := tk } Q) E s₃) E { s with heap := h, toks := tk } :=
  pick_all k_prT1.eq_1 prT1_c ((w, mean, mg, mb), (A₀, dp, un, gd), (fa, cd, outer, base), (g, L, s, h), (tk, Q, E, μ), (st, rate, t, u), (ti, l, D, P), (I, c, i, oM), (oS, oR, oO, oP), (oI, vr, vals, ov), (ps, news, m)) B X TT hd hu hμ hst hrate hv hov l1a low e1 e2 e3 e4 e5 e6 e7 q0 q1 q2 q3 q4 q5 q6 q7 f1 f2 f3 f4 f5 f6 f7 f8 f9 dM dS dR' dO2 dP2 hi F6 hps N7
set_option synthInstance.maxSize 100000 in
set_option synthInstance.maxHeartbeats 800000 in
noncomputable def s_prT2 (d : (World × (ExcName → Option Value) × (Str → Option Value) × (Str → Option Value)) × (Around × Nat × Nat × (Option (List Code))) × (Addr × Value × (List Env) × Heap) × (Heap × Addr × Shared × Heap) × (Nat × (Flow → Shared → Prop) × (Value → Shared → Prop) × (Nat → Nat)) × (Nat × Nat × Tok × Tok) × (Tok × Addr × Addr × Addr) × (Addr × Nat × Nat × Obj) × (Obj × Obj × Obj × Obj) × (Obj × (Option Value) × (List Value) × (List Value)) × ((List Value) × (List (Addr × Obj)) × (Str → Option Value))) : Prop := ∀ (B : Below (d.2.1.1) (d.2.2.1.2.2.2) (d.2.2.1.2.2.1) (d.2.2.2.1.1)) (X : (Mine.hd.heap_1 (d.1.1).params).In (d.2.2.2.1.1)) (TT : Top Mine.hd.view_1 (looseW Mine.hd.view_1 []) (d.1.2.1) (d.1.2.2.1) (d.1.2.2.2) (d.2.2.2.1.1)) (hd : (d.2.1.2.1) + 14 < recursionLimit) (hu : (d.2.1.2.2.1) + 8 * 14 < cLine) (hμ : ∀ j, (d.2.2.2.2.1.2.2.2) j ≤ 18) (hst : (d.2.2.2.2.2.1.1) < 3) (hrate : (d.2.2.2.2.2.1.2.1) ≤ 108) (hv : IntsZ (d.2.2.2.2.2.2.2.2.2.1.2.2.1) 9 18 (fun j => ((d.2.2.2.2.1.2.2.2) j : Int))) (hov : IntsZ (d.2.2.2.2.2.2.2.2.2.1.2.2.2) 3 18 (fun r => ((d.2.2.2.2.1.2.2.2) (3 * (d.2.2.2.2.2.1.1) + r) : Int))) (l1a : @LT.lt Nat _ (d.2.2.2.2.2.2.1.2.1) (d.2.2.2.1.2.1)) (low : Low (d.2.2.2.1.2.1) (d.2.2.2.2.2.2.2.2.2.2.2.1)) (e1 : (d.2.2.2.1.2.1) + 1 + 1 + 1 + 1 + 1 ≠ (d.2.2.2.2.2.2.1.2.2.1)) (e2 : (d.2.2.2.1.2.1) + 1 + 1 + 1 + 1 ≠ (d.2.2.2.2.2.2.1.2.2.1)) (e3 : (d.2.2.2.1.2.1) + 1 + 1 + 1 ≠ (d.2.2.2.2.2.2.1.2.2.1)) (e4 : (d.2.2.2.1.2.1) + 1 + 1 ≠ (d.2.2.2.2.2.2.1.2.2.1)) (e5 : (d.2.2.2.1.2.1) + 1 ≠ (d.2.2.2.2.2.2.1.2.2.1)) (e6 : (d.2.2.2.2.2.2.1.2.1) ≠ (d.2.2.2.2.2.2.1.2.2.1)) (e7 : LCg.Off1 (d.2.2.2.2.2.2.1.2.2.1) (d.2.2.2.2.2.2.2.2.2.2.2.1)) (q0 : @LT.lt Nat _ (d.2.2.2.2.2.2.1.2.2.1) (d.2.2.2.2.2.2.1.2.2.2)) (q1 : @LT.lt Nat _ ((d.2.2.2.1.2.1) + 1 + 1 + 1 + 1 + 1) (d.2.2.2.2.2.2.1.2.2.2)) (q2 : @LT.lt Nat _ ((d.2.2.2.1.2.1) + 1 + 1 + 1 + 1) (d.2.2.2.2.2.2.1.2.2.2)) (q3 : @LT.lt Nat _ ((d.2.2.2.1.2.1) + 1 + 1 + 1) (d.2.2.2.2.2.2.1.2.2.2)) (q4 : @LT.lt Nat _ ((d.2.2.2.1.2.1) + 1 + 1) (d.2.2.2.2.2.2.1.2.2.2)) (q5 : @LT.lt Nat _ ((d.2.2.2.1.2.1) + 1) (d.2.2.2.2.2.2.1.2.2.2)) (q6 : @LT.lt Nat _ (d.2.2.2.2.2.2.1.2.1) (d.2.2.2.2.2.2.1.2.2.2)) (q7 : AllLt (d.2.2.2.2.2.2.1.2.2.2) (d.2.2.2.2.2.2.2.2.2.2.2.1)) (f1 : (d.2.2.2.2.2.2.1.2.2.2) ≠ (d.2.2.2.2.2.2.2.1.1)) (f2 : (d.2.2.2.2.2.2.1.2.2.1) ≠ (d.2.2.2.2.2.2.2.1.1)) (f3 : (d.2.2.2.1.2.1) + 1 + 1 + 1 + 1 + 1 ≠ (d.2.2.2.2.2.2.2.1.1)) (f4 : (d.2.2.2.1.2.1) + 1 + 1 + 1 + 1 ≠ (d.2.2.2.2.2.2.2.1.1)) (f5 : (d.2.2.2.1.2.1) + 1 + 1 + 1 ≠ (d.2.2.2.2.2.2.2.1.1)) (f6 : (d.2.2.2.1.2.1) + 1 + 1 ≠ (d.2.2.2.2.2.2.2.1.1)) (f7 : (d.2.2.2.1.2.1) + 1 ≠ (d.2.2.2.2.2.2.2.1.1)) (f8 : (d.2.2.2.2.2.2.1.2.1) ≠ (d.2.2.2.2.2.2.2.1.1)) (f9 : LCg.Off1 (d.2.2.2.2.2.2.2.1.1) (d.2.2.2.2.2.2.2.2.2.2.2.1)) (dM : (d.2.2.2.2.2.2.2.1.2.2.2).data = .cell (some (.ref (d.2.2.2.2.2.2.1.2.1)))) (dS : (d.2.2.2.2.2.2.2.2.1.1).data = .cell (some (.int ((d.2.2.2.2.2.1.1) : Int) (d.2.2.2.2.2.1.2.2.1)))) (dR' : (d.2.2.2.2.2.2.2.2.1.2.1).data = .cell (d.2.2.2.2.2.2.2.2.2.1.2.1)) (dO2 : (d.2.2.2.2.2.2.2.2.1.2.2.1).data = .cell (some (.ref (d.2.2.2.2.2.2.1.2.2.1)))) (dP2 : (d.2.2.2.2.2.2.2.2.1.2.2.2).data = .cell (some (.ref (d.2.2.2.2.2.2.1.2.2.2)))) (hi : (d.2.2.2.2.2.2.2.1.2.2.1) < 3) (F6 : Fr (d.2.2.2.1.1) (d.2.2.2.1.2.1) (d.2.2.2.1.2.2.2) (fun y => if y = Str.ofString "rate" then some (.int ((d.2.2.2.2.2.1.2.1) : Int) (d.2.2.2.2.2.1.2.2.2)) else (d.2.2.2.2.2.2.2.2.2.2.2.2) y)) (hps : IntsZ (d.2.2.2.2.2.2.2.2.2.2.1) 3 472 (ppr (d.2.2.2.2.1.2.2.2) (d.2.2.2.2.2.1.1) (d.2.2.2.2.2.1.2.1))) (hbad : max (max (ppr (d.2.2.2.2.1.2.2.2) (d.2.2.2.2.2.1.1) (d.2.2.2.2.2.1.2.1) 0 + 6 * ((d.2.2.2.2.1.2.2.2) (d.2.2.2.2.2.2.2.1.2.2.1) : Int)) (ppr (d.2.2.2.2.1.2.2.2) (d.2.2.2.2.2.1.1) (d.2.2.2.2.2.1.2.1) 1 + 6 * ((d.2.2.2.2.1.2.2.2) (3 + (d.2.2.2.2.2.2.2.1.2.2.1)) : Int))) (ppr (d.2.2.2.2.1.2.2.2) (d.2.2.2.2.2.1.1) (d.2.2.2.2.2.1.2.1) 2 + 6 * ((d.2.2.2.2.1.2.2.2) (6 + (d.2.2.2.2.2.2.2.1.2.2.1)) : Int)) = ppr (d.2.2.2.2.1.2.2.2) (d.2.2.2.2.2.1.1) (d.2.2.2.2.2.1.2.1) (d.2.2.2.2.2.2.2.1.2.2.1) + (d.2.2.2.2.2.1.2.1)) (N7 : News (d.2.2.2.1.1) (d.2.2.2.1.2.1) (d.2.2.2.1.2.2.2) (((d.2.2.2.2.2.2.2.1.1), (d.2.2.2.2.2.2.2.2.2.1.1)) :: ((d.2.2.2.2.2.2.1.2.2.2), listOf (List.toArray (d.2.2.2.2.2.2.2.2.2.2.1)) 3) :: ((d.2.2.2.2.2.2.1.2.2.1), listOf (List.toArray (d.2.2.2.2.2.2.2.2.2.1.2.2.2)) 3) :: ((d.2.2.2.1.2.1) + 1 + 1 + 1 + 1 + 1, (d.2.2.2.2.2.2.2.2.1.2.2.2)) :: ((d.2.2.2.1.2.1) + 1 + 1 + 1 + 1, (d.2.2.2.2.2.2.2.2.1.2.2.1)) :: ((d.2.2.2.1.2.1) + 1 + 1 + 1, (d.2.2.2.2.2.2.2.2.1.2.1)) :: ((d.2.2.2.1.2.1) + 1 + 1, (d.2.2.2.2.2.2.2.2.1.1)) :: ((d.2.2.2.1.2.1) + 1, (d.2.2.2.2.2.2.2.1.2.2.2)) :: ((d.2.2.2.2.2.2.1.2.1), listOf (d.2.2.2.2.2.2.2.2.2.1.2.2.1).toArray (d.2.2.2.2.2.2.2.1.2.1)) :: (d.2.2.2.2.2.2.2.2.2.2.2.1))), wpAny (model PySem.Challenge.rw_zo0012_01.row.prog (d.1.1)) (ktrTop (d.2.1.2.1) (d.2.1.2.2.1) (d.2.1.2.2.2) (Str.ofString "_law_prices_hold") (prS (d.1.1).params) (d.2.2.2.1.2.1) (d.2.2.1.1) (d.2.2.1.2.1) (cellsFrom ((d.2.2.2.1.2.1) + 1) (prS (d.1.1).params).names []) (d.2.2.1.2.2.1)) (assign (forAt (prB (d.1.1).params) 3).1 (envOfC (Str.ofString "_law_prices_hold") (prS (d.1.1).params) (d.2.2.2.1.2.1) (d.2.2.1.1) (d.2.2.1.2.1)) (.int ((0 : Int) + ((d.2.2.2.2.2.2.2.1.2.2.1) : Int)) (d.2.2.2.2.2.2.1.1))) (fun _ s₃ => wpAny (model PySem.Challenge.rw_zo0012_01.row.prog (d.1.1)) (ktrTop (d.2.1.2.1) (d.2.1.2.2.1) (d.2.1.2.2.2) (Str.ofString "_law_prices_hold") (prS (d.1.1).params) (d.2.2.2.1.2.1) (d.2.2.1.1) (d.2.2.1.2.1) (cellsFrom ((d.2.2.2.1.2.1) + 1) (prS (d.1.1).params).names []) (d.2.2.1.2.2.1)) (execs (forAt (prB (d.1.1).params) 3).2 (envOfC (Str.ofString "_law_prices_hold") (prS (d.1.1).params) (d.2.2.2.1.2.1) (d.2.2.1.1) (d.2.2.1.2.1))) (TurnPost (d.2.2.2.1.1) (d.2.2.2.1.2.1) (d.2.2.2.2.2.2.2.1.1) (d.2.2.2.2.2.2.2.2.2.1.1) (fun m' led' => ∃ oR' vr1, oR'.data = .cell vr1 ∧ led' = ((d.2.2.2.2.2.2.1.2.2.2), listOf (List.toArray (d.2.2.2.2.2.2.2.2.2.2.1)) 3) :: ((d.2.2.2.2.2.2.1.2.2.1), listOf (List.toArray (d.2.2.2.2.2.2.2.2.2.1.2.2.2)) 3) :: ((d.2.2.2.1.2.1) + 1 + 1 + 1 + 1 + 1, (d.2.2.2.2.2.2.2.2.1.2.2.2)) :: ((d.2.2.2.1.2.1) + 1 + 1 + 1 + 1, (d.2.2.2.2.2.2.2.2.1.2.2.1)) :: ((d.2.2.2.1.2.1) + 1 + 1 + 1, oR') :: ((d.2.2.2.1.2.1) + 1 + 1, (d.2.2.2.2.2.2.2.2.1.1)) :: ((d.2.2.2.1.2.1) + 1, (d.2.2.2.2.2.2.2.1.2.2.2)) :: ((d.2.2.2.2.2.2.1.2.1), listOf (d.2.2.2.2.2.2.2.2.2.1.2.2.1).toArray (d.2.2.2.2.2.2.2.1.2.1)) :: (d.2.2.2.2.2.2.2.2.2.2.2.1) ∧ m' (Str.ofString "rate") = some (.int ((d.2.2.2.2.2.1.2.1) : Int) (d.2.2.2.2.2.1.2.2.2))) { (d.2.2.2.1.2.2.1) with heap := (d.2.2.2.1.2.2.2), toks := (d.2.2.2.2.1.1) } (d.2.2.2.2.1.2.1)) (d.2.2.2.2.1.2.2.1) s₃) (d.2.2.2.2.1.2.2.1) { (d.2.2.2.1.2.2.1) with heap := (d.2.2.2.1.2.2.2), toks := (d.2.2.2.2.1.1) }
set_option synthInstance.maxSize 100000 in
set_option synthInstance.maxHeartbeats 800000 in
@[irreducible] noncomputable def k_prT2 : (World × (ExcName → Option Value) × (Str → Option Value) × (Str → Option Value)) × (Around × Nat × Nat × (Option (List Code))) × (Addr × Value × (List Env) × Heap) × (Heap × Addr × Shared × Heap) × (Nat × (Flow → Shared → Prop) × (Value → Shared → Prop) × (Nat → Nat)) × (Nat × Nat × Tok × Tok) × (Tok × Addr × Addr × Addr) × (Addr × Nat × Nat × Obj) × (Obj × Obj × Obj × Obj) × (Obj × (Option Value) × (List Value) × (List Value)) × ((List Value) × (List (Addr × Obj)) × (Str → Option Value)) := pick (by haveI := ne_World; haveI := ne_Around; haveI := ne_Shared; exact inferInstance) s_prT2
theorem prT2_c : s_prT2 k_prT2 := by
  delta s_prT2
  intro B X TT hd hu hμ hst hrate hv hov l1a low e1 e2 e3 e4 e5 e6 e7 q0 q1 q2 q3 q4 q5 q6 q7 f1 f2 f3 f4 f5 f6 f7 f8 f9 dM dS dR' dO2 dP2 hi F6 hps hbad N7
  (w_on; (have qhz : PySem.Challenge.rw_zo0012_01 = PySem.Challenge.rw_zo0012_01 ∧ Mine.hd.heap_1 = Mine.hd.heap_1 := by (k_fill; exact ⟨rfl, rfl⟩)); clear qhz)
  dsimp only [forAt, prB, prS, prParts]
  (try dsimp only [prB, prS, prParts] at B)
  k_steps
  all_goals (repeat first | (with_reducible rename (_ = Nat.cast _) => hz9; subst hz9) | (with_reducible rename (_ = ppr _ _ _ _) => hz9; subst hz9))
  all_goals first
    | exact absurd hbad (by assumption)
    | (exfalso; omega)
    | (rename Fr _ _ _ _ => F8; rename News _ _ _ _ => N8; exact Mine.TurnEnd.intro (((k_prT2.2.2.2.2.2.2.1.2.2.2), listOf (List.toArray (k_prT2.2.2.2.2.2.2.2.2.2.2.1)) 3) :: ((k_prT2.2.2.2.2.2.2.1.2.2.1), listOf (List.toArray (k_prT2.2.2.2.2.2.2.2.2.2.1.2.2.2)) 3) :: ((k_prT2.2.2.2.1.2.1) + 1 + 1 + 1 + 1 + 1, (k_prT2.2.2.2.2.2.2.2.2.1.2.2.2)) :: ((k_prT2.2.2.2.1.2.1) + 1 + 1 + 1 + 1, (k_prT2.2.2.2.2.2.2.2.2.1.2.2.1)) :: ((k_prT2.2.2.2.1.2.1) + 1 + 1 + 1, _) :: ((k_prT2.2.2.2.1.2.1) + 1 + 1, (k_prT2.2.2.2.2.2.2.2.2.1.1)) :: ((k_prT2.2.2.2.1.2.1) + 1, (k_prT2.2.2.2.2.2.2.2.1.2.2.2)) :: ((k_prT2.2.2.2.2.2.2.1.2.1), listOf (k_prT2.2.2.2.2.2.2.2.2.2.1.2.2.1).toArray (k_prT2.2.2.2.2.2.2.2.1.2.1)) :: (k_prT2.2.2.2.2.2.2.2.2.2.2.2.1)) F8 N8 (by walk_at "m:subs") (by first | k_all | fail) ⟨_, _, by assumption, rfl, rfl⟩)
theorem prT2 (w : World) {mean : ExcName → Option Value} {mg mb : Str → Option Value} {A₀ : Around} {dp un : Nat} {gd : Option (List Code)} {fa : Addr} {cd : Value} {outer : List Env} {base g : Heap} {L : Addr} {s : Shared} {h : Heap} {tk : Nat} {Q : Flow → Shared → Prop} {E : Value → Shared → Prop} {μ : Nat → Nat} {st rate : Nat} {t u ti : Tok} {l D P I : Addr} {c i : Nat} {oM oS oR oO oP oI : Obj} {vr : Option Value} {vals ov ps : List Value} {news : List (Addr × Obj)} {m : Str → Option Value}
    (B : Below A₀ base outer g) (X : (Mine.hd.heap_1 w.params).In g) (TT : Top Mine.hd.view_1 (looseW Mine.hd.view_1 []) mean mg mb g) (hd : dp + 14 < recursionLimit) (hu : un + 8 * 14 < cLine)
    (hμ : ∀ j, μ j ≤ 18) (hst : st < 3) (hrate : rate ≤ 108) (hv : IntsZ vals 9 18 (fun j => (μ j : Int))) (hov : IntsZ ov 3 18 (fun r => (μ (3 * st + r) : Int)))
    (l1a : @LT.lt Nat _ l L) (low : Low L news) (e1 : L + 1 + 1 + 1 + 1 + 1 ≠ D) (e2 : L + 1 + 1 + 1 + 1 ≠ D) (e3 : L + 1 + 1 + 1 ≠ D) (e4 : L + 1 + 1 ≠ D) (e5 : L + 1 ≠ D) (e6 : l ≠ D) (e7 : LCg.Off1 D news)
    (q0 : @LT.lt Nat _ D P) (q1 : @LT.lt Nat _ (L + 1 + 1 + 1 + 1 + 1) P) (q2 : @LT.lt Nat _ (L + 1 + 1 + 1 + 1) P) (q3 : @LT.lt Nat _ (L + 1 + 1 + 1) P) (q4 : @LT.lt Nat _ (L + 1 + 1) P) (q5 : @LT.lt Nat _ (L + 1) P) (q6 : @LT.lt Nat _ l P) (q7 : AllLt P news)
    (f1 : P ≠ I) (f2 : D ≠ I) (f3 : L + 1 + 1 + 1 + 1 + 1 ≠ I) (f4 : L + 1 + 1 + 1 + 1 ≠ I) (f5 : L + 1 + 1 + 1 ≠ I) (f6 : L + 1 + 1 ≠ I) (f7 : L + 1 ≠ I) (f8 : l ≠ I) (f9 : LCg.Off1 I news)
    (dM : oM.data = .cell (some (.ref l))) (dS : oS.data = .cell (some (.int (st : Int) t))) (dR' : oR.data = .cell vr) (dO2 : oO.data = .cell (some (.ref D))) (dP2 : oP.data = .cell (some (.ref P))) (hi : i < 3)
    (F6 : Fr g L h (fun y => if y = Str.ofString "rate" then some (.int (rate : Int) u) else m y))
    (hps : IntsZ ps 3 472 (ppr μ st rate)) (hbad : max (max (ppr μ st rate 0 + 6 * (μ i : Int)) (ppr μ st rate 1 + 6 * (μ (3 + i) : Int))) (ppr μ st rate 2 + 6 * (μ (6 + i) : Int)) = ppr μ st rate i + rate) (N7 : News g L h ((I, oI) :: (P, listOf (List.toArray ps) 3) :: (D, listOf (List.toArray ov) 3) :: (L + 1 + 1 + 1 + 1 + 1, oP) :: (L + 1 + 1 + 1 + 1, oO) :: (L + 1 + 1 + 1, oR) :: (L + 1 + 1, oS) :: (L + 1, oM) :: (l, listOf vals.toArray c) :: news)) : wpAny (model PySem.Challenge.rw_zo0012_01.row.prog w) (ktrTop dp un gd (Str.ofString "_law_prices_hold") (prS w.params) L fa cd (cellsFrom (L + 1) (prS w.params).names []) outer) (assign (forAt (prB w.params) 3).1 (envOfC (Str.ofString "_law_prices_hold") (prS w.params) L fa cd) (.int ((0 : Int) + (i : Int)) ti)) (fun _ s₃ => wpAny (model PySem.Challenge.rw_zo0012_01.row.prog w) (ktrTop dp un gd (Str.ofString "_law_prices_hold") (prS w.params) L fa cd (cellsFrom (L + 1) (prS w.params).names []) outer) (execs (forAt (prB w.params) 3).2 (envOfC (Str.ofString "_law_prices_hold") (prS w.params) L fa cd)) (TurnPost g L I oI (fun m' led' => ∃ oR' vr1, oR'.data = .cell vr1 ∧ led' = (P, listOf (List.toArray ps) 3) :: (D, listOf (List.toArray ov) 3) :: (L + 1 + 1 + 1 + 1 + 1, oP) :: (L + 1 + 1 + 1 + 1, oO) :: (L + 1 + 1 + 1, oR') :: (L + 1 + 1, oS) :: (L + 1, oM) :: (l, listOf vals.toArray c) :: news ∧ m' (Str.ofString "rate") = some (.int (rate : Int) u)) { s with heap := h, toks := tk } Q) E s₃) E { s with heap := h, toks := tk } :=
  pick_all k_prT2.eq_1 prT2_c ((w, mean, mg, mb), (A₀, dp, un, gd), (fa, cd, outer, base), (g, L, s, h), (tk, Q, E, μ), (st, rate, t, u), (ti, l, D, P), (I, c, i, oM), (oS, oR, oO, oP), (oI, vr, vals, ov), (ps, news, m)) B X TT hd hu hμ hst hrate hv hov l1a low e1 e2 e3 e4 e5 e6 e7 q0 q1 q2 q3 q4 q5 q6 q7 f1 f2 f3 f4 f5 f6 f7 f8 f9 dM dS dR' dO2 dP2 hi F6 hps hbad N7
set_option synthInstance.maxSize 100000 in
set_option synthInstance.maxHeartbeats 800000 in
noncomputable def s_prBody (d : (World × (ExcName → Option Value) × (Str → Option Value) × (Str → Option Value)) × (Around × Nat × Nat × (Option (List Code))) × (Addr × Value × (List Env) × Heap) × (Heap × Addr × Shared × Heap) × ((Flow → Shared → Prop) × (Value → Shared → Prop) × (Nat → Nat) × Nat) × (Nat × Tok × Tok × Addr) × (Nat × Obj × Obj × Obj) × (Obj × Obj × (List Value) × (List (Addr × Obj)))) : Prop := ∀ (tk : Nat) (B : Below (d.2.1.1) (d.2.2.1.2.2.2) (d.2.2.1.2.2.1) (d.2.2.2.1.1)) (X : (Mine.hd.heap_1 (d.1.1).params).In (d.2.2.2.1.1)) (TT : Top Mine.hd.view_1 (looseW Mine.hd.view_1 []) (d.1.2.1) (d.1.2.2.1) (d.1.2.2.2) (d.2.2.2.1.1)) (hd : (d.2.1.2.1) + 14 < recursionLimit) (hu : (d.2.1.2.2.1) + 8 * 14 < cLine) (hμ : ∀ j, (d.2.2.2.2.1.2.2.1) j ≤ 18) (hst : (d.2.2.2.2.1.2.2.2) < 3) (hrate : (d.2.2.2.2.2.1.1) ≤ 108) (hph : PHold (d.2.2.2.2.1.2.2.1) (d.2.2.2.2.1.2.2.2) (d.2.2.2.2.2.1.1)) (hv : IntsZ (d.2.2.2.2.2.2.2.2.2.1) 9 18 (fun j => ((d.2.2.2.2.1.2.2.1) j : Int))) (l1a : @LT.lt Nat _ (d.2.2.2.2.2.1.2.2.2) (d.2.2.2.1.2.1)) (l1b : AllLt (d.2.2.2.1.2.1) (d.2.2.2.2.2.2.2.2.2.2)) (low : Low (d.2.2.2.1.2.1) (d.2.2.2.2.2.2.2.2.2.2)) (dM : (d.2.2.2.2.2.2.1.2.1).data = .cell (some (.ref (d.2.2.2.2.2.1.2.2.2)))) (dS : (d.2.2.2.2.2.2.1.2.2.1).data = .cell (some (.int ((d.2.2.2.2.1.2.2.2) : Int) (d.2.2.2.2.2.1.2.1)))) (dR : (d.2.2.2.2.2.2.1.2.2.2).data = .cell none) (dO : (d.2.2.2.2.2.2.2.1).data = .cell none) (dP : (d.2.2.2.2.2.2.2.2.1).data = .cell none) (F1 : Fr (d.2.2.2.1.1) (d.2.2.2.1.2.1) (d.2.2.2.1.2.2.2) (fun y => if y = Str.ofString "rate" then some (.int ((d.2.2.2.2.2.1.1) : Int) (d.2.2.2.2.2.1.2.2.1)) else none)) (N1 : News (d.2.2.2.1.1) (d.2.2.2.1.2.1) (d.2.2.2.1.2.2.2) (((d.2.2.2.1.2.1) + 1 + 1 + 1 + 1 + 1, (d.2.2.2.2.2.2.2.2.1)) :: ((d.2.2.2.1.2.1) + 1 + 1 + 1 + 1, (d.2.2.2.2.2.2.2.1)) :: ((d.2.2.2.1.2.1) + 1 + 1 + 1, (d.2.2.2.2.2.2.1.2.2.2)) :: ((d.2.2.2.1.2.1) + 1 + 1, (d.2.2.2.2.2.2.1.2.2.1)) :: ((d.2.2.2.1.2.1) + 1, (d.2.2.2.2.2.2.1.2.1)) :: ((d.2.2.2.2.2.1.2.2.2), listOf (d.2.2.2.2.2.2.2.2.2.1).toArray (d.2.2.2.2.2.2.1.1)) :: (d.2.2.2.2.2.2.2.2.2.2))) (hE : PassesOwn (model PySem.Challenge.rw_zo0012_01.row.prog (d.1.1)) (ktrTop (d.2.1.2.1) (d.2.1.2.2.1) (d.2.1.2.2.2) (Str.ofString "_law_prices_hold") (prS (d.1.1).params) (d.2.2.2.1.2.1) (d.2.2.1.1) (d.2.2.1.2.1) (cellsFrom ((d.2.2.2.1.2.1) + 1) (prS (d.1.1).params).names []) (d.2.2.1.2.2.1)) (envOfC (Str.ofString "_law_prices_hold") (prS (d.1.1).params) (d.2.2.2.1.2.1) (d.2.2.1.1) (d.2.2.1.2.1)) (d.2.2.2.2.1.2.1)) (ret : ∀ h' tk' m' led', Fr (d.2.2.2.1.1) (d.2.2.2.1.2.1) h' m' → News (d.2.2.2.1.1) (d.2.2.2.1.2.1) h' led' → (∀ p ∈ (d.2.2.2.2.2.2.2.2.2.2), p ∈ led') → (d.2.2.2.2.1.1) (.ret (.bool true)) { (d.2.2.2.1.2.2.1) with heap := h', toks := tk' }), wpAny (model PySem.Challenge.rw_zo0012_01.row.prog (d.1.1)) (ktrTop (d.2.1.2.1) (d.2.1.2.2.1) (d.2.1.2.2.2) (Str.ofString "_law_prices_hold") (prS (d.1.1).params) (d.2.2.2.1.2.1) (d.2.2.1.1) (d.2.2.1.2.1) (cellsFrom ((d.2.2.2.1.2.1) + 1) (prS (d.1.1).params).names []) (d.2.2.1.2.2.1)) (execs (prB (d.1.1).params) (envOfC (Str.ofString "_law_prices_hold") (prS (d.1.1).params) (d.2.2.2.1.2.1) (d.2.2.1.1) (d.2.2.1.2.1))) (d.2.2.2.2.1.1) (d.2.2.2.2.1.2.1) { (d.2.2.2.1.2.2.1) with heap := (d.2.2.2.1.2.2.2), toks := tk }
set_option synthInstance.maxSize 100000 in
set_option synthInstance.maxHeartbeats 800000 in
@[irreducible] noncomputable def k_prBody : (World × (ExcName → Option Value) × (Str → Option Value) × (Str → Option Value)) × (Around × Nat × Nat × (Option (List Code))) × (Addr × Value × (List Env) × Heap) × (Heap × Addr × Shared × Heap) × ((Flow → Shared → Prop) × (Value → Shared → Prop) × (Nat → Nat) × Nat) × (Nat × Tok × Tok × Addr) × (Nat × Obj × Obj × Obj) × (Obj × Obj × (List Value) × (List (Addr × Obj))) := pick (by haveI := ne_World; haveI := ne_Around; haveI := ne_Shared; exact inferInstance) s_prBody
theorem prBody_c : s_prBody k_prBody := by
  delta s_prBody
  intro tk B X TT hd hu hμ hst hrate hph hv l1a l1b low dM dS dR dO dP F1 N1 hE ret
  (w_on; (have qhz : PySem.Challenge.rw_zo0012_01 = PySem.Challenge.rw_zo0012_01 ∧ Mine.hd.heap_1 = Mine.hd.heap_1 := by (k_fill; exact ⟨rfl, rfl⟩)); clear qhz)
  dsimp only [prB, prS, prParts]
  dsimp only [prS, prParts] at hE
  (try k_unmd)
  (try k_fold)
  k_steps
  (walk_at "m:hide"; rename_i z0 _ hz0 _ _ _ _ _ _ _ _ _ _ _ _ _ z1 _ hz1 _ _ _ _ _ _ _ _ _ _ _ _ _ z2 _ hz2 _ _ D h2 tkD e1 e2 e3 e4 e5 e6 e7 h3 oO2 dO2 P h4 lP h5 oP2 F4 N4 dP2 h6 tk3 u1 u2 u3 hr F5 N5 kp; walk_at "m:bare")
  have hov : ∃ ov : List Value, News (k_prBody.2.2.2.1.1) (k_prBody.2.2.2.1.2.1) h6 ((P, listOf (List.toArray []) 0) :: (D, listOf (List.toArray ov) 3) :: ((k_prBody.2.2.2.1.2.1) + 1 + 1 + 1 + 1 + 1, oP2) :: ((k_prBody.2.2.2.1.2.1) + 1 + 1 + 1 + 1, oO2) :: ((k_prBody.2.2.2.1.2.1) + 1 + 1 + 1, (k_prBody.2.2.2.2.2.2.1.2.2.2)) :: ((k_prBody.2.2.2.1.2.1) + 1 + 1, (k_prBody.2.2.2.2.2.2.1.2.2.1)) :: ((k_prBody.2.2.2.1.2.1) + 1, (k_prBody.2.2.2.2.2.2.1.2.1)) :: ((k_prBody.2.2.2.2.2.1.2.2.2), listOf (k_prBody.2.2.2.2.2.2.2.2.2.1).toArray (k_prBody.2.2.2.2.2.2.1.1)) :: (k_prBody.2.2.2.2.2.2.2.2.2.2)) ∧ IntsZ ov 3 18 (fun r => ((k_prBody.2.2.2.2.1.2.2.1) (3 * (k_prBody.2.2.2.2.1.2.2.2) + r) : Int)) :=
    ⟨_, N5, IntsZ.snoc (IntsZ.snoc (IntsZ.snoc IntsZ.nil (by assumption) (by assumption) (by assumption)) (by assumption) (by assumption) (by assumption)) (by assumption) (by assumption) (by assumption)⟩
  refine Mine.by_op fun P9 bk9 => ?_
  obtain ⟨ov, N6, hov⟩ := hov
  refine bk9 ?_; clear bk9 P9
  clear N5 N4 F4 kp
  refine Mine.by_op fun P9 bk9 => ?_
  obtain ⟨q0, q1, q2, q3, q4, q5, q6, q7⟩ := lP
  refine bk9 ?_; clear bk9 P9
  refine iter_rangeW (n := 3) (fun i m' led' => ∃ oR' vr ps, oR'.data = .cell vr ∧ led' = (P, listOf (List.toArray ps) i) :: (D, listOf (List.toArray ov) 3) :: ((k_prBody.2.2.2.1.2.1) + 1 + 1 + 1 + 1 + 1, oP2) :: ((k_prBody.2.2.2.1.2.1) + 1 + 1 + 1 + 1, oO2) :: ((k_prBody.2.2.2.1.2.1) + 1 + 1 + 1, oR') :: ((k_prBody.2.2.2.1.2.1) + 1 + 1, (k_prBody.2.2.2.2.2.2.1.2.2.1)) :: ((k_prBody.2.2.2.1.2.1) + 1, (k_prBody.2.2.2.2.2.2.1.2.1)) :: ((k_prBody.2.2.2.2.2.1.2.2.2), listOf (k_prBody.2.2.2.2.2.2.2.2.2.1).toArray (k_prBody.2.2.2.2.2.2.1.1)) :: (k_prBody.2.2.2.2.2.2.2.2.2.2) ∧ IntsZ ps i 472 (ppr (k_prBody.2.2.2.2.1.2.2.1) (k_prBody.2.2.2.2.1.2.2.2) (k_prBody.2.2.2.2.2.1.1)) ∧ m' (Str.ofString "rate") = some (.int ((k_prBody.2.2.2.2.2.1.1) : Int) (k_prBody.2.2.2.2.2.1.2.2.1))) (by rfl) hr (by decide) (by decide) F5 N6 ⟨(k_prBody.2.2.2.2.2.2.1.2.2.2), none, [], dR, rfl, IntsZ.nil, rfl⟩ (by intros; exact Expr.noConfusion) (by intros; exact Expr.noConfusion) ?_ ?_
  · intro i ti m₁ led₁ h tk I oI hi qz99 F6 N7 off
    refine Mine.by_op fun P9 bk9 => ?_
    obtain ⟨oR', vr, ps, dR', rfl, hps, hm1⟩ := qz99
    refine bk9 ?_; clear bk9 P9
    replace F6 := Mine.Fr.know F6 hm1
    refine Mine.by_op fun P9 bk9 => ?_
    obtain ⟨f1, f2, f3, f4, f5, f6, f7, f8, f9⟩ := off1_of off
    refine bk9 ?_; clear bk9 P9
    dsimp only at f1 f2 f3 f4 f5 f6 f7 f8
    exact prT1 (k_prBody.1.1) B X TT hd hu hμ hst hrate hv hov l1a low e1 e2 e3 e4 e5 e6 e7 q0 q1 q2 q3 q4 q5 q6 q7 f1 f2 f3 f4 f5 f6 f7 f8 f9 dM dS dR' dO2 dP2 hi F6 hps N7
  · intro h tk m₁ led₁ F6 N7 qz69
    refine Mine.by_op fun P9 bk9 => ?_
    obtain ⟨oR', vr, ps, dR', rfl, hps, hm1⟩ := qz69
    refine bk9 ?_; clear bk9 P9
    replace F6 := Mine.Fr.know F6 hm1
    replace N7 : News (k_prBody.2.2.2.1.1) (k_prBody.2.2.2.1.2.1) h _ := N7
    replace F6 : Fr (k_prBody.2.2.2.1.1) (k_prBody.2.2.2.1.2.1) h _ := F6
    clear N6 hr F5
    (try dsimp only)
    k_steps
    (walk_at "m:hide"; rename_i h7 tk7 w1 w2 w3 hr2 F7 N8 kp2; walk_at "m:bare")
    refine iter_rangeW (n := 3) (fun i m' led' => ∃ oR' vr, oR'.data = .cell vr ∧ led' = (P, listOf (List.toArray ps) 3) :: (D, listOf (List.toArray ov) 3) :: ((k_prBody.2.2.2.1.2.1) + 1 + 1 + 1 + 1 + 1, oP2) :: ((k_prBody.2.2.2.1.2.1) + 1 + 1 + 1 + 1, oO2) :: ((k_prBody.2.2.2.1.2.1) + 1 + 1 + 1, oR') :: ((k_prBody.2.2.2.1.2.1) + 1 + 1, (k_prBody.2.2.2.2.2.2.1.2.2.1)) :: ((k_prBody.2.2.2.1.2.1) + 1, (k_prBody.2.2.2.2.2.2.1.2.1)) :: ((k_prBody.2.2.2.2.2.1.2.2.2), listOf (k_prBody.2.2.2.2.2.2.2.2.2.1).toArray (k_prBody.2.2.2.2.2.2.1.1)) :: (k_prBody.2.2.2.2.2.2.2.2.2.2) ∧ m' (Str.ofString "rate") = some (.int ((k_prBody.2.2.2.2.2.1.1) : Int) (k_prBody.2.2.2.2.2.1.2.2.1))) (by rfl) hr2 (by decide) (by decide) F7 N8 ⟨oR', vr, dR', rfl, rfl⟩ (by intros; exact Expr.noConfusion) (by intros; exact Expr.noConfusion) ?_ ?_
    · clear dR' kp2 hr2
      intro i ti m₁ led₁ h tk I oI hi qz99 F6 N7 off
      refine Mine.by_op fun P9 bk9 => ?_
      obtain ⟨oR', vr, dR', rfl, hm1⟩ := qz99
      refine bk9 ?_; clear bk9 P9
      replace F6 := Mine.Fr.know F6 hm1
      refine Mine.by_op fun P9 bk9 => ?_
      obtain ⟨f1, f2, f3, f4, f5, f6, f7, f8, f9⟩ := off1_of off
      refine bk9 ?_; clear bk9 P9
      dsimp only at f1 f2 f3 f4 f5 f6 f7 f8
      exact prT2 (k_prBody.1.1) B X TT hd hu hμ hst hrate hv hov l1a low e1 e2 e3 e4 e5 e6 e7 q0 q1 q2 q3 q4 q5 q6 q7 f1 f2 f3 f4 f5 f6 f7 f8 f9 dM dS dR' dO2 dP2 hi F6 hps (hph.2 i hi) N7
    · clear dR' kp2 hr2
      intro h tk m₁ led₁ F6 N7 qz69
      refine Mine.by_op fun P9 bk9 => ?_
      obtain ⟨oR', vr, dR', rfl, hm1⟩ := qz69
      refine bk9 ?_; clear bk9 P9
      replace F6 := Mine.Fr.know F6 hm1
      replace N7 : News (k_prBody.2.2.2.1.1) (k_prBody.2.2.2.1.2.1) h _ := N7
      replace F6 : Fr (k_prBody.2.2.2.1.1) (k_prBody.2.2.2.1.2.1) h _ := F6
      have hbad := hph.1
      clear F7 N8
      (try dsimp only)
      k_steps
      (try dsimp only)
      refine Mine.by_op fun P9 bk9 => ?_
      obtain rfl : qzz' = 256 := by omega
      refine bk9 ?_; clear bk9 P9
      rename Fr _ _ _ _ => kF
      rename News _ _ _ _ => kN
      exact ret _ _ _ _ kF kN (fun p hp => by walk_at "m:mem")
theorem prBody (w : World) {mean : ExcName → Option Value} {mg mb : Str → Option Value} {A₀ : Around} {dp un : Nat} {gd : Option (List Code)} {fa : Addr} {cd : Value} {outer : List Env} {base g : Heap} {L : Addr} {s : Shared} {hh : Heap} {tk : Nat} {Q : Flow → Shared → Prop} {E : Value → Shared → Prop} {μ : Nat → Nat} {st rate : Nat} {t u : Tok} {l : Addr} {c : Nat} {oM oS oR oO oP : Obj} {vals : List Value} {news : List (Addr × Obj)}
    (B : Below A₀ base outer g) (X : (Mine.hd.heap_1 w.params).In g) (TT : Top Mine.hd.view_1 (looseW Mine.hd.view_1 []) mean mg mb g) (hd : dp + 14 < recursionLimit) (hu : un + 8 * 14 < cLine)
    (hμ : ∀ j, μ j ≤ 18) (hst : st < 3) (hrate : rate ≤ 108) (hph : PHold μ st rate) (hv : IntsZ vals 9 18 (fun j => (μ j : Int)))
    (l1a : @LT.lt Nat _ l L) (l1b : AllLt L news) (low : Low L news) (dM : oM.data = .cell (some (.ref l))) (dS : oS.data = .cell (some (.int (st : Int) t))) (dR : oR.data = .cell none) (dO : oO.data = .cell none) (dP : oP.data = .cell none)
    (F1 : Fr g L hh (fun y => if y = Str.ofString "rate" then some (.int (rate : Int) u) else none)) (N1 : News g L hh ((L + 1 + 1 + 1 + 1 + 1, oP) :: (L + 1 + 1 + 1 + 1, oO) :: (L + 1 + 1 + 1, oR) :: (L + 1 + 1, oS) :: (L + 1, oM) :: (l, listOf vals.toArray c) :: news))
    (hE : PassesOwn (model PySem.Challenge.rw_zo0012_01.row.prog w) (ktrTop dp un gd (Str.ofString "_law_prices_hold") (prS w.params) L fa cd (cellsFrom (L + 1) (prS w.params).names []) outer) (envOfC (Str.ofString "_law_prices_hold") (prS w.params) L fa cd) E)
    (ret : ∀ h' tk' m' led', Fr g L h' m' → News g L h' led' → (∀ p ∈ news, p ∈ led') → Q (.ret (.bool true)) { s with heap := h', toks := tk' }) : wpAny (model PySem.Challenge.rw_zo0012_01.row.prog w) (ktrTop dp un gd (Str.ofString "_law_prices_hold") (prS w.params) L fa cd (cellsFrom (L + 1) (prS w.params).names []) outer) (execs (prB w.params) (envOfC (Str.ofString "_law_prices_hold") (prS w.params) L fa cd)) Q E { s with heap := hh, toks := tk } :=
  pick_all k_prBody.eq_1 prBody_c ((w, mean, mg, mb), (A₀, dp, un, gd), (fa, cd, outer, base), (g, L, s, hh), (Q, E, μ, st), (rate, t, u, l), (c, oM, oS, oR), (oO, oP, vals, news)) tk B X TT hd hu hμ hst hrate hph hv l1a l1b low dM dS dR dO dP F1 N1 hE ret
theorem prices (w : World) (μ : Nat → Nat) (st rate : Nat) : Gives w 15 129 (fun news vs => (∀ i, μ i ≤ 18) ∧ st < 3 ∧ rate ≤ 108 ∧ PHold μ st rate ∧ ∃ l c t u vals, vs = [.ref l, .int (st : Int) t, .int (rate : Int) u] ∧ IntsZ vals 9 18 (fun i => (μ i : Int)) ∧ (l, listOf vals.toArray c) ∈ news) (fun _ add r => add = [] ∧ r = .bool true) := by
  w_on
  unfold Gives
  k_fill
  intro mean mg mb dp un gd cn cs _ ccd cl outer A₀ base h₀ L m news s vs Q E B F X N TT hk hR hd hu hret
  have hd1 : dp + 1 + 14 < recursionLimit := by clear hret; omega
  have hu1 : un + 3 + 8 * 14 < cLine := by clear hret; omega
  refine Mine.by_op fun P9 bk9 => ?_
  obtain ⟨hμ, hst, hrate, hph, l, c, t, u, vals, rfl, hv, hl⟩ := hR
  refine bk9 ?_; clear bk9 P9
  replace N := news_dup N hl
  refine wpAny_call ?_
  k_dflt (walk_at "m:enterC")
  (walk_at "m:hide"; rename_i g' L' h1 tk1 FG F1 B' X' T' l1 oP oO oR oS oM dP dO dR dS dM N1; walk_at "m:bare")
  obtain ⟨l1a, l1b⟩ := l1
  have low : Low L' news := allLt_mem l1b
  replace dM : oM.data = .cell (some (.ref l)) := dM
  replace dS : oS.data = .cell (some (.int (st : Int) t)) := dS
  replace dR : oR.data = .cell none := dR
  replace dO : oO.data = .cell none := dO
  replace dP : oP.data = .cell none := dP
  replace F1 : Fr g' L' h1 (fun y => if y = Str.ofString "rate" then some (.int (rate : Int) u) else none) := Mine.Fr.alike F1 (fun y => rfl)
  exact prBody w (dp := dp + 1) (un := un + 3) B' X' T' hd1 hu1 hμ hst hrate hph hv l1a l1b low dM dS dR dO dP F1 N1 (by passes_own) fun h' tk' m' led' F' N' sub => leaveK_ F' N' fun kF kN => hret _ [] _ _ kF (news_sub kN sub) none_lt ⟨rfl, rfl⟩
end
section
local macro_rules | `(tactic| k_all) => `(tactic| exact fun p hp => Mine.young_ne (by assumption) hp (by omega) (by omega))
-- G1
section
theorem setup_G1 : True := by
  k_with_none
  k_with "x:m:mem" => (first | assumption | exact List.Mem.head _ | (refine List.Mem.tail _ ?_; walk_at "m:mem"))
  k_with "x:m:give" => ((
  (case zzk1 => k_asm); (case zzk2 => k_asm); (case zzk3 => k_asm); (case zzk4 => k_asm); (case zzk5 => k_asm); (case zzk6 => first | exact rfl | assumption); (case zzk8 => ktr_room); (case zzk9 => ktr_units)))
  k_with "x:subscriptTail Name Constant ref int" => ((k_here; (with_reducible show wpAny _ _ (subscriptTail _ _ (Value.ref _) (Value.int _ _)) _ _ _); (with_unfolding_all refine' sub_listN ?zzk1 ?zzk2 ?zzk3 ?zzk4 ?zzk5 ?_ ?zzk6; (case zzk1 => k_asm); (case zzk2 => walk_at "m:mem"); (case zzk3 => decide); (case zzk4 => decide); (case zzk5 => rfl); (case zzk6 => with_unfolding_all rfl); k_whole)))
  k_with "x:TurnPost" => ((dsimp only [TurnPost]))
  k_with "x:m:enterC" => ((refine' code_defC ?zzk1 ?zzk2 ?zzk3 ?zzk4 ?zzk5 ?zzkA ?zzkF ?zzkK ?zzk6 ?zzk7 ?zzk8 ?zzk9 ?zzkB ?zzkD ?_ ?zzc2 ?zzc3 ?zzc4; (case zzkA => exact rfl); (case zzkF => exact rfl); (case zzkK => assumption); (case zzk1 => k_asm); (case zzk2 => k_asm); (case zzk3 => k_asm); (case zzk4 => k_asm); (case zzk5 => k_asm); (case zzk6 => k_is); (case zzk7 => k_is); (case zzk8 => ktr_room); (case zzk9 => exact BindsTo.of_eq rfl); (case zzkB => exact rfl); (case zzkD => decide +kernel); (case zzc2 => exact rfl); (case zzc3 => exact rfl); (case zzc4 => exact rfl); k_whole; intro qg' qL' qh' qtk' qcells' qFG' qF' qN' qY' qB' qX' qT' ql1; (try k_lt ql1); k_cells qY'; (try simp only [List.cons_append, List.nil_append] at qN'); (try dsimp only); (try k_fold)))
  k_with "x:spliced" => (((dsimp only); walk_at "spliced"))
  k_with "x:eval ListComp" => ((k_here; k_dflt (refine LCg.ListComp_U (F₀ := by k_asm) (by with_unfolding_all rfl) (by decide) (by rfl) (by decide) (by rfl) ?_); k_dflt lcg_toSrc))
  k_with "x:CompEnd" => ((refine LCg.CompEnd.intro (by assumption) (by assumption) _ (fun p hp => hp) (by first | assumption | (simp only [LCg.Off3, and_true]; assumption)) (by first | exact trivial | exact Or.inr ⟨_, by walk_at "m:mem", rfl, _, rfl⟩ | exact Or.inl (by assumption)) ?_))
  k_with "x:m:idx" => (first | ((with_reducible refine' Mine.idx_add ?_ ?_) <;> try walk_at "m:idx") | ((with_reducible refine' Mine.idx_mul ?_ ?_) <;> try walk_at "m:idx") | (with_reducible exact rfl) | (with_reducible_and_instances exact Int.cast_ofNat_Int))
  k_with "x:m:sub" => ((k_here; (with_unfolding_all refine' sub_z ?zzk1 ?zzk2 ?zzk3 ?zzk4 ?zzk5 ?zzk7 ?_ ?zzk6; (case zzk2 => k_asm); (case zzk3 => walk_at "m:mem"); (case zzk1 => assumption); (case zzk4 => walk_at "m:idx"); (case zzk5 => omega); (case zzk7 => decide); (case zzk6 => with_unfolding_all rfl)); intro qzz' qtx' qhz' qh0' qh1'; (try simp only [Nat.zero_add, Nat.add_zero, Nat.mul_zero, Nat.reduceAdd, Nat.reduceMul] at qhz')))
  k_with "x:subscriptTail Name BinOp ref int" => (walk_at "m:sub")
  k_with "x:subscriptTail Name Name ref int" => (walk_at "m:sub")
  k_with "x:exec For Name Call cons nil" => ((with_reducible rename Fr _ _ _ _ => qfF; refine Mine.for_wordF qfF ?_ (fun _ => rfl) (by passes_own)))
  k_with "x:CompSrc" => ((k_here; k_dflt (first
  | (refine LCg.CompSrc.ledger (by rfl) (by k_asm) (by k_asm) (by walk_at "m:mem") (by first | size_fits | exact Nat.le_of_ble_eq_true rfl) ?_; intro qg'; lcg_lit)
  | (refine LCg.CompSrc.range (by rfl) (by k_asm) (by k_asm) (by assumption) (by first | decide | rfl) (by first | rfl | decide) (by first | size_fits | exact Nat.le_of_ble_eq_true rfl) ?_; intro qg'; lcg_lit))))
  k_with "x:call builtin:list.append" => (((try dsimp only [List.cons_append, List.nil_append]); k_dflt (refine' append_K ?zzk1 ?zzk2 ?zzk3 ?_ ?zzz; (case zzk1 => k_asm); (case zzk2 => k_asm); (case zzk3 => k_upd); (case zzz => exact Mine.IntsZ.size (by assumption) (by omega))); intro qh' qF' qN'; (try k_sweep)))
  k_with "x:storeName" => (((dsimp only); walk_at "storeName"))
  k_with "x:newList" => (((dsimp only); walk_at "newList"))
  k_with "x:m:split" => ((refine Mine.by_op fun qP9 qk9 => ?_; (repeat (with_reducible rename (_ ∧ _) => qhc'; obtain ⟨_, _⟩ := qhc')); refine qk9 ?_; clear qk9 qP9))
  k_with "x:m:junk" => (((repeat (with_reducible rename LCg.NsObj _ _ => qjk'; clear qjk')); (repeat (with_reducible rename ((_ ≠ _ ∧ _ ≠ _ ∧ _ ≠ _) ∧ _) => qjk'; clear qjk')); (repeat (with_reducible rename (_ ≠ _ ∧ _ ≠ _ ∧ _ ≠ _) => qjk'; clear qjk'))))
  k_with "x:FinE" => (((unfold LCg.FinE); walk_at "m:junk"; intro qD' qh' qtk' qF' qN' qo1'; (try simp only [LCg.Off1, and_true] at qo1'); (try simp only [List.nil_append, List.cons_append] at qN'); walk_at "m:split"; (try dsimp only)))
  k_with "x:m:subs" => (first | (refine List.forall_mem_cons.mpr ⟨?_, ?_⟩; (focus walk_at "m:mem"); walk_at "m:subs") | (intro qp qhp; walk_at "m:mem"))
  k_with "x:m:body" => ((dsimp only [lawB, lawS, lawEnv, lawA, lawParts, List.take, List.drop]))
  k_with "x:m:led" => ((simp only [cellLed, List.cons_append, List.nil_append] at *))
  k_with "x:m:fill" => ((w_on; (have qhz : PySem.Challenge.rw_zo0012_01 = PySem.Challenge.rw_zo0012_01 ∧ Mine.hd.heap_1 = Mine.hd.heap_1 := by (k_fill; exact ⟨rfl, rfl⟩)); clear qhz))
  k_with "x:m:give" => ((
  (case zzk1 => k_asm); (case zzk2 => k_asm); (case zzk3 => k_asm); (case zzk4 => k_asm); (case zzk5 => k_asm); (case zzk6 => first | exact rfl | assumption); (case zzk8 => omega); (case zzk9 => omega)))
  k_with "x:CompSrc" => (first
  | (k_here; k_dflt (first
    | (refine LCg.CompSrc.ledger (by rfl) (by k_asm) (by k_asm) (by walk_at "m:mem") (by first | size_fits | exact Nat.le_of_ble_eq_true rfl) ?_; intro qg'; lcg_lit)
    | (refine LCg.CompSrc.range (by rfl) (by k_asm) (by k_asm) (by assumption) (by first | decide | rfl) (by first | rfl | decide) (by first | size_fits | exact Nat.le_of_ble_eq_true rfl) ?_; intro qg'; lcg_lit)))
  | refine Mine.stop ?_)
  k_with "x:m:cend" => ((with_reducible rename News _ _ _ _ => qnE'; first
  | refine LCg.CompEnd.intro (by assumption) qnE' _ (fun p hp => hp) (by first | assumption | (simp only [LCg.Off3, and_true]; assumption)) (by first | exact trivial | exact Or.inr ⟨_, by walk_at "m:mem", rfl, _, rfl⟩ | exact Or.inl (by assumption)) ?_
  | refine LCg.CompEnd.intro (by assumption) (Mine.news_tl qnE') _ (fun p hp => hp) (by first | assumption | (simp only [LCg.Off3, and_true]; assumption)) (by first | exact trivial | exact Or.inr ⟨_, by walk_at "m:mem", rfl, _, rfl⟩ | exact Or.inl (by assumption)) ?_
  | refine LCg.CompEnd.intro (by assumption) (Mine.news_tl (Mine.news_tl qnE')) _ (fun p hp => hp) (by first | assumption | (simp only [LCg.Off3, and_true]; assumption)) (by first | exact trivial | exact Or.inr ⟨_, by walk_at "m:mem", rfl, _, rfl⟩ | exact Or.inl (by assumption)) ?_))
  k_with "x:CompEnd" => (walk_at "m:cend")
  k_with "x:m:subp" => ((k_here; (with_unfolding_all refine' Mine.sub_pieces ?zzk1 ?zzk2 ?zzk3 ?zzk4 ?_ ?zzk6; (case zzk1 => k_asm); (case zzk2 => assumption); (case zzk3 => (intro qp qhp; walk_at "m:mem")); (case zzk4 => omega); (case zzk6 => with_unfolding_all rfl)); intro qtx'))
  k_with "x:subscriptTail Name Name ref int" => (first | walk_at "m:subp" | walk_at "m:sub")
  k_with "x:call builtin:str.join" => (((try dsimp only [List.cons_append, List.nil_append]); k_dflt (refine' Mine.join_L ?zzk1 ?zzk2 ?zzk3 ?zzk4 ?zzk5 ?_; (case zzk1 => k_asm); (case zzk2 => walk_at "m:mem"); (case zzk3 => exact .cons _ _ (.cons _ _ (.cons _ _ .nil))); (case zzk4 => decide +kernel); (case zzk5 => exact Mine.pk3)); intro qtj' qkj'; (try dsimp only)))
  k_with "x:m:hide" => (have qB' := True.intro; have qD' := True.intro; have qF' := True.intro; have qFG' := True.intro; have qL' := True.intro; have qN' := True.intro; have qT' := True.intro; have qX' := True.intro; have qY' := True.intro; have qcells' := True.intro; have qfF := True.intro; have qg' := True.intro; have qh' := True.intro; have qh0' := True.intro; have qh1' := True.intro; have qhc' := True.intro; have qhp := True.intro; have qhz := True.intro; have qhz' := True.intro; have qjk' := True.intro; have qkj' := True.intro; have ql1 := True.intro; have qnE' := True.intro; have qo1' := True.intro; have qp := True.intro; have qtj' := True.intro; have qtk' := True.intro; have qtx' := True.intro; have qzz' := True.intro)
  k_with "x:m:bare" => (clear qB' qD' qF' qFG' qL' qN' qT' qX' qY' qcells' qfF qg' qh' qh0' qh1' qhc' qhp qhz qhz' qjk' qkj' ql1 qnE' qo1' qp qtj' qtk' qtx' qzz')
  trivial
noncomputable def s_segA (d : (World × (ExcName → Option Value) × (Str → Option Value) × (Str → Option Value)) × (Around × Nat × Nat × (Option (List Code))) × (Addr × Value × Heap × Heap) × (Addr × (Str → Option Value) × (List (Addr × Obj)) × LawCells) × (Shared × Heap × Nat × (Flow → Shared → Prop)) × ((Value → Shared → Prop) × Addr × (List Int) × (Option Value)) × ((Option Value) × (Option Value) × (Option Value))) : Prop := ∀ (B : Below (d.2.1.1) (d.2.2.1.2.2.1) [] (d.2.2.1.2.2.2)) (X : (Mine.hd.heap_1 (d.1.1).params).In (d.2.2.1.2.2.2)) (TT : Top Mine.hd.view_1 (looseW Mine.hd.view_1 []) (d.1.2.1) (d.1.2.2.1) (d.1.2.2.2) (d.2.2.1.2.2.2)) (hd : (d.2.1.2.1) + 40 < recursionLimit) (hu : (d.2.1.2.2.1) + 8 * 40 < cLine) (F : Fr (d.2.2.1.2.2.2) (d.2.2.2.1.1) (d.2.2.2.2.1.2.1) (d.2.2.2.1.2.1)) (N : News (d.2.2.1.2.2.2) (d.2.2.2.1.1) (d.2.2.2.2.1.2.1) (cellLed (d.2.2.2.1.1) (d.2.2.2.1.2.2.2) ++ (d.2.2.2.1.2.2.1))) (hy : Young (d.2.2.2.1.1) (d.2.2.2.1.2.2.1)) (hm : (d.2.2.2.1.2.1) (Str.ofString "script") = some (.ref (d.2.2.2.2.2.1.2.1))) (hS : Scr (d.2.2.1.2.2.2) (d.2.2.2.2.2.1.2.1) (d.2.2.2.2.2.1.2.2.1)) (cF : (d.2.2.2.1.2.2.2).oF.data = .cell (d.2.2.2.2.2.1.2.2.2)) (cP : (d.2.2.2.1.2.2.2).oP.data = .cell (d.2.2.2.2.2.2.1)) (cW : (d.2.2.2.1.2.2.2).oW.data = .cell (d.2.2.2.2.2.2.2.1)) (cV : (d.2.2.2.1.2.2.2).oV.data = .cell (d.2.2.2.2.2.2.2.2)) (ret : ∀ h' tk' oF oP oW oV T' aF aP aW aV y, Fr (d.2.2.1.2.2.2) (d.2.2.2.1.1) h' (d.2.2.2.1.2.1) → News (d.2.2.1.2.2.2) (d.2.2.2.1.1) h' (cellLed (d.2.2.2.1.1) { (d.2.2.2.1.2.2.2) with oF := oF, oP := oP, oW := oW, oV := oV } ++ T') → Young (d.2.2.2.1.1) T' → (∀ p ∈ (d.2.2.2.1.2.2.1), p ∈ T') → oF.data = .cell (some (.ref aF)) → oP.data = .cell (some (.ref aP)) → oW.data = .cell (some (.ref aW)) → oV.data = .cell (some (.ref aV)) →
      (∀ i, y i < 64) → Figs T' (.ref aF) y → IsPieces T' aP (Str.ofString "") (Str.ofString ">") (Str.ofString "<") (Str.ofString "\"") → IsPieces T' aW (Str.ofString "") (Str.ofString ">") (Str.ofString "&lt;") (Str.ofString "&quot;") → IsWorth T' aV → (d.2.2.2.2.1.2.2.2) .next { (d.2.2.2.2.1.1) with heap := h', toks := tk' }), wpAny (model PySem.Challenge.rw_zo0012_01.row.prog (d.1.1)) (lawA (d.1.1).params (d.2.1.2.1) (d.2.1.2.2.1) (d.2.1.2.2.2) (d.2.2.2.1.1) (d.2.2.1.1) (d.2.2.1.2.1)) (execs ((lawB (d.1.1).params).take 4) (lawEnv (d.1.1).params (d.2.2.2.1.1) (d.2.2.1.1) (d.2.2.1.2.1))) (d.2.2.2.2.1.2.2.2) (d.2.2.2.2.2.1.1) { (d.2.2.2.2.1.1) with heap := (d.2.2.2.2.1.2.1), toks := (d.2.2.2.2.1.2.2.1) }
@[irreducible] noncomputable def k_segA : (World × (ExcName → Option Value) × (Str → Option Value) × (Str → Option Value)) × (Around × Nat × Nat × (Option (List Code))) × (Addr × Value × Heap × Heap) × (Addr × (Str → Option Value) × (List (Addr × Obj)) × LawCells) × (Shared × Heap × Nat × (Flow → Shared → Prop)) × ((Value → Shared → Prop) × Addr × (List Int) × (Option Value)) × ((Option Value) × (Option Value) × (Option Value)) := pick (by haveI := ne_World; haveI := ne_Around; haveI := ne_Shared; haveI := ne_Cells; exact inferInstance) s_segA
theorem segA_c : s_segA k_segA := by
  delta s_segA
  intro B X TT hd hu F N hy hm hS cF cP cW cV ret
  walk_at "m:fill"
  simp only [cellLed, List.cons_append, List.nil_append] at N
  walk_at "m:body"
  replace F := Mine.Fr.know F hm
  k_steps
  k_dflt (refine' givesH_use (figs (k_segA.1.1) (k_segA.2.2.2.2.2.1.2.2.1)) ?zzk1 ?zzk2 ?zzk3 ?zzk4 ?zzk5 ?zzk6 ?zzk7 ?zzk8 ?zzk9 ?_; walk_at "m:give"; (case zzk7 => exact ⟨_, rfl, hS⟩))
  intro r9 add9 h9 tk9 F9 N9 lt9 out9
  refine Mine.by_op fun P9 bk9 => ?_
  obtain ⟨y, hy64, hfig⟩ := out9
  refine bk9 ?_; clear bk9 P9
  have hfig' := hfig
  refine Mine.by_op fun P9 bk9 => ?_
  obtain ⟨aF, nF, rs, hr9, _⟩ := hfig'
  refine bk9 ?_; clear bk9 P9
  subst hr9
  have N10 : News (k_segA.2.2.1.2.2.2) (k_segA.2.2.2.1.1) h9 (cellLed (k_segA.2.2.2.1.1) (k_segA.2.2.2.1.2.2.2) ++ (add9 ++ (k_segA.2.2.2.1.2.2.1))) := perm_cells N9
  have y10 : Young (k_segA.2.2.2.1.1) (add9 ++ (k_segA.2.2.2.1.2.2.1)) := young_add (c := (k_segA.2.2.2.1.2.2.2)) hy lt9
  have figT : ∀ p ∈ add9, p ∈ add9 ++ (k_segA.2.2.2.1.2.2.1) := fun p hp => List.mem_append_left _ hp
  simp only [cellLed, List.cons_append, List.nil_append] at N10
  clear N9 N F lt9
  generalize hT' : add9 ++ (k_segA.2.2.2.1.2.2.1) = T' at *
  (try dsimp only)
  k_steps
  k_steps
  (walk_at "m:hide"; rename_i hA oF dF tkA aP hB l1 hC oP dP tkB aW hD l2 hE oW dW tkC aV hG l3 hH oV F' N' dV; walk_at "m:bare")
  refine ret _ _ oF oP oW oV ((aV, _) :: (aW, _) :: (aP, _) :: T') aF aP aW aV y (Mine.Fr.unknow F' hm) (perm_cells (add := [(aV, _), (aW, _), (aP, _)]) (A := cellLed (k_segA.2.2.2.1.1) { (k_segA.2.2.2.1.2.2.2) with oF := oF, oP := oP, oW := oW, oV := oV }) (T := T') N') (young_cons (by omega) (young_cons (by omega) (young_cons (by omega) y10))) ?_ dF dP dW dV hy64 (figs_mono hfig fun p hp => .tail _ (.tail _ (.tail _ (figT p hp)))) ⟨_, _, _, _, _, .tail _ (.tail _ (.head _))⟩ ⟨_, _, _, _, _, .tail _ (.head _)⟩ ⟨_, _, _, _, _, .head _⟩
  intro p hp
  exact .tail _ (.tail _ (.tail _ (hT' ▸ List.mem_append_right _ hp)))
theorem segA (w : World) {mean : ExcName → Option Value} {mg mb : Str → Option Value} {A₀ : Around} {dp un : Nat} {gd : Option (List Code)} {fa : Addr} {cd : Value} {base g : Heap} {L : Addr} {m : Str → Option Value} {T : List (Addr × Obj)} {c : LawCells} {s : Shared} {h : Heap} {tk : Nat} {Q : Flow → Shared → Prop} {E : Value → Shared → Prop}
    (B : Below A₀ base [] g) (X : (Mine.hd.heap_1 w.params).In g) (TT : Top Mine.hd.view_1 (looseW Mine.hd.view_1 []) mean mg mb g) (hd : dp + 40 < recursionLimit) (hu : un + 8 * 40 < cLine)
    (F : Fr g L h m) (N : News g L h (cellLed L c ++ T)) (hy : Young L T) {sl : Addr} {xs : List Int} (hm : m (Str.ofString "script") = some (.ref sl)) (hS : Scr g sl xs) {vF vP vW vV : Option Value}
    (cF : c.oF.data = .cell vF) (cP : c.oP.data = .cell vP) (cW : c.oW.data = .cell vW) (cV : c.oV.data = .cell vV)
    (ret : ∀ h' tk' oF oP oW oV T' aF aP aW aV y, Fr g L h' m → News g L h' (cellLed L { c with oF := oF, oP := oP, oW := oW, oV := oV } ++ T') → Young L T' → (∀ p ∈ T, p ∈ T') → oF.data = .cell (some (.ref aF)) → oP.data = .cell (some (.ref aP)) → oW.data = .cell (some (.ref aW)) → oV.data = .cell (some (.ref aV)) →
      (∀ i, y i < 64) → Figs T' (.ref aF) y → IsPieces T' aP (Str.ofString "") (Str.ofString ">") (Str.ofString "<") (Str.ofString "\"") → IsPieces T' aW (Str.ofString "") (Str.ofString ">") (Str.ofString "&lt;") (Str.ofString "&quot;") → IsWorth T' aV → Q .next { s with heap := h', toks := tk' }) : wpAny (model PySem.Challenge.rw_zo0012_01.row.prog w) (lawA w.params dp un gd L fa cd) (execs ((lawB w.params).take 4) (lawEnv w.params L fa cd)) Q E { s with heap := h, toks := tk } :=
  pick_all k_segA.eq_1 segA_c ((w, mean, mg, mb), (A₀, dp, un, gd), (fa, cd, base, g), (L, m, T, c), (s, h, tk, Q), (E, sl, xs, vF), (vP, vW, vV)) B X TT hd hu F N hy hm hS cF cP cW cV ret
end
-- G3
section
theorem setup_G3 : True := by
  k_with_none
  k_with "x:m:mem" => (first | assumption | exact List.Mem.head _ | (refine List.Mem.tail _ ?_; walk_at "m:mem"))
  k_with "x:m:give" => ((
  (case zzk1 => k_asm); (case zzk2 => k_asm); (case zzk3 => k_asm); (case zzk4 => k_asm); (case zzk5 => k_asm); (case zzk6 => first | exact rfl | assumption); (case zzk8 => ktr_room); (case zzk9 => ktr_units)))
  k_with "x:subscriptTail Name Constant ref int" => ((k_here; (with_reducible show wpAny _ _ (subscriptTail _ _ (Value.ref _) (Value.int _ _)) _ _ _); (with_unfolding_all refine' sub_listN ?zzk1 ?zzk2 ?zzk3 ?zzk4 ?zzk5 ?_ ?zzk6; (case zzk1 => k_asm); (case zzk2 => walk_at "m:mem"); (case zzk3 => decide); (case zzk4 => decide); (case zzk5 => rfl); (case zzk6 => with_unfolding_all rfl); k_whole)))
  k_with "x:TurnPost" => ((dsimp only [TurnPost]))
  k_with "x:m:enterC" => ((refine' code_defC ?zzk1 ?zzk2 ?zzk3 ?zzk4 ?zzk5 ?zzkA ?zzkF ?zzkK ?zzk6 ?zzk7 ?zzk8 ?zzk9 ?zzkB ?zzkD ?_ ?zzc2 ?zzc3 ?zzc4; (case zzkA => exact rfl); (case zzkF => exact rfl); (case zzkK => assumption); (case zzk1 => k_asm); (case zzk2 => k_asm); (case zzk3 => k_asm); (case zzk4 => k_asm); (case zzk5 => k_asm); (case zzk6 => k_is); (case zzk7 => k_is); (case zzk8 => ktr_room); (case zzk9 => exact BindsTo.of_eq rfl); (case zzkB => exact rfl); (case zzkD => decide +kernel); (case zzc2 => exact rfl); (case zzc3 => exact rfl); (case zzc4 => exact rfl); k_whole; intro qg' qL' qh' qtk' qcells' qFG' qF' qN' qY' qB' qX' qT' ql1; (try k_lt ql1); k_cells qY'; (try simp only [List.cons_append, List.nil_append] at qN'); (try dsimp only); (try k_fold)))
  k_with "x:spliced" => (((dsimp only); walk_at "spliced"))
  k_with "x:eval ListComp" => ((k_here; k_dflt (refine LCg.ListComp_U (F₀ := by k_asm) (by with_unfolding_all rfl) (by decide) (by rfl) (by decide) (by rfl) ?_); k_dflt lcg_toSrc))
  k_with "x:CompEnd" => ((refine LCg.CompEnd.intro (by assumption) (by assumption) _ (fun p hp => hp) (by first | assumption | (simp only [LCg.Off3, and_true]; assumption)) (by first | exact trivial | exact Or.inr ⟨_, by walk_at "m:mem", rfl, _, rfl⟩ | exact Or.inl (by assumption)) ?_))
  k_with "x:m:idx" => (first | ((with_reducible refine' Mine.idx_add ?_ ?_) <;> try walk_at "m:idx") | ((with_reducible refine' Mine.idx_mul ?_ ?_) <;> try walk_at "m:idx") | (with_reducible exact rfl) | (with_reducible_and_instances exact Int.cast_ofNat_Int))
  k_with "x:m:sub" => ((k_here; (with_unfolding_all refine' sub_z ?zzk1 ?zzk2 ?zzk3 ?zzk4 ?zzk5 ?zzk7 ?_ ?zzk6; (case zzk2 => k_asm); (case zzk3 => walk_at "m:mem"); (case zzk1 => assumption); (case zzk4 => walk_at "m:idx"); (case zzk5 => omega); (case zzk7 => decide); (case zzk6 => with_unfolding_all rfl)); intro qzz' qtx' qhz' qh0' qh1'; (try simp only [Nat.zero_add, Nat.add_zero, Nat.mul_zero, Nat.reduceAdd, Nat.reduceMul] at qhz')))
  k_with "x:subscriptTail Name BinOp ref int" => (walk_at "m:sub")
  k_with "x:subscriptTail Name Name ref int" => (walk_at "m:sub")
  k_with "x:exec For Name Call cons nil" => ((with_reducible rename Fr _ _ _ _ => qfF; refine Mine.for_wordF qfF ?_ (fun _ => rfl) (by passes_own)))
  k_with "x:CompSrc" => ((k_here; k_dflt (first
  | (refine LCg.CompSrc.ledger (by rfl) (by k_asm) (by k_asm) (by walk_at "m:mem") (by first | size_fits | exact Nat.le_of_ble_eq_true rfl) ?_; intro qg'; lcg_lit)
  | (refine LCg.CompSrc.range (by rfl) (by k_asm) (by k_asm) (by assumption) (by first | decide | rfl) (by first | rfl | decide) (by first | size_fits | exact Nat.le_of_ble_eq_true rfl) ?_; intro qg'; lcg_lit))))
  k_with "x:call builtin:list.append" => (((try dsimp only [List.cons_append, List.nil_append]); k_dflt (refine' append_K ?zzk1 ?zzk2 ?zzk3 ?_ ?zzz; (case zzk1 => k_asm); (case zzk2 => k_asm); (case zzk3 => k_upd); (case zzz => exact Mine.IntsZ.size (by assumption) (by omega))); intro qh' qF' qN'; (try k_sweep)))
  k_with "x:storeName" => (((dsimp only); walk_at "storeName"))
  k_with "x:newList" => (((dsimp only); walk_at "newList"))
  k_with "x:m:split" => ((refine Mine.by_op fun qP9 qk9 => ?_; (repeat (with_reducible rename (_ ∧ _) => qhc'; obtain ⟨_, _⟩ := qhc')); refine qk9 ?_; clear qk9 qP9))
  k_with "x:m:junk" => (((repeat (with_reducible rename LCg.NsObj _ _ => qjk'; clear qjk')); (repeat (with_reducible rename ((_ ≠ _ ∧ _ ≠ _ ∧ _ ≠ _) ∧ _) => qjk'; clear qjk')); (repeat (with_reducible rename (_ ≠ _ ∧ _ ≠ _ ∧ _ ≠ _) => qjk'; clear qjk'))))
  k_with "x:FinE" => (((unfold LCg.FinE); walk_at "m:junk"; intro qD' qh' qtk' qF' qN' qo1'; (try simp only [LCg.Off1, and_true] at qo1'); (try simp only [List.nil_append, List.cons_append] at qN'); walk_at "m:split"; (try dsimp only)))
  k_with "x:m:subs" => (first | (refine List.forall_mem_cons.mpr ⟨?_, ?_⟩; (focus walk_at "m:mem"); walk_at "m:subs") | (intro qp qhp; walk_at "m:mem"))
  k_with "x:m:body" => ((dsimp only [lawB, lawS, lawEnv, lawA, lawParts, List.take, List.drop]))
  k_with "x:m:led" => ((simp only [cellLed, List.cons_append, List.nil_append] at *))
  k_with "x:m:fill" => ((w_on; (have qhz : PySem.Challenge.rw_zo0012_01 = PySem.Challenge.rw_zo0012_01 ∧ Mine.hd.heap_1 = Mine.hd.heap_1 := by (k_fill; exact ⟨rfl, rfl⟩)); clear qhz))
  k_with "x:m:give" => ((
  (case zzk1 => k_asm); (case zzk2 => k_asm); (case zzk3 => k_asm); (case zzk4 => k_asm); (case zzk5 => k_asm); (case zzk6 => first | exact rfl | assumption); (case zzk8 => omega); (case zzk9 => omega)))
  k_with "x:CompSrc" => (first
  | (k_here; k_dflt (first
    | (refine LCg.CompSrc.ledger (by rfl) (by k_asm) (by k_asm) (by walk_at "m:mem") (by first | size_fits | exact Nat.le_of_ble_eq_true rfl) ?_; intro qg'; lcg_lit)
    | (refine LCg.CompSrc.range (by rfl) (by k_asm) (by k_asm) (by assumption) (by first | decide | rfl) (by first | rfl | decide) (by first | size_fits | exact Nat.le_of_ble_eq_true rfl) ?_; intro qg'; lcg_lit)))
  | refine Mine.stop ?_)
  k_with "x:m:cend" => ((with_reducible rename News _ _ _ _ => qnE'; first
  | refine LCg.CompEnd.intro (by assumption) qnE' _ (fun p hp => hp) (by first | assumption | (simp only [LCg.Off3, and_true]; assumption)) (by first | exact trivial | exact Or.inr ⟨_, by walk_at "m:mem", rfl, _, rfl⟩ | exact Or.inl (by assumption)) ?_
  | refine LCg.CompEnd.intro (by assumption) (Mine.news_tl qnE') _ (fun p hp => hp) (by first | assumption | (simp only [LCg.Off3, and_true]; assumption)) (by first | exact trivial | exact Or.inr ⟨_, by walk_at "m:mem", rfl, _, rfl⟩ | exact Or.inl (by assumption)) ?_
  | refine LCg.CompEnd.intro (by assumption) (Mine.news_tl (Mine.news_tl qnE')) _ (fun p hp => hp) (by first | assumption | (simp only [LCg.Off3, and_true]; assumption)) (by first | exact trivial | exact Or.inr ⟨_, by walk_at "m:mem", rfl, _, rfl⟩ | exact Or.inl (by assumption)) ?_))
  k_with "x:CompEnd" => (walk_at "m:cend")
  k_with "x:m:subp" => ((k_here; (with_unfolding_all refine' Mine.sub_pieces ?zzk1 ?zzk2 ?zzk3 ?zzk4 ?_ ?zzk6; (case zzk1 => k_asm); (case zzk2 => assumption); (case zzk3 => (intro qp qhp; walk_at "m:mem")); (case zzk4 => omega); (case zzk6 => with_unfolding_all rfl)); intro qtx'))
  k_with "x:subscriptTail Name Name ref int" => (first | walk_at "m:subp" | walk_at "m:sub")
  k_with "x:call builtin:str.join" => (((try dsimp only [List.cons_append, List.nil_append]); k_dflt (refine' Mine.join_L ?zzk1 ?zzk2 ?zzk3 ?zzk4 ?zzk5 ?_; (case zzk1 => k_asm); (case zzk2 => walk_at "m:mem"); (case zzk3 => exact .cons _ _ (.cons _ _ (.cons _ _ .nil))); (case zzk4 => decide +kernel); (case zzk5 => exact Mine.pk3)); intro qtj' qkj'; (try dsimp only)))
  k_with "x:m:subw" => ((k_here; (with_unfolding_all refine' Mine.sub_worth ?zzk1 ?zzk2 ?zzk3 ?zzk4 ?_ ?zzk6; (case zzk1 => k_asm); (case zzk2 => assumption); (case zzk3 => (intro qp qhp; walk_at "m:mem")); (case zzk4 => omega); (case zzk6 => with_unfolding_all rfl)); intro qtx'))
  k_with "x:subscriptTail Name Name ref int" => (first | walk_at "m:subp" | walk_at "m:subw" | walk_at "m:sub")
  k_with "x:m:ints" => (first | exact IntsAre.nil | (refine IntsAre.cons _ _ ?_; walk_at "m:ints"))
  k_with "x:call builtin:sum" => (((try dsimp only [List.cons_append, List.nil_append]); k_dflt (refine' Mine.sum_L ?zzk1 ?zzk2 ?zzk3 ?zzk4 ?zzk5 ?_; (case zzk1 => rfl); (case zzk2 => k_asm); (case zzk3 => k_asm); (case zzk4 => walk_at "m:mem"); (case zzk5 => walk_at "m:ints")); intro qh' qtj' qkj' qF' qN'; (try dsimp only)))
  k_with "x:m:hide" => (have qB' := True.intro; have qD' := True.intro; have qF' := True.intro; have qFG' := True.intro; have qL' := True.intro; have qN' := True.intro; have qT' := True.intro; have qX' := True.intro; have qY' := True.intro; have qcells' := True.intro; have qfF := True.intro; have qg' := True.intro; have qh' := True.intro; have qh0' := True.intro; have qh1' := True.intro; have qhc' := True.intro; have qhp := True.intro; have qhz := True.intro; have qhz' := True.intro; have qjk' := True.intro; have qkj' := True.intro; have ql1 := True.intro; have qnE' := True.intro; have qo1' := True.intro; have qp := True.intro; have qtj' := True.intro; have qtk' := True.intro; have qtx' := True.intro; have qzz' := True.intro)
  k_with "x:m:bare" => (clear qB' qD' qF' qFG' qL' qN' qT' qX' qY' qcells' qfF qg' qh' qh0' qh1' qhc' qhp qhz qhz' qjk' qkj' ql1 qnE' qo1' qp qtj' qtk' qtx' qzz')
  trivial
noncomputable def s_segB (d : (World × (ExcName → Option Value) × (Str → Option Value) × (Str → Option Value)) × (Around × Nat × Nat × (Option (List Code))) × (Addr × Value × Heap × Heap) × (Addr × (Str → Option Value) × (List (Addr × Obj)) × LawCells) × (Shared × Heap × Nat × (Flow → Shared → Prop)) × ((Value → Shared → Prop) × Addr × Addr × (Option Value)) × ((Nat → Nat))) : Prop := ∀ (B : Below (d.2.1.1) (d.2.2.1.2.2.1) [] (d.2.2.1.2.2.2)) (X : (Mine.hd.heap_1 (d.1.1).params).In (d.2.2.1.2.2.2)) (TT : Top Mine.hd.view_1 (looseW Mine.hd.view_1 []) (d.1.2.1) (d.1.2.2.1) (d.1.2.2.2) (d.2.2.1.2.2.2)) (hd : (d.2.1.2.1) + 40 < recursionLimit) (hu : (d.2.1.2.2.1) + 8 * 40 < cLine) (F : Fr (d.2.2.1.2.2.2) (d.2.2.2.1.1) (d.2.2.2.2.1.2.1) (d.2.2.2.1.2.1)) (N : News (d.2.2.1.2.2.2) (d.2.2.2.1.1) (d.2.2.2.2.1.2.1) (cellLed (d.2.2.2.1.1) (d.2.2.2.1.2.2.2) ++ (d.2.2.2.1.2.2.1))) (hy : Young (d.2.2.2.1.1) (d.2.2.2.1.2.2.1)) (cF : (d.2.2.2.1.2.2.2).oF.data = .cell (some (.ref (d.2.2.2.2.2.1.2.1)))) (cP : (d.2.2.2.1.2.2.2).oP.data = .cell (some (.ref (d.2.2.2.2.2.1.2.2.1)))) (cX : (d.2.2.2.1.2.2.2).oX.data = .cell (d.2.2.2.2.2.1.2.2.2)) (hy64 : ∀ i, (d.2.2.2.2.2.2) i < 64) (hfig : Figs (d.2.2.2.1.2.2.1) (.ref (d.2.2.2.2.2.1.2.1)) (d.2.2.2.2.2.2)) (hp : IsPieces (d.2.2.2.1.2.2.1) (d.2.2.2.2.2.1.2.2.1) (Str.ofString "") (Str.ofString ">") (Str.ofString "<") (Str.ofString "\"")) (ret : ∀ h' tk' oX T' aX, Fr (d.2.2.1.2.2.2) (d.2.2.2.1.1) h' (d.2.2.2.1.2.1) → News (d.2.2.1.2.2.2) (d.2.2.2.1.1) h' (cellLed (d.2.2.2.1.1) { (d.2.2.2.1.2.2.2) with oX := oX } ++ T') → Young (d.2.2.2.1.1) T' → (∀ p ∈ (d.2.2.2.1.2.2.1), p ∈ T') → oX.data = .cell (some (.ref aX)) → Texts T' aX (d.2.2.2.2.2.2) → (d.2.2.2.2.1.2.2.2) .next { (d.2.2.2.2.1.1) with heap := h', toks := tk' }), wpAny (model PySem.Challenge.rw_zo0012_01.row.prog (d.1.1)) (lawA (d.1.1).params (d.2.1.2.1) (d.2.1.2.2.1) (d.2.1.2.2.2) (d.2.2.2.1.1) (d.2.2.1.1) (d.2.2.1.2.1)) (execs (((lawB (d.1.1).params).drop 4).take 1) (lawEnv (d.1.1).params (d.2.2.2.1.1) (d.2.2.1.1) (d.2.2.1.2.1))) (d.2.2.2.2.1.2.2.2) (d.2.2.2.2.2.1.1) { (d.2.2.2.2.1.1) with heap := (d.2.2.2.2.1.2.1), toks := (d.2.2.2.2.1.2.2.1) }
@[irreducible] noncomputable def k_segB : (World × (ExcName → Option Value) × (Str → Option Value) × (Str → Option Value)) × (Around × Nat × Nat × (Option (List Code))) × (Addr × Value × Heap × Heap) × (Addr × (Str → Option Value) × (List (Addr × Obj)) × LawCells) × (Shared × Heap × Nat × (Flow → Shared → Prop)) × ((Value → Shared → Prop) × Addr × Addr × (Option Value)) × ((Nat → Nat)) := pick (by haveI := ne_World; haveI := ne_Around; haveI := ne_Shared; haveI := ne_Cells; exact inferInstance) s_segB
theorem segB_c : s_segB k_segB := by
  delta s_segB
  intro B X TT hd hu F N hy cF cP cX hy64 hfig hp ret
  walk_at "m:fill"
  simp only [cellLed, List.cons_append, List.nil_append] at N
  refine Mine.by_op fun P9 bk9 => ?_
  obtain ⟨aF', nF, rs, e1, hrs, hRm, hrow⟩ := hfig
  refine bk9 ?_; clear bk9 P9
  cases e1
  walk_at "m:body"
  k_steps
  unfold Stop
  have hsz : (List.toArray (rs.map Value.ref)).size = 9 := by rw [List.size_toArray, List.length_map, hrs]
  refine LCg.CompSrc.ledger (by rfl) F N (by walk_at "m:mem") (by rw [hsz]; decide) ?_
  intro g'
  refine comp_all (fun i v => ∃ t, v = .str (txt ((k_segB.2.2.2.2.2.2) i)) t) ?_ ?_
  · intro i v ys I oI C oC D m₂ h1 tk1 E' hi hP hyl hC hx F1 N1 off ne
    rw [hsz] at hi
    refine Mine.by_op fun P9 bk9 => ?_
    obtain ⟨a, ha⟩ : ∃ a, rs[i]? = some a := ⟨rs[i], List.getElem?_eq_getElem (by omega)⟩
    refine bk9 ?_; clear bk9 P9
    have ev : v = .ref a := by
      rw [List.getElem?_toArray, List.getElem?_map, ha] at hP
      exact (Option.some.inj hP).symm
    subst ev
    refine Mine.by_op fun P9 bk9 => ?_
    obtain ⟨o, ho, t0, t1, t2, cc, eo⟩ := hrow i a ha
    refine bk9 ?_; clear bk9 P9
    subst eo
    have hyi := hy64 i
    clear N F hP hrow hi ha
    k_steps
    with_reducible rename News _ _ _ _ => nE'
    refine LCg.CompEnd.intro (by assumption) (Mine.news_tl nE') _ (fun p hp => hp) (by first | assumption | (simp only [LCg.Off3, and_true]; assumption)) (by first | exact trivial | exact Or.inr ⟨_, by walk_at "m:mem", rfl, _, rfl⟩ | exact Or.inl (by assumption)) ?_
    exact ⟨rfl, _, rfl⟩
  · intro ys hv
    rw [hsz] at hv
    unfold LCg.FinE
    intro D h2 tk2 F2 N2 o1
    have hyD : Young (k_segB.2.2.2.1.1) ((D, LCg.lst ys) :: (k_segB.2.2.2.1.2.2.1)) := young_off (c := (k_segB.2.2.2.1.2.2.2)) o1 hy
    refine Mine.by_op fun P9 bk9 => ?_
    obtain ⟨o11, o10, o9, o8, o7, o6, o5, o4, o3, o2, o1, o0⟩ := o1
    refine bk9 ?_; clear bk9 P9
    dsimp only at o11 o10 o9 o8 o7 o6 o5 o4 o3 o2 o1
    clear F N
    k_steps
    (walk_at "m:hide"; rename_i hA oX F3 N3 dX; walk_at "m:bare")
    exact ret _ _ oX ((D, LCg.lst ys) :: (k_segB.2.2.2.1.2.2.1)) D F3 (perm_cells (add := [(D, LCg.lst ys)]) (A := cellLed (k_segB.2.2.2.1.1) { (k_segB.2.2.2.1.2.2.2) with oX := oX }) (T := (k_segB.2.2.2.1.2.2.1)) N3) hyD (fun p hp => .tail _ hp) dX ⟨ys, _, .head _, hv⟩
theorem segB (w : World) {mean : ExcName → Option Value} {mg mb : Str → Option Value} {A₀ : Around} {dp un : Nat} {gd : Option (List Code)} {fa : Addr} {cd : Value} {base g : Heap} {L : Addr} {m : Str → Option Value} {T : List (Addr × Obj)} {c : LawCells} {s : Shared} {h : Heap} {tk : Nat} {Q : Flow → Shared → Prop} {E : Value → Shared → Prop}
    (B : Below A₀ base [] g) (X : (Mine.hd.heap_1 w.params).In g) (TT : Top Mine.hd.view_1 (looseW Mine.hd.view_1 []) mean mg mb g) (hd : dp + 40 < recursionLimit) (hu : un + 8 * 40 < cLine)
    (F : Fr g L h m) (N : News g L h (cellLed L c ++ T)) (hy : Young L T) {aF aP : Addr} {vX : Option Value} {y : Nat → Nat}
    (cF : c.oF.data = .cell (some (.ref aF))) (cP : c.oP.data = .cell (some (.ref aP))) (cX : c.oX.data = .cell vX) (hy64 : ∀ i, y i < 64) (hfig : Figs T (.ref aF) y) (hp : IsPieces T aP (Str.ofString "") (Str.ofString ">") (Str.ofString "<") (Str.ofString "\""))
    (ret : ∀ h' tk' oX T' aX, Fr g L h' m → News g L h' (cellLed L { c with oX := oX } ++ T') → Young L T' → (∀ p ∈ T, p ∈ T') → oX.data = .cell (some (.ref aX)) → Texts T' aX y → Q .next { s with heap := h', toks := tk' }) : wpAny (model PySem.Challenge.rw_zo0012_01.row.prog w) (lawA w.params dp un gd L fa cd) (execs (((lawB w.params).drop 4).take 1) (lawEnv w.params L fa cd)) Q E { s with heap := h, toks := tk } :=
  pick_all k_segB.eq_1 segB_c ((w, mean, mg, mb), (A₀, dp, un, gd), (fa, cd, base, g), (L, m, T, c), (s, h, tk, Q), (E, aF, aP, vX), (y)) B X TT hd hu F N hy cF cP cX hy64 hfig hp ret
end
-- G4
section
theorem setup_G4 : True := by
  k_with_none
  k_with "x:m:mem" => (first | assumption | exact List.Mem.head _ | (refine List.Mem.tail _ ?_; walk_at "m:mem"))
  k_with "x:m:give" => ((
  (case zzk1 => k_asm); (case zzk2 => k_asm); (case zzk3 => k_asm); (case zzk4 => k_asm); (case zzk5 => k_asm); (case zzk6 => first | exact rfl | assumption); (case zzk8 => ktr_room); (case zzk9 => ktr_units)))
  k_with "x:subscriptTail Name Constant ref int" => ((k_here; (with_reducible show wpAny _ _ (subscriptTail _ _ (Value.ref _) (Value.int _ _)) _ _ _); (with_unfolding_all refine' sub_listN ?zzk1 ?zzk2 ?zzk3 ?zzk4 ?zzk5 ?_ ?zzk6; (case zzk1 => k_asm); (case zzk2 => walk_at "m:mem"); (case zzk3 => decide); (case zzk4 => decide); (case zzk5 => rfl); (case zzk6 => with_unfolding_all rfl); k_whole)))
  k_with "x:TurnPost" => ((dsimp only [TurnPost]))
  k_with "x:m:enterC" => ((refine' code_defC ?zzk1 ?zzk2 ?zzk3 ?zzk4 ?zzk5 ?zzkA ?zzkF ?zzkK ?zzk6 ?zzk7 ?zzk8 ?zzk9 ?zzkB ?zzkD ?_ ?zzc2 ?zzc3 ?zzc4; (case zzkA => exact rfl); (case zzkF => exact rfl); (case zzkK => assumption); (case zzk1 => k_asm); (case zzk2 => k_asm); (case zzk3 => k_asm); (case zzk4 => k_asm); (case zzk5 => k_asm); (case zzk6 => k_is); (case zzk7 => k_is); (case zzk8 => ktr_room); (case zzk9 => exact BindsTo.of_eq rfl); (case zzkB => exact rfl); (case zzkD => decide +kernel); (case zzc2 => exact rfl); (case zzc3 => exact rfl); (case zzc4 => exact rfl); k_whole; intro qg' qL' qh' qtk' qcells' qFG' qF' qN' qY' qB' qX' qT' ql1; (try k_lt ql1); k_cells qY'; (try simp only [List.cons_append, List.nil_append] at qN'); (try dsimp only); (try k_fold)))
  k_with "x:spliced" => (((dsimp only); walk_at "spliced"))
  k_with "x:eval ListComp" => ((k_here; k_dflt (refine LCg.ListComp_U (F₀ := by k_asm) (by with_unfolding_all rfl) (by decide) (by rfl) (by decide) (by rfl) ?_); k_dflt lcg_toSrc))
  k_with "x:CompEnd" => ((refine LCg.CompEnd.intro (by assumption) (by assumption) _ (fun p hp => hp) (by first | assumption | (simp only [LCg.Off3, and_true]; assumption)) (by first | exact trivial | exact Or.inr ⟨_, by walk_at "m:mem", rfl, _, rfl⟩ | exact Or.inl (by assumption)) ?_))
  k_with "x:m:idx" => (first | ((with_reducible refine' Mine.idx_add ?_ ?_) <;> try walk_at "m:idx") | ((with_reducible refine' Mine.idx_mul ?_ ?_) <;> try walk_at "m:idx") | (with_reducible exact rfl) | (with_reducible_and_instances exact Int.cast_ofNat_Int))
  k_with "x:m:sub" => ((k_here; (with_unfolding_all refine' sub_z ?zzk1 ?zzk2 ?zzk3 ?zzk4 ?zzk5 ?zzk7 ?_ ?zzk6; (case zzk2 => k_asm); (case zzk3 => walk_at "m:mem"); (case zzk1 => assumption); (case zzk4 => walk_at "m:idx"); (case zzk5 => omega); (case zzk7 => decide); (case zzk6 => with_unfolding_all rfl)); intro qzz' qtx' qhz' qh0' qh1'; (try simp only [Nat.zero_add, Nat.add_zero, Nat.mul_zero, Nat.reduceAdd, Nat.reduceMul] at qhz')))
  k_with "x:subscriptTail Name BinOp ref int" => (walk_at "m:sub")
  k_with "x:subscriptTail Name Name ref int" => (walk_at "m:sub")
  k_with "x:exec For Name Call cons nil" => ((with_reducible rename Fr _ _ _ _ => qfF; refine Mine.for_wordF qfF ?_ (fun _ => rfl) (by passes_own)))
  k_with "x:CompSrc" => ((k_here; k_dflt (first
  | (refine LCg.CompSrc.ledger (by rfl) (by k_asm) (by k_asm) (by walk_at "m:mem") (by first | size_fits | exact Nat.le_of_ble_eq_true rfl) ?_; intro qg'; lcg_lit)
  | (refine LCg.CompSrc.range (by rfl) (by k_asm) (by k_asm) (by assumption) (by first | decide | rfl) (by first | rfl | decide) (by first | size_fits | exact Nat.le_of_ble_eq_true rfl) ?_; intro qg'; lcg_lit))))
  k_with "x:call builtin:list.append" => (((try dsimp only [List.cons_append, List.nil_append]); k_dflt (refine' append_K ?zzk1 ?zzk2 ?zzk3 ?_ ?zzz; (case zzk1 => k_asm); (case zzk2 => k_asm); (case zzk3 => k_upd); (case zzz => exact Mine.IntsZ.size (by assumption) (by omega))); intro qh' qF' qN'; (try k_sweep)))
  k_with "x:storeName" => (((dsimp only); walk_at "storeName"))
  k_with "x:newList" => (((dsimp only); walk_at "newList"))
  k_with "x:m:split" => ((refine Mine.by_op fun qP9 qk9 => ?_; (repeat (with_reducible rename (_ ∧ _) => qhc'; obtain ⟨_, _⟩ := qhc')); refine qk9 ?_; clear qk9 qP9))
  k_with "x:m:junk" => (((repeat (with_reducible rename LCg.NsObj _ _ => qjk'; clear qjk')); (repeat (with_reducible rename ((_ ≠ _ ∧ _ ≠ _ ∧ _ ≠ _) ∧ _) => qjk'; clear qjk')); (repeat (with_reducible rename (_ ≠ _ ∧ _ ≠ _ ∧ _ ≠ _) => qjk'; clear qjk'))))
  k_with "x:FinE" => (((unfold LCg.FinE); walk_at "m:junk"; intro qD' qh' qtk' qF' qN' qo1'; (try simp only [LCg.Off1, and_true] at qo1'); (try simp only [List.nil_append, List.cons_append] at qN'); walk_at "m:split"; (try dsimp only)))
  k_with "x:m:subs" => (first | (refine List.forall_mem_cons.mpr ⟨?_, ?_⟩; (focus walk_at "m:mem"); walk_at "m:subs") | (intro qp qhp; walk_at "m:mem"))
  k_with "x:m:body" => ((dsimp only [lawB, lawS, lawEnv, lawA, lawParts, List.take, List.drop]))
  k_with "x:m:led" => ((simp only [cellLed, List.cons_append, List.nil_append] at *))
  k_with "x:m:fill" => ((w_on; (have qhz : PySem.Challenge.rw_zo0012_01 = PySem.Challenge.rw_zo0012_01 ∧ Mine.hd.heap_1 = Mine.hd.heap_1 := by (k_fill; exact ⟨rfl, rfl⟩)); clear qhz))
  k_with "x:m:give" => ((
  (case zzk1 => k_asm); (case zzk2 => k_asm); (case zzk3 => k_asm); (case zzk4 => k_asm); (case zzk5 => k_asm); (case zzk6 => first | exact rfl | assumption); (case zzk8 => omega); (case zzk9 => omega)))
  k_with "x:CompSrc" => (first
  | (k_here; k_dflt (first
    | (refine LCg.CompSrc.ledger (by rfl) (by k_asm) (by k_asm) (by walk_at "m:mem") (by first | size_fits | exact Nat.le_of_ble_eq_true rfl) ?_; intro qg'; lcg_lit)
    | (refine LCg.CompSrc.range (by rfl) (by k_asm) (by k_asm) (by assumption) (by first | decide | rfl) (by first | rfl | decide) (by first | size_fits | exact Nat.le_of_ble_eq_true rfl) ?_; intro qg'; lcg_lit)))
  | refine Mine.stop ?_)
  k_with "x:m:cend" => ((with_reducible rename News _ _ _ _ => qnE'; first
  | refine LCg.CompEnd.intro (by assumption) qnE' _ (fun p hp => hp) (by first | assumption | (simp only [LCg.Off3, and_true]; assumption)) (by first | exact trivial | exact Or.inr ⟨_, by walk_at "m:mem", rfl, _, rfl⟩ | exact Or.inl (by assumption)) ?_
  | refine LCg.CompEnd.intro (by assumption) (Mine.news_tl qnE') _ (fun p hp => hp) (by first | assumption | (simp only [LCg.Off3, and_true]; assumption)) (by first | exact trivial | exact Or.inr ⟨_, by walk_at "m:mem", rfl, _, rfl⟩ | exact Or.inl (by assumption)) ?_
  | refine LCg.CompEnd.intro (by assumption) (Mine.news_tl (Mine.news_tl qnE')) _ (fun p hp => hp) (by first | assumption | (simp only [LCg.Off3, and_true]; assumption)) (by first | exact trivial | exact Or.inr ⟨_, by walk_at "m:mem", rfl, _, rfl⟩ | exact Or.inl (by assumption)) ?_))
  k_with "x:CompEnd" => (walk_at "m:cend")
  k_with "x:m:subp" => ((k_here; (with_unfolding_all refine' Mine.sub_pieces ?zzk1 ?zzk2 ?zzk3 ?zzk4 ?_ ?zzk6; (case zzk1 => k_asm); (case zzk2 => assumption); (case zzk3 => (intro qp qhp; walk_at "m:mem")); (case zzk4 => omega); (case zzk6 => with_unfolding_all rfl)); intro qtx'))
  k_with "x:subscriptTail Name Name ref int" => (first | walk_at "m:subp" | walk_at "m:sub")
  k_with "x:call builtin:str.join" => (((try dsimp only [List.cons_append, List.nil_append]); k_dflt (refine' Mine.join_L ?zzk1 ?zzk2 ?zzk3 ?zzk4 ?zzk5 ?_; (case zzk1 => k_asm); (case zzk2 => walk_at "m:mem"); (case zzk3 => exact .cons _ _ (.cons _ _ (.cons _ _ .nil))); (case zzk4 => decide +kernel); (case zzk5 => exact Mine.pk3)); intro qtj' qkj'; (try dsimp only)))
  k_with "x:m:subw" => ((k_here; (with_unfolding_all refine' Mine.sub_worth ?zzk1 ?zzk2 ?zzk3 ?zzk4 ?_ ?zzk6; (case zzk1 => k_asm); (case zzk2 => assumption); (case zzk3 => (intro qp qhp; walk_at "m:mem")); (case zzk4 => omega); (case zzk6 => with_unfolding_all rfl)); intro qtx'))
  k_with "x:subscriptTail Name Name ref int" => (first | walk_at "m:subp" | walk_at "m:subw" | walk_at "m:sub")
  k_with "x:m:ints" => (first | exact IntsAre.nil | (refine IntsAre.cons _ _ ?_; walk_at "m:ints"))
  k_with "x:call builtin:sum" => (((try dsimp only [List.cons_append, List.nil_append]); k_dflt (refine' Mine.sum_L ?zzk1 ?zzk2 ?zzk3 ?zzk4 ?zzk5 ?_; (case zzk1 => rfl); (case zzk2 => k_asm); (case zzk3 => k_asm); (case zzk4 => walk_at "m:mem"); (case zzk5 => walk_at "m:ints")); intro qh' qtj' qkj' qF' qN'; (try dsimp only)))
  k_with "x:m:hide" => (have qB' := True.intro; have qD' := True.intro; have qF' := True.intro; have qFG' := True.intro; have qL' := True.intro; have qN' := True.intro; have qT' := True.intro; have qX' := True.intro; have qY' := True.intro; have qcells' := True.intro; have qfF := True.intro; have qg' := True.intro; have qh' := True.intro; have qh0' := True.intro; have qh1' := True.intro; have qhc' := True.intro; have qhp := True.intro; have qhz := True.intro; have qhz' := True.intro; have qjk' := True.intro; have qkj' := True.intro; have ql1 := True.intro; have qnE' := True.intro; have qo1' := True.intro; have qp := True.intro; have qtj' := True.intro; have qtk' := True.intro; have qtx' := True.intro; have qzz' := True.intro)
  k_with "x:m:bare" => (clear qB' qD' qF' qFG' qL' qN' qT' qX' qY' qcells' qfF qg' qh' qh0' qh1' qhc' qhp qhz qhz' qjk' qkj' ql1 qnE' qo1' qp qtj' qtk' qtx' qzz')
  trivial
noncomputable def s_segC (d : (World × (ExcName → Option Value) × (Str → Option Value) × (Str → Option Value)) × (Around × Nat × Nat × (Option (List Code))) × (Addr × Value × Heap × Heap) × (Addr × (Str → Option Value) × (List (Addr × Obj)) × LawCells) × (Shared × Heap × Nat × (Flow → Shared → Prop)) × ((Value → Shared → Prop) × Addr × Addr × (Option Value)) × ((Nat → Nat))) : Prop := ∀ (B : Below (d.2.1.1) (d.2.2.1.2.2.1) [] (d.2.2.1.2.2.2)) (X : (Mine.hd.heap_1 (d.1.1).params).In (d.2.2.1.2.2.2)) (TT : Top Mine.hd.view_1 (looseW Mine.hd.view_1 []) (d.1.2.1) (d.1.2.2.1) (d.1.2.2.2) (d.2.2.1.2.2.2)) (hd : (d.2.1.2.1) + 40 < recursionLimit) (hu : (d.2.1.2.2.1) + 8 * 40 < cLine) (F : Fr (d.2.2.1.2.2.2) (d.2.2.2.1.1) (d.2.2.2.2.1.2.1) (d.2.2.2.1.2.1)) (N : News (d.2.2.1.2.2.2) (d.2.2.2.1.1) (d.2.2.2.2.1.2.1) (cellLed (d.2.2.2.1.1) (d.2.2.2.1.2.2.2) ++ (d.2.2.2.1.2.2.1))) (hy : Young (d.2.2.2.1.1) (d.2.2.2.1.2.2.1)) (cF : (d.2.2.2.1.2.2.2).oF.data = .cell (some (.ref (d.2.2.2.2.2.1.2.1)))) (cV : (d.2.2.2.1.2.2.2).oV.data = .cell (some (.ref (d.2.2.2.2.2.1.2.2.1)))) (cM : (d.2.2.2.1.2.2.2).oM.data = .cell (d.2.2.2.2.2.1.2.2.2)) (hy64 : ∀ i, (d.2.2.2.2.2.2) i < 64) (hfig : Figs (d.2.2.2.1.2.2.1) (.ref (d.2.2.2.2.2.1.2.1)) (d.2.2.2.2.2.2)) (hp : IsWorth (d.2.2.2.1.2.2.1) (d.2.2.2.2.2.1.2.2.1)) (ret : ∀ h' tk' oM T' aM, Fr (d.2.2.1.2.2.2) (d.2.2.2.1.1) h' (d.2.2.2.1.2.1) → News (d.2.2.1.2.2.2) (d.2.2.2.1.1) h' (cellLed (d.2.2.2.1.1) { (d.2.2.2.1.2.2.2) with oM := oM } ++ T') → Young (d.2.2.2.1.1) T' → (∀ p ∈ (d.2.2.2.1.2.2.1), p ∈ T') → oM.data = .cell (some (.ref aM)) → Marks T' aM (d.2.2.2.2.2.2) → (d.2.2.2.2.1.2.2.2) .next { (d.2.2.2.2.1.1) with heap := h', toks := tk' }), wpAny (model PySem.Challenge.rw_zo0012_01.row.prog (d.1.1)) (lawA (d.1.1).params (d.2.1.2.1) (d.2.1.2.2.1) (d.2.1.2.2.2) (d.2.2.2.1.1) (d.2.2.1.1) (d.2.2.1.2.1)) (execs (((lawB (d.1.1).params).drop 5).take 1) (lawEnv (d.1.1).params (d.2.2.2.1.1) (d.2.2.1.1) (d.2.2.1.2.1))) (d.2.2.2.2.1.2.2.2) (d.2.2.2.2.2.1.1) { (d.2.2.2.2.1.1) with heap := (d.2.2.2.2.1.2.1), toks := (d.2.2.2.2.1.2.2.1) }
@[irreducible] noncomputable def k_segC : (World × (ExcName → Option Value) × (Str → Option Value) × (Str → Option Value)) × (Around × Nat × Nat × (Option (List Code))) × (Addr × Value × Heap × Heap) × (Addr × (Str → Option Value) × (List (Addr × Obj)) × LawCells) × (Shared × Heap × Nat × (Flow → Shared → Prop)) × ((Value → Shared → Prop) × Addr × Addr × (Option Value)) × ((Nat → Nat)) := pick (by haveI := ne_World; haveI := ne_Around; haveI := ne_Shared; haveI := ne_Cells; exact inferInstance) s_segC
theorem segC_c : s_segC k_segC := by
  delta s_segC
  intro B X TT hd hu F N hy cF cV cM hy64 hfig hp ret
  walk_at "m:fill"
  simp only [cellLed, List.cons_append, List.nil_append] at N
  refine Mine.by_op fun P9 bk9 => ?_
  obtain ⟨aF', nF, rs, e1, hrs, hRm, hrow⟩ := hfig
  refine bk9 ?_; clear bk9 P9
  cases e1
  walk_at "m:body"
  k_steps
  unfold Stop
  have hsz : (List.toArray (rs.map Value.ref)).size = 9 := by rw [List.size_toArray, List.length_map, hrs]
  refine LCg.CompSrc.ledger (by rfl) F N (by walk_at "m:mem") (by rw [hsz]; decide) ?_
  intro g'
  refine comp_all (fun i v => ∃ t, v = .int (mk ((k_segC.2.2.2.2.2.2) i) : Int) t) ?_ ?_
  · intro i v ys I oI C oC D m₂ h1 tk1 E' hi hP hyl hC hx F1 N1 off ne
    rw [hsz] at hi
    refine Mine.by_op fun P9 bk9 => ?_
    obtain ⟨a, ha⟩ : ∃ a, rs[i]? = some a := ⟨rs[i], List.getElem?_eq_getElem (by omega)⟩
    refine bk9 ?_; clear bk9 P9
    have ev : v = .ref a := by
      rw [List.getElem?_toArray, List.getElem?_map, ha] at hP
      exact (Option.some.inj hP).symm
    subst ev
    refine Mine.by_op fun P9 bk9 => ?_
    obtain ⟨o, ho, t0, t1, t2, cc, eo⟩ := hrow i a ha
    refine bk9 ?_; clear bk9 P9
    subst eo
    have hyi := hy64 i
    clear N F hP hrow hi ha
    k_steps
    with_reducible rename News _ _ _ _ => nE'
    refine LCg.CompEnd.intro (by assumption) (Mine.news_tl nE') _ (fun p hp => hp) (by first | assumption | (simp only [LCg.Off3, and_true]; assumption)) (by first | exact trivial | exact Or.inr ⟨_, by walk_at "m:mem", rfl, _, rfl⟩ | exact Or.inl (by assumption)) ?_
    refine ⟨rfl, int_val ?_⟩
    unfold mk
    (try simp only [List.sum_cons, List.sum_nil])
    trace_state
    omega
  · intro ys hv
    rw [hsz] at hv
    unfold LCg.FinE
    intro D h2 tk2 F2 N2 o1
    have hyD : Young (k_segC.2.2.2.1.1) ((D, LCg.lst ys) :: (k_segC.2.2.2.1.2.2.1)) := young_off (c := (k_segC.2.2.2.1.2.2.2)) o1 hy
    refine Mine.by_op fun P9 bk9 => ?_
    obtain ⟨o11, o10, o9, o8, o7, o6, o5, o4, o3, o2, o1, o0⟩ := o1
    refine bk9 ?_; clear bk9 P9
    dsimp only at o11 o10 o9 o8 o7 o6 o5 o4 o3 o2 o1
    clear F N
    k_steps
    (walk_at "m:hide"; rename_i hA oM F3 N3 dX; walk_at "m:bare")
    exact ret _ _ oM ((D, LCg.lst ys) :: (k_segC.2.2.2.1.2.2.1)) D F3 (perm_cells (add := [(D, LCg.lst ys)]) (A := cellLed (k_segC.2.2.2.1.1) { (k_segC.2.2.2.1.2.2.2) with oM := oM }) (T := (k_segC.2.2.2.1.2.2.1)) N3) hyD (fun p hp => .tail _ hp) dX ⟨ys, _, .head _, hv.1, fun i hi => by obtain ⟨v, h1, t, rfl⟩ := hv.2 i hi; exact ⟨Int.natCast_nonneg _, by have := mk_le (y := (k_segC.2.2.2.2.2.2) i); show ((mk ((k_segC.2.2.2.2.2.2) i) : Nat) : Int) ≤ 18; omega, t, h1⟩⟩
theorem segC (w : World) {mean : ExcName → Option Value} {mg mb : Str → Option Value} {A₀ : Around} {dp un : Nat} {gd : Option (List Code)} {fa : Addr} {cd : Value} {base g : Heap} {L : Addr} {m : Str → Option Value} {T : List (Addr × Obj)} {c : LawCells} {s : Shared} {h : Heap} {tk : Nat} {Q : Flow → Shared → Prop} {E : Value → Shared → Prop}
    (B : Below A₀ base [] g) (X : (Mine.hd.heap_1 w.params).In g) (TT : Top Mine.hd.view_1 (looseW Mine.hd.view_1 []) mean mg mb g) (hd : dp + 40 < recursionLimit) (hu : un + 8 * 40 < cLine)
    (F : Fr g L h m) (N : News g L h (cellLed L c ++ T)) (hy : Young L T) {aF aV : Addr} {vM : Option Value} {y : Nat → Nat}
    (cF : c.oF.data = .cell (some (.ref aF))) (cV : c.oV.data = .cell (some (.ref aV))) (cM : c.oM.data = .cell vM) (hy64 : ∀ i, y i < 64) (hfig : Figs T (.ref aF) y) (hp : IsWorth T aV)
    (ret : ∀ h' tk' oM T' aM, Fr g L h' m → News g L h' (cellLed L { c with oM := oM } ++ T') → Young L T' → (∀ p ∈ T, p ∈ T') → oM.data = .cell (some (.ref aM)) → Marks T' aM y → Q .next { s with heap := h', toks := tk' }) : wpAny (model PySem.Challenge.rw_zo0012_01.row.prog w) (lawA w.params dp un gd L fa cd) (execs (((lawB w.params).drop 5).take 1) (lawEnv w.params L fa cd)) Q E { s with heap := h, toks := tk } :=
  pick_all k_segC.eq_1 segC_c ((w, mean, mg, mb), (A₀, dp, un, gd), (fa, cd, base, g), (L, m, T, c), (s, h, tk, Q), (E, aF, aV, vM), (y)) B X TT hd hu F N hy cF cV cM hy64 hfig hp ret
end
-- G5
section
theorem setup_G5 : True := by
  k_with_none
  k_with "x:m:mem" => (first | assumption | exact List.Mem.head _ | (refine List.Mem.tail _ ?_; walk_at "m:mem"))
  k_with "x:m:give" => ((
  (case zzk1 => k_asm); (case zzk2 => k_asm); (case zzk3 => k_asm); (case zzk4 => k_asm); (case zzk5 => k_asm); (case zzk6 => first | exact rfl | assumption); (case zzk8 => ktr_room); (case zzk9 => ktr_units)))
  k_with "x:subscriptTail Name Constant ref int" => ((k_here; (with_reducible show wpAny _ _ (subscriptTail _ _ (Value.ref _) (Value.int _ _)) _ _ _); (with_unfolding_all refine' sub_listN ?zzk1 ?zzk2 ?zzk3 ?zzk4 ?zzk5 ?_ ?zzk6; (case zzk1 => k_asm); (case zzk2 => walk_at "m:mem"); (case zzk3 => decide); (case zzk4 => decide); (case zzk5 => rfl); (case zzk6 => with_unfolding_all rfl); k_whole)))
  k_with "x:TurnPost" => ((dsimp only [TurnPost]))
  k_with "x:m:enterC" => ((refine' code_defC ?zzk1 ?zzk2 ?zzk3 ?zzk4 ?zzk5 ?zzkA ?zzkF ?zzkK ?zzk6 ?zzk7 ?zzk8 ?zzk9 ?zzkB ?zzkD ?_ ?zzc2 ?zzc3 ?zzc4; (case zzkA => exact rfl); (case zzkF => exact rfl); (case zzkK => assumption); (case zzk1 => k_asm); (case zzk2 => k_asm); (case zzk3 => k_asm); (case zzk4 => k_asm); (case zzk5 => k_asm); (case zzk6 => k_is); (case zzk7 => k_is); (case zzk8 => ktr_room); (case zzk9 => exact BindsTo.of_eq rfl); (case zzkB => exact rfl); (case zzkD => decide +kernel); (case zzc2 => exact rfl); (case zzc3 => exact rfl); (case zzc4 => exact rfl); k_whole; intro qg' qL' qh' qtk' qcells' qFG' qF' qN' qY' qB' qX' qT' ql1; (try k_lt ql1); k_cells qY'; (try simp only [List.cons_append, List.nil_append] at qN'); (try dsimp only); (try k_fold)))
  k_with "x:spliced" => (((dsimp only); walk_at "spliced"))
  k_with "x:eval ListComp" => ((k_here; k_dflt (refine LCg.ListComp_U (F₀ := by k_asm) (by with_unfolding_all rfl) (by decide) (by rfl) (by decide) (by rfl) ?_); k_dflt lcg_toSrc))
  k_with "x:CompEnd" => ((refine LCg.CompEnd.intro (by assumption) (by assumption) _ (fun p hp => hp) (by first | assumption | (simp only [LCg.Off3, and_true]; assumption)) (by first | exact trivial | exact Or.inr ⟨_, by walk_at "m:mem", rfl, _, rfl⟩ | exact Or.inl (by assumption)) ?_))
  k_with "x:m:idx" => (first | ((with_reducible refine' Mine.idx_add ?_ ?_) <;> try walk_at "m:idx") | ((with_reducible refine' Mine.idx_mul ?_ ?_) <;> try walk_at "m:idx") | (with_reducible exact rfl) | (with_reducible_and_instances exact Int.cast_ofNat_Int))
  k_with "x:m:sub" => ((k_here; (with_unfolding_all refine' sub_z ?zzk1 ?zzk2 ?zzk3 ?zzk4 ?zzk5 ?zzk7 ?_ ?zzk6; (case zzk2 => k_asm); (case zzk3 => walk_at "m:mem"); (case zzk1 => assumption); (case zzk4 => walk_at "m:idx"); (case zzk5 => omega); (case zzk7 => decide); (case zzk6 => with_unfolding_all rfl)); intro qzz' qtx' qhz' qh0' qh1'; (try simp only [Nat.zero_add, Nat.add_zero, Nat.mul_zero, Nat.reduceAdd, Nat.reduceMul] at qhz')))
  k_with "x:subscriptTail Name BinOp ref int" => (walk_at "m:sub")
  k_with "x:subscriptTail Name Name ref int" => (walk_at "m:sub")
  k_with "x:exec For Name Call cons nil" => ((with_reducible rename Fr _ _ _ _ => qfF; refine Mine.for_wordTF qfF ?_ (fun _ => rfl) (by first | assumption | passes_own)))
  k_with "x:CompSrc" => ((k_here; k_dflt (first
  | (refine LCg.CompSrc.ledger (by rfl) (by k_asm) (by k_asm) (by walk_at "m:mem") (by first | size_fits | exact Nat.le_of_ble_eq_true rfl) ?_; intro qg'; lcg_lit)
  | (refine LCg.CompSrc.range (by rfl) (by k_asm) (by k_asm) (by assumption) (by first | decide | rfl) (by first | rfl | decide) (by first | size_fits | exact Nat.le_of_ble_eq_true rfl) ?_; intro qg'; lcg_lit))))
  k_with "x:call builtin:list.append" => (((try dsimp only [List.cons_append, List.nil_append]); k_dflt (refine' append_K ?zzk1 ?zzk2 ?zzk3 ?_ ?zzz; (case zzk1 => k_asm); (case zzk2 => k_asm); (case zzk3 => k_upd); (case zzz => exact Mine.IntsZ.size (by assumption) (by omega))); intro qh' qF' qN'; (try k_sweep)))
  k_with "x:storeName" => (((dsimp only); walk_at "storeName"))
  k_with "x:newList" => (((dsimp only); walk_at "newList"))
  k_with "x:m:split" => ((refine Mine.by_op fun qP9 qk9 => ?_; (repeat (with_reducible rename (_ ∧ _) => qhc'; obtain ⟨_, _⟩ := qhc')); refine qk9 ?_; clear qk9 qP9))
  k_with "x:m:junk" => (((repeat (with_reducible rename LCg.NsObj _ _ => qjk'; clear qjk')); (repeat (with_reducible rename ((_ ≠ _ ∧ _ ≠ _ ∧ _ ≠ _) ∧ _) => qjk'; clear qjk')); (repeat (with_reducible rename (_ ≠ _ ∧ _ ≠ _ ∧ _ ≠ _) => qjk'; clear qjk'))))
  k_with "x:FinE" => (((unfold LCg.FinE); walk_at "m:junk"; intro qD' qh' qtk' qF' qN' qo1'; (try simp only [LCg.Off1, and_true] at qo1'); (try simp only [List.nil_append, List.cons_append] at qN'); walk_at "m:split"; (try dsimp only)))
  k_with "x:m:subs" => (first | (refine List.forall_mem_cons.mpr ⟨?_, ?_⟩; (focus walk_at "m:mem"); walk_at "m:subs") | (intro qp qhp; walk_at "m:mem"))
  k_with "x:m:body" => ((dsimp only [lawB, lawS, lawEnv, lawA, lawParts, List.take, List.drop]))
  k_with "x:m:led" => ((simp only [cellLed, List.cons_append, List.nil_append] at *))
  k_with "x:m:fill" => ((w_on; (have qhz : PySem.Challenge.rw_zo0012_01 = PySem.Challenge.rw_zo0012_01 ∧ Mine.hd.heap_1 = Mine.hd.heap_1 := by (k_fill; exact ⟨rfl, rfl⟩)); clear qhz))
  k_with "x:m:give" => ((
  (case zzk1 => k_asm); (case zzk2 => k_asm); (case zzk3 => k_asm); (case zzk4 => k_asm); (case zzk5 => k_asm); (case zzk6 => first | exact rfl | assumption); (case zzk8 => omega); (case zzk9 => omega)))
  k_with "x:CompSrc" => (first
  | (k_here; k_dflt (first
    | (refine LCg.CompSrc.ledger (by rfl) (by k_asm) (by k_asm) (by walk_at "m:mem") (by first | size_fits | exact Nat.le_of_ble_eq_true rfl) ?_; intro qg'; lcg_lit)
    | (refine LCg.CompSrc.range (by rfl) (by k_asm) (by k_asm) (by assumption) (by first | decide | rfl) (by first | rfl | decide) (by first | size_fits | exact Nat.le_of_ble_eq_true rfl) ?_; intro qg'; lcg_lit)))
  | refine Mine.stop ?_)
  k_with "x:m:cend" => ((with_reducible rename News _ _ _ _ => qnE'; first
  | refine LCg.CompEnd.intro (by assumption) qnE' _ (fun p hp => hp) (by first | assumption | (simp only [LCg.Off3, and_true]; assumption)) (by first | exact trivial | exact Or.inr ⟨_, by walk_at "m:mem", rfl, _, rfl⟩ | exact Or.inl (by assumption)) ?_
  | refine LCg.CompEnd.intro (by assumption) (Mine.news_tl qnE') _ (fun p hp => hp) (by first | assumption | (simp only [LCg.Off3, and_true]; assumption)) (by first | exact trivial | exact Or.inr ⟨_, by walk_at "m:mem", rfl, _, rfl⟩ | exact Or.inl (by assumption)) ?_
  | refine LCg.CompEnd.intro (by assumption) (Mine.news_tl (Mine.news_tl qnE')) _ (fun p hp => hp) (by first | assumption | (simp only [LCg.Off3, and_true]; assumption)) (by first | exact trivial | exact Or.inr ⟨_, by walk_at "m:mem", rfl, _, rfl⟩ | exact Or.inl (by assumption)) ?_))
  k_with "x:CompEnd" => (walk_at "m:cend")
  k_with "x:m:subp" => ((k_here; (with_unfolding_all refine' Mine.sub_pieces ?zzk1 ?zzk2 ?zzk3 ?zzk4 ?_ ?zzk6; (case zzk1 => k_asm); (case zzk2 => assumption); (case zzk3 => (intro qp qhp; walk_at "m:mem")); (case zzk4 => omega); (case zzk6 => with_unfolding_all rfl)); intro qtx'))
  k_with "x:subscriptTail Name Name ref int" => (first | walk_at "m:subp" | walk_at "m:sub")
  k_with "x:call builtin:str.join" => (((try dsimp only [List.cons_append, List.nil_append]); k_dflt (refine' Mine.join_L ?zzk1 ?zzk2 ?zzk3 ?zzk4 ?zzk5 ?_; (case zzk1 => k_asm); (case zzk2 => walk_at "m:mem"); (case zzk3 => exact .cons _ _ (.cons _ _ (.cons _ _ .nil))); (case zzk4 => decide +kernel); (case zzk5 => exact Mine.pk3)); intro qtj' qkj'; (try dsimp only)))
  k_with "x:m:subw" => ((k_here; (with_unfolding_all refine' Mine.sub_worth ?zzk1 ?zzk2 ?zzk3 ?zzk4 ?_ ?zzk6; (case zzk1 => k_asm); (case zzk2 => assumption); (case zzk3 => (intro qp qhp; walk_at "m:mem")); (case zzk4 => omega); (case zzk6 => with_unfolding_all rfl)); intro qtx'))
  k_with "x:subscriptTail Name Name ref int" => (first | walk_at "m:subp" | walk_at "m:subw" | walk_at "m:sub")
  k_with "x:m:ints" => (first | exact IntsAre.nil | (refine IntsAre.cons _ _ ?_; walk_at "m:ints"))
  k_with "x:call builtin:sum" => (((try dsimp only [List.cons_append, List.nil_append]); k_dflt (refine' Mine.sum_L ?zzk1 ?zzk2 ?zzk3 ?zzk4 ?zzk5 ?_; (case zzk1 => rfl); (case zzk2 => k_asm); (case zzk3 => k_asm); (case zzk4 => walk_at "m:mem"); (case zzk5 => walk_at "m:ints")); intro qh' qtj' qkj' qF' qN'; (try dsimp only)))
  k_with "x:m:subv" => ((k_here; (with_unfolding_all refine' Mine.sub_vals ?zzk1 ?zzk2 ?zzk3 ?zzk4 ?zzk5 ?zzk7 ?_ ?zzk6; (case zzk2 => k_asm); (case zzk3 => walk_at "m:mem"); (case zzk1 => assumption); (case zzk4 => walk_at "m:idx"); (case zzk5 => omega); (case zzk7 => decide); (case zzk6 => with_unfolding_all rfl)); rintro qvv' ⟨qtv', qhv'⟩; cases qhv'))
  k_with "x:subscriptTail Name Name ref int" => (first | walk_at "m:subp" | walk_at "m:subw" | walk_at "m:subv" | walk_at "m:sub")
  k_with "x:execs cons" => (((with_reducible refine wpAny_execs_cons ?_); try dsimp only))
  k_with "x:execs nil" => (refine wpAny_execs_nil ?_)
  k_with "x:call builtin:len" => (((try dsimp only [List.cons_append, List.nil_append]); first | refine P.len_str Mine.lt_txt ?_ | refine P.len_str Mine.lt_esc ?_))
  k_with "x:eval Dict" => ((k_here; k_dflt (refine' kdn_eval (knd := PySem.strKind _ _) ?zzF ?zzN ?zzb ?zza ?zzl ?zze ?zzn ?_; (case zzF => k_asm); (case zzN => k_asm); (case zzb => exact Top.nolimit (by k_asm)); (case zza => rfl); (case zzl => rfl); (case zze => exact List.cons_ne_nil _ _); (case zzn => exact Nat.le_of_ble_eq_true rfl)); intro qd' qh' qo' qF' qN' ql1 qlo' qhd'; (try k_lt ql1); (try dsimp only)))
  k_with "x:m:hide" => (have qB' := True.intro; have qD' := True.intro; have qF' := True.intro; have qFG' := True.intro; have qL' := True.intro; have qN' := True.intro; have qT' := True.intro; have qX' := True.intro; have qY' := True.intro; have qcells' := True.intro; have qd' := True.intro; have qfF := True.intro; have qg' := True.intro; have qh' := True.intro; have qh0' := True.intro; have qh1' := True.intro; have qhc' := True.intro; have qhd' := True.intro; have qhp := True.intro; have qhv' := True.intro; have qhz := True.intro; have qhz' := True.intro; have qjk' := True.intro; have qkj' := True.intro; have ql1 := True.intro; have qlo' := True.intro; have qnE' := True.intro; have qo' := True.intro; have qo1' := True.intro; have qp := True.intro; have qtj' := True.intro; have qtk' := True.intro; have qtv' := True.intro; have qtx' := True.intro; have qvv' := True.intro; have qzz' := True.intro)
  k_with "x:m:bare" => (clear qB' qD' qF' qFG' qL' qN' qT' qX' qY' qcells' qd' qfF qg' qh' qh0' qh1' qhc' qhd' qhp qhv' qhz qhz' qjk' qkj' ql1 qlo' qnE' qo' qo1' qp qtj' qtk' qtv' qtx' qvv' qzz')
  trivial
noncomputable def s_segD (d : (World × (ExcName → Option Value) × (Str → Option Value) × (Str → Option Value)) × (Around × Nat × Nat × (Option (List Code))) × (Addr × Value × Heap × Heap) × (Addr × (Str → Option Value) × (List (Addr × Obj)) × LawCells) × (Shared × Nat × (Flow → Shared → Prop) × (Value → Shared → Prop)) × (Addr × (Option Value) × (Nat → Nat))) : Prop := ∀ (h : Heap) (B : Below (d.2.1.1) (d.2.2.1.2.2.1) [] (d.2.2.1.2.2.2)) (X : (Mine.hd.heap_1 (d.1.1).params).In (d.2.2.1.2.2.2)) (TT : Top Mine.hd.view_1 (looseW Mine.hd.view_1 []) (d.1.2.1) (d.1.2.2.1) (d.1.2.2.2) (d.2.2.1.2.2.2)) (hd : (d.2.1.2.1) + 40 < recursionLimit) (hu : (d.2.1.2.2.1) + 8 * 40 < cLine) (F : Fr (d.2.2.1.2.2.2) (d.2.2.2.1.1) h (d.2.2.2.1.2.1)) (N : News (d.2.2.1.2.2.2) (d.2.2.2.1.1) h (cellLed (d.2.2.2.1.1) (d.2.2.2.1.2.2.2) ++ (d.2.2.2.1.2.2.1))) (hy : Young (d.2.2.2.1.1) (d.2.2.2.1.2.2.1)) (hE : PassesOwn (model PySem.Challenge.rw_zo0012_01.row.prog (d.1.1)) (lawA (d.1.1).params (d.2.1.2.1) (d.2.1.2.2.1) (d.2.1.2.2.2) (d.2.2.2.1.1) (d.2.2.1.1) (d.2.2.1.2.1)) (lawEnv (d.1.1).params (d.2.2.2.1.1) (d.2.2.1.1) (d.2.2.1.2.1)) (d.2.2.2.2.1.2.2.2)) (cX : (d.2.2.2.1.2.2.2).oX.data = .cell (some (.ref (d.2.2.2.2.2.1)))) (cD : (d.2.2.2.1.2.2.2).oD.data = .cell (d.2.2.2.2.2.2.1)) (hy64 : ∀ i, (d.2.2.2.2.2.2.2) i < 64) (htx : Texts (d.2.2.2.1.2.2.1) (d.2.2.2.2.2.1) (d.2.2.2.2.2.2.2)) (ret : ∀ h' tk' oD T' aD m', Fr (d.2.2.1.2.2.2) (d.2.2.2.1.1) h' m' → News (d.2.2.1.2.2.2) (d.2.2.2.1.1) h' (cellLed (d.2.2.2.1.1) { (d.2.2.2.1.2.2.2) with oD := oD } ++ T') → Young (d.2.2.2.1.1) T' → (∀ p ∈ (d.2.2.2.1.2.2.1), p ∈ T') → oD.data = .cell (some (.ref aD)) → Doors (d.1.1) T' aD (d.2.2.2.2.2.2.2) → (d.2.2.2.2.1.2.2.1) .next { (d.2.2.2.2.1.1) with heap := h', toks := tk' }), wpAny (model PySem.Challenge.rw_zo0012_01.row.prog (d.1.1)) (lawA (d.1.1).params (d.2.1.2.1) (d.2.1.2.2.1) (d.2.1.2.2.2) (d.2.2.2.1.1) (d.2.2.1.1) (d.2.2.1.2.1)) (execs (((lawB (d.1.1).params).drop 6).take 2) (lawEnv (d.1.1).params (d.2.2.2.1.1) (d.2.2.1.1) (d.2.2.1.2.1))) (d.2.2.2.2.1.2.2.1) (d.2.2.2.2.1.2.2.2) { (d.2.2.2.2.1.1) with heap := h, toks := (d.2.2.2.2.1.2.1) }
@[irreducible] noncomputable def k_segD : (World × (ExcName → Option Value) × (Str → Option Value) × (Str → Option Value)) × (Around × Nat × Nat × (Option (List Code))) × (Addr × Value × Heap × Heap) × (Addr × (Str → Option Value) × (List (Addr × Obj)) × LawCells) × (Shared × Nat × (Flow → Shared → Prop) × (Value → Shared → Prop)) × (Addr × (Option Value) × (Nat → Nat)) := pick (by haveI := ne_World; haveI := ne_Around; haveI := ne_Shared; haveI := ne_Cells; exact inferInstance) s_segD
theorem segD_c : s_segD k_segD := by
  delta s_segD
  intro h B X TT hd hu F N hy hE cX cD hy64 htx ret
  walk_at "m:fill"
  simp only [cellLed, List.cons_append, List.nil_append] at N
  refine Mine.by_op fun P9 bk9 => ?_
  obtain ⟨vs, nX, hXm, hXv⟩ := htx
  refine bk9 ?_; clear bk9 P9
  walk_at "m:body"
  dsimp only [lawS, lawEnv, lawA, lawParts] at hE B
  k_steps
  (walk_at "m:hide"; rename_i aD h1 lD h2 oD F2 N2 dD h3 tk3 u1 u2 u3 hr F3 N3 kp htk3; walk_at "m:bare")
  (try dsimp only at htk3)
  refine Mine.by_op fun P9 bk9 => ?_
  obtain ⟨l11, l10, l9, l8, l7, l6, l5, l4, l3, l2, l1, lT⟩ := lD
  refine bk9 ?_; clear bk9 P9
  refine iter_rangeT (n := 9) (fun i m' led' => ∃ rs : List Addr, ∃ Ti, led' = cellLed (k_segD.2.2.2.1.1) { (k_segD.2.2.2.1.2.2.2) with oD := oD } ++ ((aD, listOf (List.toArray (rs.map Value.ref)) i) :: Ti) ∧ rs.length = i ∧ (∀ p ∈ (k_segD.2.2.2.1.2.2.1), p ∈ Ti) ∧ LCg.Off1 aD Ti ∧ Young (k_segD.2.2.2.1.1) Ti ∧ (∀ d a', rs[d]? = some a' → IsStat (k_segD.1.1) Ti a' (dstat (k_segD.2.2.2.2.2.2.2) d))) (by rfl) hr (by decide) (by decide) F3 (perm_cells (add := [(aD, listOf (List.toArray []) 0)]) (A := cellLed (k_segD.2.2.2.1.1) { (k_segD.2.2.2.1.2.2.2) with oD := oD }) (T := (k_segD.2.2.2.1.2.2.1)) N3) ⟨[], (k_segD.2.2.2.1.2.2.1), rfl, rfl, fun _ hp => hp, off1_of (allLt_ne lT), hy, fun _ _ h => nomatch h⟩ (by intros; exact Expr.noConfusion) (by intros; exact Expr.noConfusion) ?_ ?_
  · intro i ti m₁ led₁ h4 tk4 I oI htk4 hi qz109 F4 N4 off
    refine Mine.by_op fun P9 bk9 => ?_
    obtain ⟨rs, Ti, rfl, hrs, hTi, hoff, hyi, hst⟩ := qz109
    refine bk9 ?_; clear bk9 P9
    rw [Int.zero_add]
    replace N4 : News (k_segD.2.2.1.2.2.2) (k_segD.2.2.2.1.1) h4 _ := N4
    replace F4 : Fr (k_segD.2.2.1.2.2.2) (k_segD.2.2.2.1.1) h4 _ := F4
    simp only [cellLed, List.cons_append, List.nil_append] at N4 off
    refine Mine.by_op fun P9 bk9 => ?_
    obtain ⟨f11, f10, f9, f8, f7, f6, f5, f4, f3, f2, f1, f0, fT⟩ := off1_of off
    refine bk9 ?_; clear bk9 P9
    dsimp only at f11 f10 f9 f8 f7 f6 f5 f4 f3 f2 f1 f0 htk4
    have hXm' := hTi _ hXm
    have hyi64 := hy64 i
    clear F2 N2 F3 N3 hXm off
    k_with "x:call ref" => (first
      | ((with_reducible show wpAny _ _ (call (Value.ref 103) _) _ _ _); k_dflt (refine' gives_use (lname (k_segD.1.1) i) ?zzk1 ?zzk2 ?zzk3 ?zzk4 ?zzk5 ?zzk6 ?zzk7 ?zzk8 ?zzk9 ?_; walk_at "m:give"; (case zzk7 => exact ⟨hi, _, rfl⟩)); refine Mine.ret_nil ?_; intro t9 h9 tk9 F9 N9; (try dsimp only); (try k_fold))
      | ((with_reducible show wpAny _ _ (call (Value.ref 91) _) _ _ _); k_dflt (refine' givesT_use (esc (k_segD.1.1) (txt ((k_segD.2.2.2.2.2.2.2) i))) ?zzk0 ?zzk1 ?zzk2 ?zzk3 ?zzk4 ?zzk5 ?zzk6 ?zzk7 ?zzk8 ?zzk9 ?_; walk_at "m:give"; (case zzk0 => (dsimp only; omega)); (case zzk7 => exact ⟨plain_txt ((k_segD.2.2.2.2.2.2.2) i), _, rfl⟩)); refine Mine.ret_nil ?_; intro t9 h9 tk9 F9 N9; (try dsimp only); (try k_fold)))
    k_steps
    (walk_at "m:hide"; rename_i dA x1 x2 loA x3 lA x4 oA hdA hfA DA x5 lD' x6 F8 N8; walk_at "m:bare")
    refine Mine.by_op fun P9 bk9 => ?_
    obtain ⟨_, la1, _, _, _, _, _, _, _, _, _, _, la2, _⟩ := lA
    refine bk9 ?_; clear bk9 P9
    refine Mine.by_op fun P9 bk9 => ?_
    obtain ⟨ld0, _, ld1, _, _, _, _, _, _, _, _, _, _, ld2, _⟩ := lD'
    refine bk9 ?_; clear bk9 P9
    simp only [esc_txt_len, List.push_toArray] at N8
    have hx : ∃ t1 t2 t3 t4 n, News (k_segD.2.2.1.2.2.2) (k_segD.2.2.2.1.1) x6 ((DA, tupObj [.int 1 t1, .int 1 t2, .int ((txt ((k_segD.2.2.2.2.2.2.2) i)).length : Int) t3, .int (mk ((k_segD.2.2.2.2.2.2.2) i) : Int) t4, .ref dA] n) :: (dA, oA) :: (I, oI) :: (cellLed (k_segD.2.2.2.1.1) { (k_segD.2.2.2.1.2.2.2) with oD := oD } ++ ((aD, listOf (List.toArray ((rs ++ [DA]).map Value.ref)) (i + 1)) :: Ti))) := ⟨_, _, _, _, _, by rw [List.map_append]; exact N8⟩
    refine Mine.by_op fun P9 bk9 => ?_
    obtain ⟨t1, t2, t3, t4, nn, N9⟩ := hx
    refine bk9 ?_; clear bk9 P9
    clear N8
    refine Mine.TurnEnd.intro (cellLed (k_segD.2.2.2.1.1) { (k_segD.2.2.2.1.2.2.2) with oD := oD } ++ ((aD, listOf (List.toArray ((rs ++ [DA]).map Value.ref)) (i + 1)) :: (DA, tupObj [.int 1 t1, .int 1 t2, .int ((txt ((k_segD.2.2.2.2.2.2.2) i)).length : Int) t3, .int (mk ((k_segD.2.2.2.2.2.2.2) i) : Int) t4, .ref dA] nn) :: (dA, oA) :: Ti)) F8 N9 ?_ ?_ ⟨rs ++ [DA], (DA, tupObj [.int 1 t1, .int 1 t2, .int ((txt ((k_segD.2.2.2.2.2.2.2) i)).length : Int) t3, .int (mk ((k_segD.2.2.2.2.2.2.2) i) : Int) t4, .ref dA] nn) :: (dA, oA) :: Ti, rfl, by rw [List.length_append, hrs]; rfl, fun p hp => .tail _ (.tail _ (hTi p hp)), ⟨Nat.ne_of_gt ld2, Nat.ne_of_gt la2, hoff⟩, young_cons (by omega) (young_cons (by omega) hyi), ?_⟩
    · intro p hp
      rcases List.mem_cons.mp hp with hp | hp
      · rw [hp]; exact .tail _ (.tail _ (.head _))
      · rcases List.mem_append.mp hp with hp | hp
        · exact .tail _ (.tail _ (.tail _ (List.mem_append_left _ hp)))
        · rcases List.mem_cons.mp hp with hp | hp
          · rw [hp]; exact .tail _ (.tail _ (.tail _ (List.mem_append_right _ (.head _))))
          · rcases List.mem_cons.mp hp with hp | hp
            · rw [hp]; exact .head _
            · rcases List.mem_cons.mp hp with hp | hp
              · rw [hp]; exact .tail _ (.head _)
              · exact .tail _ (.tail _ (.tail _ (List.mem_append_right _ (.tail _ hp))))
    · have hall : LCg.Off1 I (cellLed (k_segD.2.2.2.1.1) { (k_segD.2.2.2.1.2.2.2) with oD := oD } ++ ((aD, listOf (List.toArray ((rs ++ [DA]).map Value.ref)) (i + 1)) :: (DA, tupObj [.int 1 t1, .int 1 t2, .int ((txt ((k_segD.2.2.2.2.2.2.2) i)).length : Int) t3, .int (mk ((k_segD.2.2.2.2.2.2.2) i) : Int) t4, .ref dA] nn) :: (dA, oA) :: Ti)) :=
        ⟨f11, f10, f9, f8, f7, f6, f5, f4, f3, f2, f1, f0, Nat.ne_of_gt (by omega), Nat.ne_of_gt (by omega), fT⟩
      exact off1_mem hall
    · intro d a' hd'
      by_cases hdi : d < i
      · rw [List.getElem?_append_left (by omega)] at hd'
        refine Mine.by_op fun P9 bk9 => ?_
        obtain ⟨q1, q2, q3, q4, q5, q6, q7, e1, e2, e3⟩ := hst d a' hd'
        refine bk9 ?_; clear bk9 P9
        exact ⟨q1, q2, q3, q4, q5, q6, q7, .tail _ (.tail _ e1), .tail _ (.tail _ e2), e3⟩
      · have hdl : d < (rs ++ [DA]).length := (List.getElem?_eq_some_iff.mp hd').1
        rw [List.length_append, hrs] at hdl
        have e1 : [DA].length = 1 := rfl
        refine Mine.by_op fun P9 bk9 => ?_
        obtain rfl : d = i := by omega
        refine bk9 ?_; clear bk9 P9
        rw [List.getElem?_append_right (by omega), hrs, Nat.sub_self] at hd'
        cases hd'
        exact ⟨t1, t2, t3, t4, dA, nn, oA, .head _, .tail _ (.head _), ⟨_, hdA, hfA⟩, loA⟩
  · intro h5 tk5 m5 led5 F5 N5 qz69
    refine Mine.by_op fun P9 bk9 => ?_
    obtain ⟨rs, Ti, rfl, hrs, hTi, hoff, hyi, hst⟩ := qz69
    refine bk9 ?_; clear bk9 P9
    clear F2 N2 F3 N3
    (try dsimp only)
    k_steps
    refine ret _ _ oD ((aD, listOf (List.toArray (rs.map Value.ref)) 9) :: Ti) aD m5 F5 N5 (young_cons (by omega) hyi) (fun p hp => .tail _ (hTi p hp)) dD ⟨rs, 9, .head _, hrs, fun d a' hd' => ?_⟩
    refine Mine.by_op fun P9 bk9 => ?_
    obtain ⟨q1, q2, q3, q4, q5, q6, q7, e1, e2, e3⟩ := hst d a' hd'
    refine bk9 ?_; clear bk9 P9
    exact ⟨q1, q2, q3, q4, q5, q6, q7, .tail _ e1, .tail _ e2, e3⟩
theorem segD (w : World) {mean : ExcName → Option Value} {mg mb : Str → Option Value} {A₀ : Around} {dp un : Nat} {gd : Option (List Code)} {fa : Addr} {cd : Value} {base g : Heap} {L : Addr} {m : Str → Option Value} {T : List (Addr × Obj)} {c : LawCells} {s : Shared} {h : Heap} {tk : Nat} {Q : Flow → Shared → Prop} {E : Value → Shared → Prop}
    (B : Below A₀ base [] g) (X : (Mine.hd.heap_1 w.params).In g) (TT : Top Mine.hd.view_1 (looseW Mine.hd.view_1 []) mean mg mb g) (hd : dp + 40 < recursionLimit) (hu : un + 8 * 40 < cLine)
    (F : Fr g L h m) (N : News g L h (cellLed L c ++ T)) (hy : Young L T) {aX : Addr} {vD : Option Value} {y : Nat → Nat} (hE : PassesOwn (model PySem.Challenge.rw_zo0012_01.row.prog w) (lawA w.params dp un gd L fa cd) (lawEnv w.params L fa cd) E)
    (cX : c.oX.data = .cell (some (.ref aX))) (cD : c.oD.data = .cell vD) (hy64 : ∀ i, y i < 64) (htx : Texts T aX y)
    (ret : ∀ h' tk' oD T' aD m', Fr g L h' m' → News g L h' (cellLed L { c with oD := oD } ++ T') → Young L T' → (∀ p ∈ T, p ∈ T') → oD.data = .cell (some (.ref aD)) → Doors w T' aD y → Q .next { s with heap := h', toks := tk' }) : wpAny (model PySem.Challenge.rw_zo0012_01.row.prog w) (lawA w.params dp un gd L fa cd) (execs (((lawB w.params).drop 6).take 2) (lawEnv w.params L fa cd)) Q E { s with heap := h, toks := tk } :=
  pick_all k_segD.eq_1 segD_c ((w, mean, mg, mb), (A₀, dp, un, gd), (fa, cd, base, g), (L, m, T, c), (s, tk, Q, E), (aX, vD, y)) h B X TT hd hu F N hy hE cX cD hy64 htx ret
end
-- G6
section
local macro_rules | `(tactic| walk_at $s:str) => `(tactic| k_extra $(Lean.Syntax.mkStrLit ("xG6:" ++ s.getString)))
local macro_rules | `(tactic| walk_at $s:str) => `(tactic| k_extra $(Lean.Syntax.mkStrLit ("xG6:" ++ s.getString)))
theorem setup_base_1 : True := by
  k_with_none
  k_with "x:m:mem" => (first | assumption | exact List.Mem.head _ | (refine List.Mem.tail _ ?_; walk_at "m:mem"))
  k_with "x:m:give" => ((
  (case zzk1 => k_asm); (case zzk2 => k_asm); (case zzk3 => k_asm); (case zzk4 => k_asm); (case zzk5 => k_asm); (case zzk6 => first | exact rfl | assumption); (case zzk8 => ktr_room); (case zzk9 => ktr_units)))
  k_with "x:subscriptTail Name Constant ref int" => ((k_here; (with_reducible show wpAny _ _ (subscriptTail _ _ (Value.ref _) (Value.int _ _)) _ _ _); (with_unfolding_all refine' sub_listN ?zzk1 ?zzk2 ?zzk3 ?zzk4 ?zzk5 ?_ ?zzk6; (case zzk1 => k_asm); (case zzk2 => walk_at "m:mem"); (case zzk3 => decide); (case zzk4 => decide); (case zzk5 => rfl); (case zzk6 => with_unfolding_all rfl); k_whole)))
  k_with "x:TurnPost" => ((dsimp only [TurnPost]))
  k_with "x:m:enterC" => ((refine' code_defC ?zzk1 ?zzk2 ?zzk3 ?zzk4 ?zzk5 ?zzkA ?zzkF ?zzkK ?zzk6 ?zzk7 ?zzk8 ?zzk9 ?zzkB ?zzkD ?_ ?zzc2 ?zzc3 ?zzc4; (case zzkA => exact rfl); (case zzkF => exact rfl); (case zzkK => assumption); (case zzk1 => k_asm); (case zzk2 => k_asm); (case zzk3 => k_asm); (case zzk4 => k_asm); (case zzk5 => k_asm); (case zzk6 => k_is); (case zzk7 => k_is); (case zzk8 => ktr_room); (case zzk9 => exact BindsTo.of_eq rfl); (case zzkB => exact rfl); (case zzkD => decide +kernel); (case zzc2 => exact rfl); (case zzc3 => exact rfl); (case zzc4 => exact rfl); k_whole; intro qg' qL' qh' qtk' qcells' qFG' qF' qN' qY' qB' qX' qT' ql1; (try k_lt ql1); k_cells qY'; (try simp only [List.cons_append, List.nil_append] at qN'); (try dsimp only); (try k_fold)))
  k_with "x:spliced" => (((dsimp only); walk_at "spliced"))
  k_with "x:eval ListComp" => ((k_here; k_dflt (refine LCg.ListComp_U (F₀ := by k_asm) (by with_unfolding_all rfl) (by decide) (by rfl) (by decide) (by rfl) ?_); k_dflt lcg_toSrc))
  k_with "x:CompEnd" => ((refine LCg.CompEnd.intro (by assumption) (by assumption) _ (fun p hp => hp) (by first | assumption | (simp only [LCg.Off3, and_true]; assumption)) (by first | exact trivial | exact Or.inr ⟨_, by walk_at "m:mem", rfl, _, rfl⟩ | exact Or.inl (by assumption)) ?_))
  k_with "x:m:idx" => (first | ((with_reducible refine' Mine.idx_add ?_ ?_) <;> try walk_at "m:idx") | ((with_reducible refine' Mine.idx_mul ?_ ?_) <;> try walk_at "m:idx") | (with_reducible exact rfl) | (with_reducible_and_instances exact Int.cast_ofNat_Int))
  k_with "x:m:sub" => ((k_here; (with_unfolding_all refine' sub_z ?zzk1 ?zzk2 ?zzk3 ?zzk4 ?zzk5 ?zzk7 ?_ ?zzk6; (case zzk2 => k_asm); (case zzk3 => walk_at "m:mem"); (case zzk1 => assumption); (case zzk4 => walk_at "m:idx"); (case zzk5 => omega); (case zzk7 => decide); (case zzk6 => with_unfolding_all rfl)); intro qzz' qtx' qhz' qh0' qh1'; (try simp only [Nat.zero_add, Nat.add_zero, Nat.mul_zero, Nat.reduceAdd, Nat.reduceMul] at qhz')))
  k_with "x:subscriptTail Name BinOp ref int" => (walk_at "m:sub")
  k_with "x:subscriptTail Name Name ref int" => (walk_at "m:sub")
  k_with "x:exec For Name Call cons nil" => ((with_reducible rename Fr _ _ _ _ => qfF; refine Mine.for_wordTF qfF ?_ (fun _ => rfl) (by first | assumption | passes_own)))
  k_with "x:CompSrc" => ((k_here; k_dflt (first
  | (refine LCg.CompSrc.ledger (by rfl) (by k_asm) (by k_asm) (by walk_at "m:mem") (by first | size_fits | exact Nat.le_of_ble_eq_true rfl) ?_; intro qg'; lcg_lit)
  | (refine LCg.CompSrc.range (by rfl) (by k_asm) (by k_asm) (by assumption) (by first | decide | rfl) (by first | rfl | decide) (by first | size_fits | exact Nat.le_of_ble_eq_true rfl) ?_; intro qg'; lcg_lit))))
  k_with "x:call builtin:list.append" => (((try dsimp only [List.cons_append, List.nil_append]); k_dflt (refine' append_K ?zzk1 ?zzk2 ?zzk3 ?_ ?zzz; (case zzk1 => k_asm); (case zzk2 => k_asm); (case zzk3 => k_upd); (case zzz => exact Mine.IntsZ.size (by assumption) (by omega))); intro qh' qF' qN'; (try k_sweep)))
  k_with "x:storeName" => (((dsimp only); walk_at "storeName"))
  k_with "x:newList" => (((dsimp only); walk_at "newList"))
  k_with "x:m:split" => ((refine Mine.by_op fun qP9 qk9 => ?_; (repeat (with_reducible rename (_ ∧ _) => qhc'; obtain ⟨_, _⟩ := qhc')); refine qk9 ?_; clear qk9 qP9))
  k_with "x:m:junk" => (((repeat (with_reducible rename LCg.NsObj _ _ => qjk'; clear qjk')); (repeat (with_reducible rename ((_ ≠ _ ∧ _ ≠ _ ∧ _ ≠ _) ∧ _) => qjk'; clear qjk')); (repeat (with_reducible rename (_ ≠ _ ∧ _ ≠ _ ∧ _ ≠ _) => qjk'; clear qjk'))))
  k_with "x:FinE" => (((unfold LCg.FinE); walk_at "m:junk"; intro qD' qh' qtk' qF' qN' qo1'; (try simp only [LCg.Off1, and_true] at qo1'); (try simp only [List.nil_append, List.cons_append] at qN'); walk_at "m:split"; (try dsimp only)))
  k_with "x:m:subs" => (first | (refine List.forall_mem_cons.mpr ⟨?_, ?_⟩; (focus walk_at "m:mem"); walk_at "m:subs") | (intro qp qhp; walk_at "m:mem"))
  k_with "x:m:body" => ((dsimp only [lawB, lawS, lawEnv, lawA, lawParts, List.take, List.drop]))
  k_with "x:m:led" => ((simp only [cellLed, List.cons_append, List.nil_append] at *))
  k_with "x:m:fill" => ((w_on; (have qhz : PySem.Challenge.rw_zo0012_01 = PySem.Challenge.rw_zo0012_01 ∧ Mine.hd.heap_1 = Mine.hd.heap_1 := by (k_fill; exact ⟨rfl, rfl⟩)); clear qhz))
  k_with "x:m:give" => ((
  (case zzk1 => k_asm); (case zzk2 => k_asm); (case zzk3 => k_asm); (case zzk4 => k_asm); (case zzk5 => k_asm); (case zzk6 => first | exact rfl | assumption); (case zzk8 => omega); (case zzk9 => omega)))
  k_with "x:CompSrc" => (first
  | (k_here; k_dflt (first
    | (refine LCg.CompSrc.ledger (by rfl) (by k_asm) (by k_asm) (by walk_at "m:mem") (by first | size_fits | exact Nat.le_of_ble_eq_true rfl) ?_; intro qg'; lcg_lit)
    | (refine LCg.CompSrc.range (by rfl) (by k_asm) (by k_asm) (by assumption) (by first | decide | rfl) (by first | rfl | decide) (by first | size_fits | exact Nat.le_of_ble_eq_true rfl) ?_; intro qg'; lcg_lit)))
  | refine Mine.stop ?_)
  k_with "x:m:cend" => ((with_reducible rename News _ _ _ _ => qnE'; first
  | refine LCg.CompEnd.intro (by assumption) qnE' _ (fun p hp => hp) (by first | assumption | (simp only [LCg.Off3, and_true]; assumption)) (by first | exact trivial | exact Or.inr ⟨_, by walk_at "m:mem", rfl, _, rfl⟩ | exact Or.inl (by assumption)) ?_
  | refine LCg.CompEnd.intro (by assumption) (Mine.news_tl qnE') _ (fun p hp => hp) (by first | assumption | (simp only [LCg.Off3, and_true]; assumption)) (by first | exact trivial | exact Or.inr ⟨_, by walk_at "m:mem", rfl, _, rfl⟩ | exact Or.inl (by assumption)) ?_
  | refine LCg.CompEnd.intro (by assumption) (Mine.news_tl (Mine.news_tl qnE')) _ (fun p hp => hp) (by first | assumption | (simp only [LCg.Off3, and_true]; assumption)) (by first | exact trivial | exact Or.inr ⟨_, by walk_at "m:mem", rfl, _, rfl⟩ | exact Or.inl (by assumption)) ?_))
  k_with "x:CompEnd" => (walk_at "m:cend")
  k_with "x:m:subp" => ((k_here; (with_unfolding_all refine' Mine.sub_pieces ?zzk1 ?zzk2 ?zzk3 ?zzk4 ?_ ?zzk6; (case zzk1 => k_asm); (case zzk2 => assumption); (case zzk3 => (intro qp qhp; walk_at "m:mem")); (case zzk4 => omega); (case zzk6 => with_unfolding_all rfl)); intro qtx'))
  k_with "x:subscriptTail Name Name ref int" => (first | walk_at "m:subp" | walk_at "m:sub")
  k_with "x:call builtin:str.join" => (((try dsimp only [List.cons_append, List.nil_append]); k_dflt (refine' Mine.join_L ?zzk1 ?zzk2 ?zzk3 ?zzk4 ?zzk5 ?_; (case zzk1 => k_asm); (case zzk2 => walk_at "m:mem"); (case zzk3 => exact .cons _ _ (.cons _ _ (.cons _ _ .nil))); (case zzk4 => decide +kernel); (case zzk5 => exact Mine.pk3)); intro qtj' qkj'; (try dsimp only)))
  k_with "x:m:subw" => ((k_here; (with_unfolding_all refine' Mine.sub_worth ?zzk1 ?zzk2 ?zzk3 ?zzk4 ?_ ?zzk6; (case zzk1 => k_asm); (case zzk2 => assumption); (case zzk3 => (intro qp qhp; walk_at "m:mem")); (case zzk4 => omega); (case zzk6 => with_unfolding_all rfl)); intro qtx'))
  k_with "x:subscriptTail Name Name ref int" => (first | walk_at "m:subp" | walk_at "m:subw" | walk_at "m:sub")
  k_with "x:m:ints" => (first | exact IntsAre.nil | (refine IntsAre.cons _ _ ?_; walk_at "m:ints"))
  k_with "x:call builtin:sum" => (((try dsimp only [List.cons_append, List.nil_append]); k_dflt (refine' Mine.sum_L ?zzk1 ?zzk2 ?zzk3 ?zzk4 ?zzk5 ?_; (case zzk1 => rfl); (case zzk2 => k_asm); (case zzk3 => k_asm); (case zzk4 => walk_at "m:mem"); (case zzk5 => walk_at "m:ints")); intro qh' qtj' qkj' qF' qN'; (try dsimp only)))
  k_with "x:m:subv" => ((k_here; (with_unfolding_all refine' Mine.sub_vals ?zzk1 ?zzk2 ?zzk3 ?zzk4 ?zzk5 ?zzk7 ?_ ?zzk6; (case zzk2 => k_asm); (case zzk3 => walk_at "m:mem"); (case zzk1 => assumption); (case zzk4 => walk_at "m:idx"); (case zzk5 => omega); (case zzk7 => decide); (case zzk6 => with_unfolding_all rfl)); rintro qvv' ⟨qtv', qhv'⟩; cases qhv'))
  k_with "x:subscriptTail Name Name ref int" => (first | walk_at "m:subp" | walk_at "m:subw" | walk_at "m:subv" | walk_at "m:sub")
  k_with "x:execs cons" => (((with_reducible refine wpAny_execs_cons ?_); try dsimp only))
  k_with "x:execs nil" => (refine wpAny_execs_nil ?_)
  k_with "x:call builtin:len" => (((try dsimp only [List.cons_append, List.nil_append]); first | refine P.len_str Mine.lt_txt ?_ | refine P.len_str Mine.lt_esc ?_))
  k_with "x:eval Dict" => ((k_here; k_dflt (refine' kdn_eval (knd := PySem.strKind _ _) ?zzF ?zzN ?zzb ?zza ?zzl ?zze ?zzn ?_; (case zzF => k_asm); (case zzN => k_asm); (case zzb => exact Top.nolimit (by k_asm)); (case zza => rfl); (case zzl => rfl); (case zze => exact List.cons_ne_nil _ _); (case zzn => exact Nat.le_of_ble_eq_true rfl)); intro qd' qh' qo' qF' qN' ql1 qlo' qhd'; (try k_lt ql1); (try dsimp only)))
  k_with "x:m:room" => (first | omega | ((simp only [depth_under_make, depth_under_kw, depth_in1, depth_deeper, depth_caller]); (try dsimp only [ktrTop]); omega))
  k_with "x:m:order" => ((k_dflt (refine' call_cls ?zzk1 ?zzk2 ?zzk3 ?zzk4 ?zzk5 ?zzk6 ?_; (case zzk1 => k_asm); (case zzk2 => k_asm); (case zzk3 => k_asm); (case zzk4 => k_is); (case zzk5 => k_is); (case zzk6 => k_is)); intro qx' qd' qh' qF' qN' ql1 ql2; (try k_lt ql1); (try k_lt2 ql2); k_dflt (refine' code_def ?zzk1 ?zzk2 ?zzk3 ?zzk4 ?zzk5 ?zzkA ?zzkF ?zzkK ?zzk6 ?zzk7 ?zzk8 ?zzk9 ?zzkB ?_ ?zzc2 ?zzc3 ?zzc4 ?zzc5; (case zzkA => exact rfl); (case zzkF => exact rfl); (case zzkK => exact rfl); (case zzk1 => k_asm); (case zzk2 => k_asm); (case zzk3 => k_asm); (case zzk4 => k_asm); (case zzk5 => k_asm); (case zzk6 => k_is); (case zzk7 => k_is); (case zzk8 => walk_at "m:room"); (case zzk9 => exact BindsTo.of_eq rfl); (case zzc5 => decide); (case zzkB => exact locs rfl); (case zzc2 => exact rfl); (case zzc3 => exact rfl); (case zzc4 => exact rfl); k_whole; intro qg' qL' qh' qFG' qF' qN' qB' qX' qT'; (try dsimp only); (try k_fold))))
  trivial
theorem setup_G6 : True := by
  k_with "xG6:m:hide" => (have qB' := True.intro; have qD' := True.intro; have qF' := True.intro; have qFG' := True.intro; have qL' := True.intro; have qN' := True.intro; have qT' := True.intro; have qX' := True.intro; have qY' := True.intro; have qcells' := True.intro; have qd' := True.intro; have qfF := True.intro; have qg' := True.intro; have qh' := True.intro; have qh0' := True.intro; have qh1' := True.intro; have qhc' := True.intro; have qhd' := True.intro; have qhp := True.intro; have qhv' := True.intro; have qhz := True.intro; have qhz' := True.intro; have qjk' := True.intro; have qkj' := True.intro; have ql1 := True.intro; have ql2 := True.intro; have qlo' := True.intro; have qnE' := True.intro; have qo' := True.intro; have qo1' := True.intro; have qp := True.intro; have qtj' := True.intro; have qtk' := True.intro; have qtv' := True.intro; have qtx' := True.intro; have qvv' := True.intro; have qx' := True.intro; have qzz' := True.intro)
  k_with "xG6:m:bare" => (clear qB' qD' qF' qFG' qL' qN' qT' qX' qY' qcells' qd' qfF qg' qh' qh0' qh1' qhc' qhd' qhp qhv' qhz qhz' qjk' qkj' ql1 ql2 qlo' qnE' qo' qo1' qp qtj' qtk' qtv' qtx' qvv' qx' qzz')
  trivial
noncomputable def s_segE1 (d : (World × (ExcName → Option Value) × (Str → Option Value) × (Str → Option Value)) × (Around × Nat × Nat × (Option (List Code))) × (Addr × Value × Heap × Heap) × (Addr × (Str → Option Value) × (List (Addr × Obj)) × LawCells) × (Shared × Heap × Nat × (Flow → Shared → Prop)) × ((Value → Shared → Prop))) : Prop := ∀ (B : Below (d.2.1.1) (d.2.2.1.2.2.1) [] (d.2.2.1.2.2.2)) (X : (Mine.hd.heap_1 (d.1.1).params).In (d.2.2.1.2.2.2)) (TT : Top Mine.hd.view_1 (looseW Mine.hd.view_1 []) (d.1.2.1) (d.1.2.2.1) (d.1.2.2.2) (d.2.2.1.2.2.2)) (hd : (d.2.1.2.1) + 40 < recursionLimit) (hu : (d.2.1.2.2.1) + 8 * 40 < cLine) (F : Fr (d.2.2.1.2.2.2) (d.2.2.2.1.1) (d.2.2.2.2.1.2.1) (d.2.2.2.1.2.1)) (N : News (d.2.2.1.2.2.2) (d.2.2.2.1.1) (d.2.2.2.2.1.2.1) (cellLed (d.2.2.2.1.1) (d.2.2.2.1.2.2.2) ++ (d.2.2.2.1.2.2.1))) (hy : Young (d.2.2.2.1.1) (d.2.2.2.1.2.2.1)) (ret : ∀ h' tk' T' x m', Fr (d.2.2.1.2.2.2) (d.2.2.2.1.1) h' m' → News (d.2.2.1.2.2.2) (d.2.2.2.1.1) h' (cellLed (d.2.2.2.1.1) (d.2.2.2.1.2.2.2) ++ T') → Young (d.2.2.2.1.1) T' → (∀ p ∈ (d.2.2.2.1.2.2.1), p ∈ T') → m' (Str.ofString "order") = some (.ref x) → IsOrder T' x → (d.2.2.2.2.1.2.2.2) .next { (d.2.2.2.2.1.1) with heap := h', toks := tk' }), wpAny (model PySem.Challenge.rw_zo0012_01.row.prog (d.1.1)) (lawA (d.1.1).params (d.2.1.2.1) (d.2.1.2.2.1) (d.2.1.2.2.2) (d.2.2.2.1.1) (d.2.2.1.1) (d.2.2.1.2.1)) (execs (((lawB (d.1.1).params).drop 8).take 1) (lawEnv (d.1.1).params (d.2.2.2.1.1) (d.2.2.1.1) (d.2.2.1.2.1))) (d.2.2.2.2.1.2.2.2) (d.2.2.2.2.2) { (d.2.2.2.2.1.1) with heap := (d.2.2.2.2.1.2.1), toks := (d.2.2.2.2.1.2.2.1) }
@[irreducible] noncomputable def k_segE1 : (World × (ExcName → Option Value) × (Str → Option Value) × (Str → Option Value)) × (Around × Nat × Nat × (Option (List Code))) × (Addr × Value × Heap × Heap) × (Addr × (Str → Option Value) × (List (Addr × Obj)) × LawCells) × (Shared × Heap × Nat × (Flow → Shared → Prop)) × ((Value → Shared → Prop)) := pick (by haveI := ne_World; haveI := ne_Around; haveI := ne_Shared; haveI := ne_Cells; exact inferInstance) s_segE1
theorem segE1_c : s_segE1 k_segE1 := by
  delta s_segE1
  intro B X TT hd hu F N hy ret
  walk_at "m:fill"
  simp only [cellLed, List.cons_append, List.nil_append] at N
  walk_at "m:body"
  k_steps
  walk_at "m:order"
  k_steps
  (walk_at "m:hide"; rename_i p1 _ lp1 p2 _ lp2 sel _ lsel x dx _ ldx lx _ _ _ _ _ _ _ _ _ _ _ h8 F8 N8; walk_at "m:bare")
  have hy5 : @LT.lt Nat _ ((k_segE1.2.2.2.1.1) + 11) p1 ∧ @LT.lt Nat _ ((k_segE1.2.2.2.1.1) + 11) p2 ∧ @LT.lt Nat _ ((k_segE1.2.2.2.1.1) + 11) sel ∧ @LT.lt Nat _ ((k_segE1.2.2.2.1.1) + 11) dx ∧ @LT.lt Nat _ ((k_segE1.2.2.2.1.1) + 11) x := ⟨by omega, by omega, by omega, by omega, by have h1 := ltN lx; omega⟩
  refine Mine.by_op fun P9 bk9 => ?_
  obtain ⟨y1, y2, y3, y4, y5⟩ := hy5
  refine bk9 ?_; clear bk9 P9
  refine ret _ _ ((x, _) :: (dx, _) :: (sel, _) :: (p2, _) :: (p1, _) :: (k_segE1.2.2.2.1.2.2.1)) x _ F8 (perm_cells (add := [(x, _), (dx, _), (sel, _), (p2, _), (p1, _)]) (A := cellLed (k_segE1.2.2.2.1.1) (k_segE1.2.2.2.1.2.2.2)) (T := (k_segE1.2.2.2.1.2.2.1)) N8) (young_cons y5 (young_cons y4 (young_cons y3 (young_cons y2 (young_cons y1 hy))))) (fun p hp => .tail _ (.tail _ (.tail _ (.tail _ (.tail _ hp))))) rfl
    ⟨dx, sel, p1, p2, _, _, _, _, _, _, _, _, _, _, .head _, .tail _ (.head _), .tail _ (.tail _ (.head _)), .tail _ (.tail _ (.tail _ (.tail _ (.head _)))), .tail _ (.tail _ (.tail _ (.head _)))⟩
theorem segE1 (w : World) {mean : ExcName → Option Value} {mg mb : Str → Option Value} {A₀ : Around} {dp un : Nat} {gd : Option (List Code)} {fa : Addr} {cd : Value} {base g : Heap} {L : Addr} {m : Str → Option Value} {T : List (Addr × Obj)} {c : LawCells} {s : Shared} {h : Heap} {tk : Nat} {Q : Flow → Shared → Prop} {E : Value → Shared → Prop}
    (B : Below A₀ base [] g) (X : (Mine.hd.heap_1 w.params).In g) (TT : Top Mine.hd.view_1 (looseW Mine.hd.view_1 []) mean mg mb g) (hd : dp + 40 < recursionLimit) (hu : un + 8 * 40 < cLine)
    (F : Fr g L h m) (N : News g L h (cellLed L c ++ T)) (hy : Young L T)
    (ret : ∀ h' tk' T' x m', Fr g L h' m' → News g L h' (cellLed L c ++ T') → Young L T' → (∀ p ∈ T, p ∈ T') → m' (Str.ofString "order") = some (.ref x) → IsOrder T' x → Q .next { s with heap := h', toks := tk' }) : wpAny (model PySem.Challenge.rw_zo0012_01.row.prog w) (lawA w.params dp un gd L fa cd) (execs (((lawB w.params).drop 8).take 1) (lawEnv w.params L fa cd)) Q E { s with heap := h, toks := tk } :=
  pick_all k_segE1.eq_1 segE1_c ((w, mean, mg, mb), (A₀, dp, un, gd), (fa, cd, base, g), (L, m, T, c), (s, h, tk, Q), (E)) B X TT hd hu F N hy ret
end
-- G7
section
local macro_rules | `(tactic| walk_at $s:str) => `(tactic| k_extra $(Lean.Syntax.mkStrLit ("xG7:" ++ s.getString)))
theorem setup_G7 : True := by
  k_with "xG7:CompSrc" => (refine Mine.stop ?_)
  k_with "xG7:CompEnd" => (refine Mine.stop ?_)
  k_with "xG7:m:hide" => (have qB' := True.intro; have qD' := True.intro; have qF' := True.intro; have qFG' := True.intro; have qL' := True.intro; have qN' := True.intro; have qT' := True.intro; have qX' := True.intro; have qY' := True.intro; have qcells' := True.intro; have qd' := True.intro; have qfF := True.intro; have qg' := True.intro; have qh' := True.intro; have qh0' := True.intro; have qh1' := True.intro; have qhc' := True.intro; have qhd' := True.intro; have qhp := True.intro; have qhv' := True.intro; have qhz := True.intro; have qhz' := True.intro; have qjk' := True.intro; have qkj' := True.intro; have ql1 := True.intro; have ql2 := True.intro; have qlo' := True.intro; have qnE' := True.intro; have qo' := True.intro; have qo1' := True.intro; have qp := True.intro; have qtj' := True.intro; have qtk' := True.intro; have qtv' := True.intro; have qtx' := True.intro; have qvv' := True.intro; have qx' := True.intro; have qzz' := True.intro)
  k_with "xG7:m:bare" => (clear qB' qD' qF' qFG' qL' qN' qT' qX' qY' qcells' qd' qfF qg' qh' qh0' qh1' qhc' qhd' qhp qhv' qhz qhz' qjk' qkj' ql1 ql2 qlo' qnE' qo' qo1' qp qtj' qtk' qtv' qtx' qvv' qx' qzz')
  trivial
noncomputable def zeroS : Stat := ⟨0, 0, 0, 0, []⟩
noncomputable def s_segE2 (d : (World × (ExcName → Option Value) × (Str → Option Value) × (Str → Option Value)) × (Around × Nat × Nat × (Option (List Code))) × (Addr × Value × Heap × Heap) × (Addr × (Str → Option Value) × (List (Addr × Obj)) × LawCells) × (Shared × Heap × Nat × (Flow → Shared → Prop)) × ((Value → Shared → Prop) × (Option Value))) : Prop := ∀ (B : Below (d.2.1.1) (d.2.2.1.2.2.1) [] (d.2.2.1.2.2.2)) (X : (Mine.hd.heap_1 (d.1.1).params).In (d.2.2.1.2.2.2)) (TT : Top Mine.hd.view_1 (looseW Mine.hd.view_1 []) (d.1.2.1) (d.1.2.2.1) (d.1.2.2.2) (d.2.2.1.2.2.2)) (hd : (d.2.1.2.1) + 40 < recursionLimit) (hu : (d.2.1.2.2.1) + 8 * 40 < cLine) (F : Fr (d.2.2.1.2.2.2) (d.2.2.2.1.1) (d.2.2.2.2.1.2.1) (d.2.2.2.1.2.1)) (N : News (d.2.2.1.2.2.2) (d.2.2.2.1.1) (d.2.2.2.2.1.2.1) (cellLed (d.2.2.2.1.1) (d.2.2.2.1.2.2.2) ++ (d.2.2.2.1.2.2.1))) (hy : Young (d.2.2.2.1.1) (d.2.2.2.1.2.2.1)) (cS : (d.2.2.2.1.2.2.2).oS.data = .cell (d.2.2.2.2.2.2)) (ret : ∀ h' tk' oS T' aS a0, Fr (d.2.2.1.2.2.2) (d.2.2.2.1.1) h' (d.2.2.2.1.2.1) → News (d.2.2.1.2.2.2) (d.2.2.2.1.1) h' (cellLed (d.2.2.2.1.1) { (d.2.2.2.1.2.2.2) with oS := oS } ++ ((aS, listOf (List.toArray [.ref a0]) 0) :: T')) → Young (d.2.2.2.1.1) T' → (∀ p ∈ (d.2.2.2.1.2.2.1), p ∈ T') → LCg.Off1 aS T' → @LT.lt Nat _ ((d.2.2.2.1.1) + 11) aS → oS.data = .cell (some (.ref aS)) → StageAt (d.1.1) T' a0 (fun _ => zeroS) → (d.2.2.2.2.1.2.2.2) .next { (d.2.2.2.2.1.1) with heap := h', toks := tk' }), wpAny (model PySem.Challenge.rw_zo0012_01.row.prog (d.1.1)) (lawA (d.1.1).params (d.2.1.2.1) (d.2.1.2.2.1) (d.2.1.2.2.2) (d.2.2.2.1.1) (d.2.2.1.1) (d.2.2.1.2.1)) (execs (((lawB (d.1.1).params).drop 9).take 1) (lawEnv (d.1.1).params (d.2.2.2.1.1) (d.2.2.1.1) (d.2.2.1.2.1))) (d.2.2.2.2.1.2.2.2) (d.2.2.2.2.2.1) { (d.2.2.2.2.1.1) with heap := (d.2.2.2.2.1.2.1), toks := (d.2.2.2.2.1.2.2.1) }
@[irreducible] noncomputable def k_segE2 : (World × (ExcName → Option Value) × (Str → Option Value) × (Str → Option Value)) × (Around × Nat × Nat × (Option (List Code))) × (Addr × Value × Heap × Heap) × (Addr × (Str → Option Value) × (List (Addr × Obj)) × LawCells) × (Shared × Heap × Nat × (Flow → Shared → Prop)) × ((Value → Shared → Prop) × (Option Value)) := pick (by haveI := ne_World; haveI := ne_Around; haveI := ne_Shared; haveI := ne_Cells; exact inferInstance) s_segE2
theorem segE2_c : s_segE2 k_segE2 := by
  delta s_segE2
  intro B X TT hd hu F N hy cS ret
  walk_at "m:fill"
  simp only [cellLed, List.cons_append, List.nil_append] at N
  walk_at "m:body"
  k_steps
  (walk_at "m:hide"; rename_i h1 tk1 u1 u2 u3 hr F1 N1 kp; walk_at "m:bare")
  unfold Stop
  refine LCg.CompSrc.range (n := 3) (by rfl) F1 (news := cellLed (k_segE2.2.2.2.1.1) (k_segE2.2.2.2.1.2.2.2) ++ (k_segE2.2.2.2.1.2.2.1)) N1 hr (by decide) (by decide) (by decide) ?_
  intro g'
  refine comp_inv (fun i ys news₁ => ∃ Ti, news₁ = cellLed (k_segE2.2.2.2.1.1) (k_segE2.2.2.2.1.2.2.2) ++ Ti ∧ (∀ p ∈ (k_segE2.2.2.2.1.2.2.1), p ∈ Ti) ∧ Young (k_segE2.2.2.2.1.1) Ti ∧ ∃ rs : List Addr, ys = rs.map Value.ref ∧ rs.length = i ∧ ∀ r a', rs[r]? = some a' → IsStat (k_segE2.1.1) Ti a' zeroS) (by refine ⟨(k_segE2.2.2.2.1.2.2.1), rfl, fun _ hp => hp, hy, [], rfl, rfl, ?_⟩; intro r a' hra; rw [List.getElem?_nil] at hra; cases hra) ?_ ?_
  · intro i v ys news₁ I oI C oC D m₂ h2 tk2 E' hi hP hyl qz169 hC hx F2 N2 off ne
    refine Mine.by_op fun P9 bk9 => ?_
    obtain ⟨Ti, rfl, hTi, hyi, rs, rfl, hrs, hst⟩ := qz169
    refine bk9 ?_; clear bk9 P9
    replace N2 : News (k_segE2.2.2.1.2.2.2) (k_segE2.2.2.2.1.1) h2 ((I, oI) :: (C, oC) :: (D, LCg.lst (rs.map Value.ref)) :: (cellLed (k_segE2.2.2.2.1.1) (k_segE2.2.2.2.1.2.2.2) ++ Ti)) := N2
    have N3 := N2
    simp only [cellLed, List.cons_append, List.nil_append] at N3
    clear F1 N1 hr kp N2
    k_steps
    (walk_at "m:hide"; rename_i dA _ oA loA hsA fsA _ _ ld DA h3 F3 N4 lD; walk_at "m:bare")
    unfold Stop
    refine Mine.by_op fun P9 bk9 => ?_
    obtain ⟨d1, d2, d3, d4, _⟩ := ld
    refine bk9 ?_; clear bk9 P9
    refine Mine.by_op fun P9 bk9 => ?_
    obtain ⟨e0, e1, e2, e3, e4, _⟩ := lD
    refine bk9 ?_; clear bk9 P9
    have hxx : ∃ t1 t2 t3 t4 n, News (k_segE2.2.2.1.2.2.2) (k_segE2.2.2.2.1.1) h3 ((DA, tupObj [.int 0 t1, .int 0 t2, .int 0 t3, .int 0 t4, .ref dA] n) :: (dA, oA) :: (I, oI) :: (C, oC) :: (D, LCg.lst (rs.map Value.ref)) :: (cellLed (k_segE2.2.2.2.1.1) (k_segE2.2.2.2.1.2.2.2) ++ Ti)) := ⟨_, _, _, _, _, N4⟩
    refine Mine.by_op fun P9 bk9 => ?_
    obtain ⟨t1, t2, t3, t4, nn, N5⟩ := hxx
    refine bk9 ?_; clear bk9 P9
    refine LCg.CompEnd.intro F3 N5 (cellLed (k_segE2.2.2.2.1.1) (k_segE2.2.2.2.1.2.2.2) ++ ((DA, tupObj [.int 0 t1, .int 0 t2, .int 0 t3, .int 0 t4, .ref dA] nn) :: (dA, oA) :: Ti)) ?_ ?_ trivial ⟨(DA, tupObj [.int 0 t1, .int 0 t2, .int 0 t3, .int 0 t4, .ref dA] nn) :: (dA, oA) :: Ti, rfl, fun p hp => .tail _ (.tail _ (hTi p hp)), young_cons (by omega) (young_cons (by omega) hyi), rs ++ [DA], by rw [List.map_append]; rfl, by rw [List.length_append, hrs]; rfl, ?_⟩
    · intro p hp
      rcases List.mem_cons.mp hp with hp | hp
      · rw [hp]; exact .tail _ (.tail _ (.head _))
      · rcases List.mem_cons.mp hp with hp | hp
        · rw [hp]; exact .tail _ (.tail _ (.tail _ (.head _)))
        · rcases List.mem_cons.mp hp with hp | hp
          · rw [hp]; exact .tail _ (.tail _ (.tail _ (.tail _ (.head _))))
          · rcases List.mem_append.mp hp with hp | hp
            · exact .tail _ (.tail _ (.tail _ (.tail _ (.tail _ (List.mem_append_left _ hp)))))
            · rcases List.mem_cons.mp hp with hp | hp
              · rw [hp]; exact .head _
              · rcases List.mem_cons.mp hp with hp | hp
                · rw [hp]; exact .tail _ (.head _)
                · exact .tail _ (.tail _ (.tail _ (.tail _ (.tail _ (List.mem_append_right _ hp)))))
    · refine LCg.Off3.of fun p hp => ?_
      rcases List.mem_append.mp hp with hp | hp
      · exact LCg.Off3.mem off p (List.mem_append_left _ hp)
      · rcases List.mem_cons.mp hp with hp | hp
        · rw [hp]; exact ⟨Nat.ne_of_gt e1, Nat.ne_of_gt e2, Nat.ne_of_gt e3⟩
        · rcases List.mem_cons.mp hp with hp | hp
          · rw [hp]; exact ⟨Nat.ne_of_gt d1, Nat.ne_of_gt d2, Nat.ne_of_gt d3⟩
          · exact LCg.Off3.mem off p (List.mem_append_right _ hp)
    · intro d a' hd'
      by_cases hdi : d < i
      · rw [List.getElem?_append_left (by omega)] at hd'
        exact isStat_mono (hst d a' hd') fun p hp => .tail _ (.tail _ hp)
      · have hdl : d < (rs ++ [DA]).length := (List.getElem?_eq_some_iff.mp hd').1
        rw [List.length_append, hrs] at hdl
        have e1 : [DA].length = 1 := rfl
        refine Mine.by_op fun P9 bk9 => ?_
        obtain rfl : d = i := by omega
        refine bk9 ?_; clear bk9 P9
        rw [List.getElem?_append_right (by omega), hrs, Nat.sub_self] at hd'
        cases hd'
        exact ⟨t1, t2, t3, t4, dA, nn, oA, .head _, .tail _ (.head _), ⟨_, hsA, fsA⟩, loA⟩
  · intro ys news' hyl qz39
    refine Mine.by_op fun P9 bk9 => ?_
    obtain ⟨Ti, rfl, hTi, hyi, rs, rfl, hrs, hst⟩ := qz39
    refine bk9 ?_; clear bk9 P9
    unfold LCg.FinE
    intro D h2 tk2 F2 N2 o1
    have hyD : Young (k_segE2.2.2.2.1.1) ((D, LCg.lst (rs.map Value.ref)) :: Ti) := young_off (c := (k_segE2.2.2.2.1.2.2.2)) o1 hyi
    have hDT : LCg.Off1 D Ti := off1_of fun p hp => off1_mem o1 p (List.mem_append_right _ hp)
    refine Mine.by_op fun P9 bk9 => ?_
    obtain ⟨o11, o10, o9, o8, o7, o6, o5, o4, o3, o2, o1, o0⟩ := o1
    refine bk9 ?_; clear bk9 P9
    dsimp only at o11 o10 o9 o8 o7 o6 o5 o4 o3 o2 o1
    clear F1 N1 hr kp
    simp only [cellLed, List.cons_append, List.nil_append] at N2
    (try dsimp only)
    k_steps
    (walk_at "m:hide"; rename_i l2 h3 lD h4 oS F5 N5 dS; walk_at "m:bare")
    refine Mine.by_op fun P9 bk9 => ?_
    obtain ⟨ld, l11, l10, l9, l8, l7, l6, l5, l4, l3, l2', l1, lT⟩ := lD
    refine bk9 ?_; clear bk9 P9
    refine ret _ _ oS ((D, LCg.lst (rs.map Value.ref)) :: Ti) l2 D F5 (perm_cells (add := [(l2, _), (D, _)]) (A := cellLed (k_segE2.2.2.2.1.1) { (k_segE2.2.2.2.1.2.2.2) with oS := oS }) (T := Ti) N5) hyD (fun p hp => .tail _ (hTi p hp)) ⟨Nat.ne_of_lt ld, off1_of (allLt_ne lT)⟩ (by omega) dS ⟨rs, _, .head _, hrs, fun r a' hr => isStat_mono (hst r a' hr) fun p hp => .tail _ hp⟩
theorem segE2 (w : World) {mean : ExcName → Option Value} {mg mb : Str → Option Value} {A₀ : Around} {dp un : Nat} {gd : Option (List Code)} {fa : Addr} {cd : Value} {base g : Heap} {L : Addr} {m : Str → Option Value} {T : List (Addr × Obj)} {c : LawCells} {s : Shared} {h : Heap} {tk : Nat} {Q : Flow → Shared → Prop} {E : Value → Shared → Prop}
    (B : Below A₀ base [] g) (X : (Mine.hd.heap_1 w.params).In g) (TT : Top Mine.hd.view_1 (looseW Mine.hd.view_1 []) mean mg mb g) (hd : dp + 40 < recursionLimit) (hu : un + 8 * 40 < cLine)
    (F : Fr g L h m) (N : News g L h (cellLed L c ++ T)) (hy : Young L T) {vS : Option Value} (cS : c.oS.data = .cell vS)
    (ret : ∀ h' tk' oS T' aS a0, Fr g L h' m → News g L h' (cellLed L { c with oS := oS } ++ ((aS, listOf (List.toArray [.ref a0]) 0) :: T')) → Young L T' → (∀ p ∈ T, p ∈ T') → LCg.Off1 aS T' → @LT.lt Nat _ (L + 11) aS → oS.data = .cell (some (.ref aS)) → StageAt w T' a0 (fun _ => zeroS) → Q .next { s with heap := h', toks := tk' }) : wpAny (model PySem.Challenge.rw_zo0012_01.row.prog w) (lawA w.params dp un gd L fa cd) (execs (((lawB w.params).drop 9).take 1) (lawEnv w.params L fa cd)) Q E { s with heap := h, toks := tk } :=
  pick_all k_segE2.eq_1 segE2_c ((w, mean, mg, mb), (A₀, dp, un, gd), (fa, cd, base, g), (L, m, T, c), (s, h, tk, Q), (E, vS)) B X TT hd hu F N hy cS ret
end
-- G9
section
/-- what a walk has written: its rooms, the newest first -/
noncomputable def wst (y : Nat → Nat) : List Nat → Stat
  | r :: u :: l => ⟨(dstat y (3 * u + r)).cc + (wst y (u :: l)).cc, (dstat y (3 * u + r)).nc + (wst y (u :: l)).nc, (dstat y (3 * u + r)).tt + (wst y (u :: l)).tt, (dstat y (3 * u + r)).ct + (wst y (u :: l)).ct, bump (wst y (u :: l)).cs (nm (3 * u + r)) 1⟩
  | _ => zeroS
/-- the marks of a walk -/
noncomputable def wmk (y : Nat → Nat) : List Nat → Nat
  | r :: u :: l => mk (y (3 * u + r)) + wmk y (u :: l)
  | _ => 0
theorem wst_ct (y : Nat → Nat) : ∀ l, (wst y l).ct = (wmk y l : Int)
  | [] => rfl
  | [_] => rfl
  | r :: u :: l => by
    have ih := wst_ct y (u :: l)
    show (mk (y (3 * u + r)) : Int) + (wst y (u :: l)).ct = ((mk (y (3 * u + r)) + wmk y (u :: l) : Nat) : Int)
    rw [ih, Int.natCast_add]
theorem wmk_le (y : Nat → Nat) : ∀ l, wmk y l ≤ 18 * l.length
  | [] => Nat.le_refl _
  | [_] => Nat.zero_le _
  | r :: u :: l => by
    have ih := wmk_le y (u :: l)
    have h := mk_le (y := y (3 * u + r))
    show mk (y (3 * u + r)) + wmk y (u :: l) ≤ 18 * (l.length + 1 + 1)
    have e : (u :: l).length = l.length + 1 := rfl
    lia
theorem wst_le (y : Nat → Nat) : ∀ l, 0 ≤ (wst y l).cc ∧ (wst y l).cc ≤ l.length ∧ 0 ≤ (wst y l).nc ∧ (wst y l).nc ≤ l.length ∧ 0 ≤ (wst y l).tt ∧ (wst y l).tt ≤ 3 * l.length ∧ (wst y l).cs.length ≤ l.length
  | [] => ⟨Int.le_refl _, Int.le_refl _, Int.le_refl _, Int.le_refl _, Int.le_refl _, Int.le_refl _, Nat.le_refl _⟩
  | [_] => by
    show (0 : Int) ≤ 0 ∧ (0 : Int) ≤ ((0 + 1 : Nat) : Int) ∧ (0 : Int) ≤ 0 ∧ (0 : Int) ≤ ((0 + 1 : Nat) : Int) ∧ (0 : Int) ≤ 0 ∧ (0 : Int) ≤ 3 * ((0 + 1 : Nat) : Int) ∧ 0 ≤ 0 + 1
    decide
  | r :: u :: l => by
    refine Mine.by_op fun P9 bk9 => ?_
    obtain ⟨h1, h2, h3, h4, h5, h6, h7⟩ := wst_le y (u :: l)
    refine bk9 ?_; clear bk9 P9
    have h := txt_len (y (3 * u + r))
    have e : ((u :: l).length : Int) = l.length + 1 := rfl
    have e' : ((r :: u :: l).length : Int) = l.length + 1 + 1 := rfl
    have b := kdpPut_len (wst y (u :: l)).cs (nm (3 * u + r)) (kdpLook (wst y (u :: l)).cs (nm (3 * u + r)) 0 + 1)
    rw [e']
    show 0 ≤ 1 + (wst y (u :: l)).cc ∧ 1 + (wst y (u :: l)).cc ≤ _ ∧ 0 ≤ 1 + (wst y (u :: l)).nc ∧ 1 + (wst y (u :: l)).nc ≤ _ ∧ 0 ≤ ((txt (y (3 * u + r))).length : Int) + (wst y (u :: l)).tt ∧ ((txt (y (3 * u + r))).length : Int) + (wst y (u :: l)).tt ≤ _ ∧ (bump (wst y (u :: l)).cs (nm (3 * u + r)) 1).length ≤ l.length + 1 + 1
    unfold bump
    refine ⟨by lia, by lia, by lia, by lia, by lia, by lia, ?_⟩
    have e2 : (u :: l).length = l.length + 1 := rfl
    lia
/-- the preconditions of add_func_stats -/
theorem afs_pre (y : Nat → Nat) {l : List Nat} (d : Nat) (hl : l.length ≤ 5) : (wst y l).cs.length ≤ 1000 ∧ ∀ z ∈ [(wst y l).cc, (wst y l).nc, (wst y l).tt, (wst y l).ct, (dstat y d).cc, (dstat y d).nc, (dstat y d).tt, (dstat y d).ct], 0 ≤ z ∧ z ≤ 1000 := by
  refine Mine.by_op fun P9 bk9 => ?_
  obtain ⟨h1, h2, h3, h4, h5, h6, h7⟩ := wst_le y l
  refine bk9 ?_; clear bk9 P9
  have hw := wmk_le y l
  have hm := mk_le (y := y d)
  have ht := txt_len (y d)
  have ec := wst_ct y l
  have e1 : (dstat y d).cc = 1 := rfl
  have e2 : (dstat y d).nc = 1 := rfl
  have e3 : (dstat y d).tt = ((txt (y d)).length : Int) := rfl
  have e4 : (dstat y d).ct = (mk (y d) : Int) := rfl
  refine ⟨by lia, ?_⟩
  simp only [List.forall_mem_cons, List.not_mem_nil, false_implies, implies_true, and_true]
  rw [e1, e2, e3, e4, ec]
  refine ⟨?_, ?_, ?_, ?_, ?_, ?_, ?_, ?_⟩ <;> constructor <;> lia
/-- one stage on: each room keeps a best walk -/
noncomputable def Step (y : Nat → Nat) (ws ws' : Nat → List Nat) : Prop := ∀ r, r < 3 → ∃ u, u < 3 ∧ ws' r = r :: ws u ∧ ∀ v, v < 3 → wmk y (r :: ws v) ≤ wmk y (r :: ws u)
section
variable {prog : Program} {w : World} {A : Around} {E : Value → Shared → Prop} {s : Shared} {h₀ : Heap} {L l : Addr} {news : List (Addr × Obj)}
theorem sub_refs {value slice : Expr} {rs : List Addr} {n : Nat} {c : Nat} {k : Int} {j : Nat} {u : Tok} {Q : Value → Shared → Prop} (hl : rs.length = n) (N : News h₀ L s.heap news) (hm : (l, listOf (List.toArray (rs.map Value.ref)) c) ∈ news)
    (hj : (j : Int) = k) (hk : j < n) (hn : n ≤ 1000) (h : ∀ a, rs[j]? = some a → Q (.ref a) s)
    (hs : subscripted slice false (.ref l) (.int k u) = operate [.ref l, .int k u] (getItem (.ref l) (.int k u))) :
    wpAny (model prog w) A (subscriptTail value slice (.ref l) (.int k u)) Q E s := by
  refine Mine.by_op fun P9 bk9 => ?_
  obtain ⟨a, e⟩ : ∃ a, rs[j]? = some a := ⟨rs[j], List.getElem?_eq_getElem (by lia)⟩
  refine bk9 ?_; clear bk9 P9
  refine sub_listN N hm (by lia) (by lia) ?_ (h _ e) hs
  rw [← hj, Int.toNat_natCast, List.getElem?_map, e]; rfl
end
theorem doors_up {w : World} {add T : List (Addr × Obj)} {a : Addr} {y : Nat → Nat} (h : Doors w T a y) : Doors w (add ++ T) a y := by
  refine Mine.by_op fun P9 bk9 => ?_
  obtain ⟨rs, n, h1, h2, h3⟩ := h
  refine bk9 ?_; clear bk9 P9
  exact ⟨rs, n, List.mem_append_right _ h1, h2, fun d a' hd => isStat_mono (h3 d a' hd) fun p hp => List.mem_append_right _ hp⟩
section
variable {prog : Program} {w : World} {A : Around} {E : Value → Shared → Prop} {s : Shared} {h₀ : Heap} {L l : Addr} {news : List (Addr × Obj)}
theorem sub_refA {value slice : Expr} {rs : List Addr} {c : Nat} {k : Int} {j : Nat} {u : Tok} {a : Addr} {Q : Value → Shared → Prop} (N : News h₀ L s.heap news) (hm : (l, listOf (List.toArray (rs.map Value.ref)) c) ∈ news)
    (hj : (j : Int) = k) (hn : j ≤ 1000) (e : rs[j]? = some a) (h : Q (.ref a) s)
    (hs : subscripted slice false (.ref l) (.int k u) = operate [.ref l, .int k u] (getItem (.ref l) (.int k u))) :
    wpAny (model prog w) A (subscriptTail value slice (.ref l) (.int k u)) Q E s := by
  refine sub_listN N hm (by lia) (by lia) ?_ h hs
  rw [← hj, Int.toNat_natCast, List.getElem?_map, e]; rfl
end
noncomputable def fBs : List Stmt → Nat → List Stmt
  | (.For _ _ b _ _) :: _, 0 => b
  | _ :: l, n + 1 => fBs l n
  | _, _ => []
/-- the bodies of law's loops -/
noncomputable def lawSt (P : Params) : List Stmt := fBs (lawB P) 11
noncomputable def lawRm (P : Params) : List Stmt := fBs (lawSt P) 1
noncomputable def lawU (P : Params) : List Stmt := fBs (lawRm P) 2
noncomputable def Apart (add T : List (Addr × Obj)) : Prop := ∀ p ∈ add, ∀ q ∈ T, q.1 ≠ p.1
theorem add_wb {prog : Program} {w : World} {A : Around} {E : Value → Shared → Prop} {s : Shared} {x : List UInt8} {u : UInt8} {t v : Tok} {Q : Value → Shared → Prop} (hsz : x.length ≤ 100) (h : ∀ t' k, Q (.bytes (u :: x).toArray t') { s with toks := k }) :
    wpAny (model prog w) A (binaryOp .Add (.bytes [u].toArray t) (.bytes x.toArray v)) Q E s :=
  bytes_add_K (by rw [List.size_toArray, List.size_toArray]; show 1 + x.length ≤ _; lia) rfl h
theorem execs_app_eq (env : Env) (l2 : List Stmt) : ∀ l1 : List Stmt, execs (l1 ++ l2) env = (execs l1 env >>= fun f => match f with | .next => execs l2 env | f => pure f)
  | [] => by rw [execs_nil, pure_bind]; rfl
  | st :: l1 => by
    rw [List.cons_append, execs_cons, execs_cons, bind_assoc]
    refine congrArg _ (funext fun f => ?_)
    cases f with
    | next => exact execs_app_eq env l2 l1
    | _ => rw [pure_bind]
theorem execs_app {prog : Program} {w : World} {A : Around} {E : Value → Shared → Prop} {env : Env} {Q : Flow → Shared → Prop} {l1 l2 : List Stmt} {s : Shared}
    (h : wpAny (model prog w) A (execs l1 env) (fun f s' => match f with | .next => wpAny (model prog w) A (execs l2 env) Q E s' | f => Q f s') E s) : wpAny (model prog w) A (execs (l1 ++ l2) env) Q E s := by
  rw [execs_app_eq]
  refine wpAny_bind (wpAny_mono h (fun f s' h' => ?_) fun _ _ e => e)
  cases f with
  | next => exact h'
  | _ => exact wpAny_pure h'
theorem execs_first {prog : Program} {w : World} {A : Around} {E : Value → Shared → Prop} {env : Env} {Q : Flow → Shared → Prop} {l : List Stmt} {s : Shared} (n : Nat)
    (h : wpAny (model prog w) A (execs (l.take n) env) (fun f s' => match f with | .next => wpAny (model prog w) A (execs (l.drop n) env) Q E s' | f => Q f s') E s) : wpAny (model prog w) A (execs l env) Q E s := by
  rw [← List.take_append_drop n l]
  exact execs_app h
theorem execs_from {prog : Program} {w : World} {A : Around} {E : Value → Shared → Prop} {env : Env} {Q : Flow → Shared → Prop} {l : List Stmt} {s : Shared} (m n k : Nat) (e : m + n = k)
    (h : wpAny (model prog w) A (execs ((l.drop m).take n) env) (fun f s' => match f with | .next => wpAny (model prog w) A (execs (l.drop k) env) Q E s' | f => Q f s') E s) : wpAny (model prog w) A (execs (l.drop m) env) Q E s := by
  refine execs_first n ?_
  rw [List.drop_drop, e]
  exact h
theorem no_at {α : Type} {P : Nat → α → Prop} : ∀ (q : Nat) (a : α), ([] : List α)[q]? = some a → P q a := fun q a e => by rw [List.getElem?_nil] at e; cases e
theorem apart_nil {T : List (Addr × Obj)} : Apart [] T := fun _ hp => nomatch hp
theorem young_nil {L : Addr} : Young L [] := fun _ hp => nomatch hp
theorem apart_cons {D : Addr} {o : Obj} {X T : List (Addr × Obj)} (h : ∀ q ∈ T, q.1 ≠ D) (k : Apart X T) : Apart ((D, o) :: X) T := fun p hp q hq => by
  rcases List.mem_cons.mp hp with hp | hp
  · rw [hp]; exact h q hq
  · exact k p hp q hq
theorem apart_lt {X Y T : List (Addr × Obj)} (h : ∀ q ∈ T, ∀ p ∈ X, q.1 < p.1) (k : Apart Y T) : Apart (X ++ Y) T := fun p hp q hq => by
  rcases List.mem_append.mp hp with hp | hp
  · exact Nat.ne_of_lt (h q hq p hp)
  · exact k p hp q hq
theorem mem_shuffle {I C D : Addr × Obj} {X A Ti T : List (Addr × Obj)} : ∀ p ∈ I :: C :: D :: (A ++ ((X ++ Ti) ++ T)), p ∈ X ++ (I :: C :: D :: (A ++ (Ti ++ T))) := by
  intro p
  simp only [List.mem_append, List.mem_cons]
  rintro (h | h | h | h | (h | h) | h) <;> simp [h]
theorem off3_add {I C D : Addr} {oI oC oD : Obj} {X A Ti T : List (Addr × Obj)} (off : LCg.Off3 I C D (A ++ (Ti ++ T))) (lt : ∀ q ∈ (I, oI) :: (C, oC) :: (D, oD) :: (A ++ (Ti ++ T)), ∀ p ∈ X, q.1 < p.1) : LCg.Off3 I C D (A ++ ((X ++ Ti) ++ T)) := by
  refine LCg.Off3.of fun p hp => ?_
  rcases List.mem_append.mp hp with hp | hp
  · exact LCg.Off3.mem off p (List.mem_append_left _ hp)
  · rcases List.mem_append.mp hp with hp | hp
    · rcases List.mem_append.mp hp with hp | hp
      · exact ⟨Nat.ne_of_gt (lt _ (.head _) p hp), Nat.ne_of_gt (lt _ (.tail _ (.head _)) p hp), Nat.ne_of_gt (lt _ (.tail _ (.tail _ (.head _))) p hp)⟩
      · exact LCg.Off3.mem off p (List.mem_append_right _ (List.mem_append_left _ hp))
    · exact LCg.Off3.mem off p (List.mem_append_right _ (List.mem_append_right _ hp))
theorem young_lt {L : Addr} {X Ti R : List (Addr × Obj)} {c : LawCells} (lt : ∀ q ∈ cellLed L c ++ R, ∀ p ∈ X, q.1 < p.1) (h : Young L Ti) : Young L (X ++ Ti) := fun p hp => by
  rcases List.mem_append.mp hp with hp | hp
  · exact .inr (lt (L + 11, c.oQ) (.head _) p hp)
  · exact h p hp
theorem lst3 {vs : List Value} {n : Nat} (h : vs.length = n) : LCg.lst vs = listOf (List.toArray vs) n := by subst h; rfl
theorem order_mono {T T' : List (Addr × Obj)} {x : Addr} (h : IsOrder T x) (hs : ∀ p ∈ T, p ∈ T') : IsOrder T' x := by
  refine Mine.by_op fun P9 bk9 => ?_
  obtain ⟨dx, sel, p1, p2, z, t0, t1, t2, t3, t4, n1, n2, n3, n4, h1, h2, h3, h4, h5⟩ := h
  refine bk9 ?_; clear bk9 P9
  exact ⟨dx, sel, p1, p2, z, t0, t1, t2, t3, t4, n1, n2, n3, n4, hs _ h1, hs _ h2, hs _ h3, hs _ h4, hs _ h5⟩
theorem turn_off {L I : Addr} {c : LawCells} {Y Ti T : List (Addr × Obj)} (off : ∀ p ∈ cellLed L c ++ (Ti ++ T), p.1 ≠ I) (hI : ∀ p ∈ Y, I < p.1) : ∀ p ∈ cellLed L c ++ ((Y ++ Ti) ++ T), p.1 ≠ I := fun p hp => by
  rcases List.mem_append.mp hp with hp | hp
  · exact off p (List.mem_append_left _ hp)
  · rcases List.mem_append.mp hp with hp | hp
    · rcases List.mem_append.mp hp with hp | hp
      · exact Nat.ne_of_gt (hI p hp)
      · exact off p (List.mem_append_right _ (List.mem_append_left _ hp))
    · exact off p (List.mem_append_right _ (List.mem_append_right _ hp))
/-- the new objects Y of a turn stand in what there is -/
theorem turn_sub {L I : Addr} {oI : Obj} {c : LawCells} {Y Ti T all : List (Addr × Obj)} (h1 : ∀ p ∈ Y, p ∈ all) (h2 : ∀ p ∈ (I, oI) :: (cellLed L c ++ (Ti ++ T)), p ∈ all) : ∀ p ∈ (I, oI) :: (cellLed L c ++ ((Y ++ Ti) ++ T)), p ∈ all := fun p hp => by
  rcases List.mem_cons.mp hp with hp | hp
  · exact h2 p (hp ▸ .head _)
  · rcases List.mem_append.mp hp with hp | hp
    · exact h2 p (.tail _ (List.mem_append_left _ hp))
    · rcases List.mem_append.mp hp with hp | hp
      · rcases List.mem_append.mp hp with hp | hp
        · exact h1 p hp
        · exact h2 p (.tail _ (List.mem_append_right _ (List.mem_append_left _ hp)))
      · exact h2 p (.tail _ (List.mem_append_right _ (List.mem_append_right _ hp)))
theorem all_one {p : Addr × Obj} {P : Addr × Obj → Prop} (h : P p) : ∀ q ∈ [p], P q := fun q hq => by rw [List.mem_singleton.mp hq]; exact h
theorem all_two {p p' : Addr × Obj} {P : Addr × Obj → Prop} (h : P p) (h' : P p') : ∀ q ∈ [p, p'], P q := fun q hq => by
  rcases List.mem_cons.mp hq with e | e
  · rw [e]; exact h
  · rw [List.mem_singleton.mp e]; exact h'
theorem cmpv_neg {a b : Int} {u k : Nat} (h : k < u) : (cmpv a (u : Int) b (k : Int) < 0 → b ≤ a) ∧ (¬ cmpv a (u : Int) b (k : Int) < 0 → a ≤ b) := by
  unfold cmpv
  refine ⟨fun x => ?_, fun x => ?_⟩
  · by_cases h1 : a < b
    · rw [if_pos h1] at x; lia
    · lia
  · by_cases h1 : a < b
    · lia
    · rw [if_neg h1] at x
      by_cases h2 : b < a
      · rw [if_pos h2] at x; exact absurd (show (-1 : Int) < 0 by decide) x
      · lia
theorem at_of_len {α : Type} {l : List α} {i n : Nat} (h : l.length = n) (hi : i < n) : ∃ a, l[i]? = some a := ⟨l[i], List.getElem?_eq_getElem (by lia)⟩
/-- the kept walks of one stage: room q's begins with q, k rooms behind it -/
noncomputable def Walks (ws : Nat → List Nat) (k : Nat) : Prop := ∀ q, q < 3 → ∃ l, ws q = q :: l ∧ l.length = k
/-- the stages' list, its rows in T -/
noncomputable def Stages (w : World) (y : Nat → Nat) (T : List (Addr × Obj)) (ras : List Addr) (ws : Nat → Nat → List Nat) : Prop := ∀ i a, ras[i]? = some a → StageAt w T a (fun q => wst y (ws i q))
theorem stages_mono {w : World} {y : Nat → Nat} {T T' : List (Addr × Obj)} {ras : List Addr} {ws : Nat → Nat → List Nat} (h : Stages w y T ras ws) (hs : ∀ p ∈ T, p ∈ T') : Stages w y T' ras ws := fun i a e => stageAt_mono (h i a e) hs
theorem doors_mono {w : World} {T T' : List (Addr × Obj)} {a : Addr} {y : Nat → Nat} (h : Doors w T a y) (hs : ∀ p ∈ T, p ∈ T') : Doors w T' a y := by
  refine Mine.by_op fun P9 bk9 => ?_
  obtain ⟨rs, n, h1, h2, h3⟩ := h
  refine bk9 ?_; clear bk9 P9
  exact ⟨rs, n, hs _ h1, h2, fun d a' hd => isStat_mono (h3 d a' hd) hs⟩
end
-- PL
section
open Sem (wp)
section
variable {α β : Type} {M : Model} {A : Around} {E : Value → Shared → Prop} {s : Shared}
theorem wpP_execs_app {prog : Program} {w : World} {env : Env} {Q : Flow → Shared → Prop} {l1 l2 : List Stmt}
    (h : wpP (model prog w) A (execs l1 env) (fun f s' => match f with | .next => wpP (model prog w) A (execs l2 env) Q E s' | f => Q f s') E s) : wpP (model prog w) A (execs (l1 ++ l2) env) Q E s := by
  rw [execs_app_eq]
  refine wpP_bind (wpP_mono h (fun f s' h' => ?_) fun _ _ e => e)
  cases f with
  | next => exact h'
  | _ => exact wpP_pure h'
theorem wpP_execs_first {prog : Program} {w : World} {env : Env} {Q : Flow → Shared → Prop} {l : List Stmt} (n : Nat)
    (h : wpP (model prog w) A (execs (l.take n) env) (fun f s' => match f with | .next => wpP (model prog w) A (execs (l.drop n) env) Q E s' | f => Q f s') E s) : wpP (model prog w) A (execs l env) Q E s := by
  rw [← List.take_append_drop n l]
  exact wpP_execs_app h
theorem wpP_execs_from {prog : Program} {w : World} {env : Env} {Q : Flow → Shared → Prop} {l : List Stmt} (m n k : Nat) (e : m + n = k)
    (h : wpP (model prog w) A (execs ((l.drop m).take n) env) (fun f s' => match f with | .next => wpP (model prog w) A (execs (l.drop k) env) Q E s' | f => Q f s') E s) : wpP (model prog w) A (execs (l.drop m) env) Q E s := by
  refine wpP_execs_first n ?_
  rw [List.drop_drop, e]
  exact h
theorem wpP_execs_one {env : Env} {Q : Flow → Shared → Prop} {st : Stmt} (h : wpP M A (exec st env) Q E s) : wpP M A (execs [st] env) Q E s := by
  rw [execs_cons]
  refine wpP_bind (wpP_mono h (fun f s' h' => ?_) fun _ _ e => e)
  cases f <;> exact wpP_pure h'
end
section
variable {prog : Program} {w : World} {A : Around} {E : Value → Shared → Prop} {s : Shared} {R : Result → Shared → Prop}
theorem codeP_func {body : List Stmt} {env : Env}
    (h : wpP (model prog w) (A.deeper env) (execs body env) (fun f s' => R (.ok (.ret (match f with | .ret v => v | _ => .none))) s')
      (fun e s' => wpAny (model prog w) (A.deeper env) (leaving env e) (fun _ s'' => R (.error e) s'') (fun e' s'' => R (.error e') s'') s') s) : codeP (model prog w) A (.func body env) R s := by
  refine codeP_of_tree ?_
  show wpP _ (A.deeper env) (do point; match ← (execs body env).onRaise (leaving env) with | .ret v => ret v | _ => ret .none) _ _ s
  refine wpP_bindA (wpAny_point (wpP_bind (wpP_onRaise (wpP_mono h (fun f s' h' => ?_) fun _ _ h' => h'))))
  cases f <;> exact wpP_pure h'
theorem codeP_call_fn {a : Addr} {args : Args} {o : Obj} {fd : FuncData} {body : List Stmt} (hroom : A.depth < recursionLimit) (ho : s.heap.get? a = some o) (hd' : o.data = .func fd) (hco : fd.scope.isCoroutine = false) (hgen : fd.scope.isGenerator = false)
    (hbody : fd.body = .stmts body) (hcd : s.heap.CodeRec fd.code fd.qualname)
    (h : wpAny (model prog w) A.in1 (bindArgs fd args) (fun binds s₁ => wpAny (model prog w) A.in1 (newFunctionEnv fd.scope fd.globals fd.closure binds (fd.qualname ++ ".<locals>.") (some a) fd.code none fd.builtins)
        (fun env s₂ => s₂.heap.NoLimit ∧ codeP (model prog w) A (.func body env) R s₂) (fun e s' => R (.error e) s') s₁) (fun e s' => R (.error e) s') s) : codeP (model prog w) A (.call (.ref a) args) R s := by
  refine codeP_of_tree (wpP_of ?_)
  show wpAny _ A.in1 (callAny (.ref a) args) _ _ s
  refine Mine.by_op fun P9 bk9 => ?_
  obtain ⟨c, oc, vs, tq, hc, hoc, hdc, hq⟩ := hcd
  refine bk9 ?_; clear bk9 P9
  rw [hc] at h
  simp only [callAny]
  refine wpAny_bind (wpAny_load ho ?_)
  simp only [hd', callFunction, hco, hgen, hbody, hc]
  refine wpAny_bind (m := field (.ref c) 1) (wpAny_field hoc hdc hq (wpAny_bind (wpAny_pure (wpAny_bind (wpAny_mono h (fun binds s₁ h₁ => ?_) fun _ _ e => e)))))
  exact wpAny_bind (wpAny_mono h₁ (fun env s₂ h₂ => wpAny_bind (wpAny_enterFrame h₂.1 hroom (wpAny_pure ⟨rfl, rfl, h₂.2⟩))) fun _ _ e => e)
end
end
-- PL2
section
open Sem (wp)
section
variable {α : Type} {M : Model} {A : Around} {E : Value → Shared → Prop} {s : Shared} {env : Env}
theorem wpP_keep {vs : List Value} {m : Sem α} {Q : α → Shared → Prop} (h : wpP M A m Q E s) : wpP M A (m.keep vs) Q E s := fun Γ p hΓ g => by rw [Sem.wp_keep]; exact h Γ p hΓ g
theorem wpP_operate {vs : List Value} {m : Sem Value} {Q : Value → Shared → Prop} (h : wpP M A m Q E s) : wpP M A (operate vs m) Q E s := fun Γ p hΓ g => by rw [Sem.wp_operate]; exact h Γ p hΓ g
theorem wpP_Assign {x : Str} {p' pos : Pos} {value : Expr} {Q : Flow → Shared → Prop} (h : wpP M A (eval value env) (fun v s₁ => wpAny M A (storeName env x v) (fun _ => Q .next) E s₁) E s)
    (hs : swapsWith value (some (.Name x p')) pos.line env = pure false) : wpP M A (exec (.Assign [.Name x p'] value pos) env) Q E s := by
  rw [exec_Assign_Name env x p' value pos hs]
  exact wpP_bindA (wpAny_standAt (wpP_bind (wpP_mono h (fun v s₁ h₁ => wpP_of (wpAny_bind (wpAny_standAt (wpAny_bind (wpAny_bindName (wpAny_mono h₁ (fun _ _ q => wpAny_pure q) fun _ _ e => e)))))) fun _ _ e => e)))
theorem wpP_callWith {pos : Pos} {f : Value} {args : List (Bool × Sem Value)} {Q : Value → Shared → Prop} {x : Sem Value} {rest : List (Bool × Sem Value)} (ha : args = (false, x) :: rest)
    (h : wpAny M A (spliced args) (fun vs s₁ => wpAny M A (keeperOf f) (fun _ s₂ => wpP M A (call f vs []) Q E s₂) E s₁) E s) : wpP M A (callWith pos f [] args []) Q E s := by
  subst ha
  unfold callWith
  refine wpP_bindA (wpAny_holding (Calls.evalArgs_plain (wpAny_mono h (fun vs s₁ h₁ => wpP_bindA (wpAny_standAt ?_)) fun _ _ e => e)))
  have tail : ∀ {s' : Shared} {t : Sem Value}, wpP M A t Q E s' → wpP M A (t >>= fun r => holding [r] point >>= fun _ => pure r) Q E s' :=
    fun ht => wpP_bind (wpP_mono ht (fun r s₂ hr => wpP_of (wpAny_bind (wpAny_holding (wpAny_point (wpAny_pure hr))))) fun _ _ e => e)
  refine wpP_bindA (m := keeperOf f) (wpAny_mono h₁ (fun k s₂ h₂ => ?_) fun _ _ e => e)
  dsimp only [List.nil_append]
  cases hs : (((false, x) :: rest).any (·.1) || ([] : List (Option Str × Sem Value)).any (·.1.isNone)) <;> cases k <;> dsimp only <;>
  first
    | exact tail h₂
    | exact tail (wpP_keep h₂)
    | exact tail (wpP_operate h₂)
    | (split <;> first | exact tail h₂ | exact tail (wpP_keep h₂))
theorem wpP_Call {id : Str} {p pos : Pos} {args : List Expr} {Q : Value → Shared → Prop} {x : Sem Value} {rest : List (Bool × Sem Value)} (ha : backTo pos (starEach args env) = (false, x) :: rest)
    (h : wpAny M A (eval (.Name id p) env) (fun f s₁ => wpAny M A (spliced (backTo pos (starEach args env))) (fun vs s₂ => wpAny M A (keeperOf f) (fun _ s₃ => wpP M A (call f vs []) Q E s₃) E s₂) E s₁) E s) :
    wpP M A (eval (.Call (.Name id p) args [] pos) env) Q E s := by
  rw [arm_eval_Call_Name']
  exact wpP_bindA (wpAny_mono h (fun f s₁ h₁ => wpP_callWith ha h₁) fun _ _ e => e)
end
section
variable {prog : Program} {w : World} {A : Around} {E : Value → Shared → Prop} {s : Shared} {env : Env}
theorem wpP_For {target iter : Expr} {body : List Stmt} {pos : Pos} {Q : Flow → Shared → Prop}
    (h : wpAny (model prog w) A (eval iter env) (fun x s₁ => wpAny (model prog w) A (pyIter x) (fun it s₂ => codeP (model prog w) A (.forLoop target it body [] env) (fun r s' => match r with | .ok f => Q f s' | .error e => cameBackBy (model prog w) A env E e s') s₂) E s₁) E s)
    (hs : ∀ x, foldedSetIterable iter env x = pure x) : wpP (model prog w) A (exec (.For target iter body [] pos) env) Q E s := by
  rw [exec_For]
  refine wpP_bindA (wpAny_standAt (wpP_bindA (wpAny_mono h (fun x s₁ h₁ => wpP_bindA (wpAny_of_eq (hs x) (wpP_bindA (wpAny_standAt (wpP_bindA (wpAny_holding (wpAny_mono h₁ (fun it s₂ h₂ => ?_) fun _ _ e => e))))))) fun _ _ e => e)))
  unfold runOwn
  exact wpP_onRaise (wpP_run rfl h₂)
/-- the loop over a range, its body in the lesser logic -/
theorem codeP_for {R : Result → Shared → Prop} {target : Expr} {it : Value} {body : List Stmt} (I : Nat → Shared → Prop)
    (turn : ∀ n s, I n s → wpAny (model prog w) A (pyNext it) (fun r s₁ => match r with
      | none => R (.ok .next) s₁
      | some v => wpAny (model prog w) A (letOwnedTupleGo target it v) (fun _ s₁' => wpAny (model prog w) A (assign target env v) (fun _ s₂ => wpP (model prog w) A (execs body env) (fun f s₃ => match f with
            | .next | .cont => ∃ m, m < n ∧ I m s₃
            | .brk => R (.ok .next) s₃
            | .ret v => R (.ok (.ret v)) s₃) (notedBy (model prog w) A env fun e s' => R (.error e) s') s₂) (notedBy (model prog w) A env fun e s' => R (.error e) s') s₁') (notedBy (model prog w) A env fun e s' => R (.error e) s') s₁)
      (notedBy (model prog w) A env fun e s' => R (.error e) s') s) (n : Nat) (h : I n s) : codeP (model prog w) A (.forLoop target it body [] env) R s := by
  refine codeP_loop rfl rfl I (fun n s hI => ?_) n h
  show wpP _ A ((forTurn target it body [] env).onRaise (fun x => do noteFrame x env; theTreesLotGoes x)) _ _ s
  refine wpP_onRaise (wpP_mono (E := notedBy (model prog w) A env fun e s' => R (.error e) s') ?_ (fun _ _ q => q) fun e s' hx => wpAny_bind (wpAny_mono hx (fun _ _ q => wpAny_theTreesLotGoes q) fun _ _ q => q))
  simp only [forTurn]
  refine wpP_bindA (wpAny_standAt (wpP_bindA (wpAny_onRaise (wpAny_mono (turn n s hI) (fun r s₁ h₁ => ?_) fun _ _ h' => wpAny_standAt h'))))
  cases r with
  | none => exact wpP_pure (.inr ⟨rfl, rfl, codeP_of (codeAny_block (wpAny_execs_nil h₁))⟩)
  | some v =>
    refine wpP_bindA (wpAny_mono h₁ (fun _ s₂ h₂ => wpP_bindA (wpAny_mono h₂ (fun _ s₃ h₃ => wpP_bind (wpP_mono h₃ (fun f s₄ h₄ => ?_) fun _ _ e => e)) fun _ _ e => e)) fun _ _ e => e)
    cases f with
    | next => exact wpP_pure (.inl ⟨rfl, h₄⟩)
    | cont => exact wpP_pure (.inl ⟨rfl, h₄⟩)
    | brk => exact wpP_pure h₄
    | ret v => exact wpP_pure h₄
end
end
-- PL3
section
open Sem (wp)
section
variable {prog : Program} {w : World} {A : Around} {s : Shared} {env : Env} {h₀ : Heap}
theorem wpP_toks_of {α : Type} {M : Model} {t : Sem α} {Q : α → Shared → Prop} {E : Value → Shared → Prop} {n : Nat} (hn : n ≤ s.toks) (h : wpP M A t Q E s) :
    wpP M A t (fun a s' => n ≤ s'.toks ∧ Q a s') (fun e s' => n ≤ s'.toks ∧ E e s') s := fun Γ p hΓ g => Sem.wp_toks M Γ n t _ _ p s hn (h Γ p hΓ g)
/-- a loop by its word, its body in the lesser logic -/
noncomputable def LoopP (prog : Program) (w : World) (A : Around) (h₀ : Heap) (env : Env) (target : Expr) (body : List Stmt) (Q : Flow → Shared → Prop) (E : Value → Shared → Prop) (it : Value) (s₂ : Shared) : Prop :=
  ∃ (I : Addr) (fp : List Addr) (n : Nat) (P : Nat → Value → Prop) (St : Nat → Heap → Prop) (m : Str → Option Value) (led : List (Addr × Obj)) (S : List (Addr × Obj) → Prop) (K : Nat → (Str → Option Value) → List (Addr × Obj) → Prop),
    it = .ref I ∧ PySem.Walks prog w A I fp [I] n P St ∧ env.locals ≠ I ∧ h₀.get? I = none ∧ (∀ i h, St i h → ∃ o, h.get? I = some o) ∧
    (∀ i h h' o nw, St i h → h.get? I = some o → h'.get? I = some o → (∀ b o, h₀.get? b = some o → h'.get? b = some o) → News h₀ env.locals h' nw → S nw → St i h') ∧
    (∀ i (s' : Shared) v (Q' : Unit → Shared → Prop), St i s'.heap → Q' () s' → wpAny (model prog w) A (letOwnedTupleGo target (.ref I) v) Q' E s') ∧
    St 0 s₂.heap ∧ Fr h₀ env.locals s₂.heap m ∧ News h₀ env.locals s₂.heap led ∧ (∀ p ∈ led, p.1 ≠ I) ∧ S led ∧ K 0 m led ∧
    (∀ i v m₁ led₁ h tk oI, s₂.toks ≤ tk → i < n → P i v → K i m₁ led₁ → S led₁ → Fr h₀ env.locals h m₁ → News h₀ env.locals h ((I, oI) :: led₁) → (∀ p ∈ led₁, p.1 ≠ I) →
      wpAny (model prog w) A (assign target env v) (fun _ s₃ => wpP (model prog w) A (execs body env) (TurnPost h₀ env.locals I oI (fun m' led' => S led' ∧ K (i + 1) m' led') { s₂ with heap := h, toks := tk } Q) E s₃) E { s₂ with heap := h, toks := tk }) ∧
    ∀ h' tk m' led', s₂.toks ≤ tk → Fr h₀ env.locals h' m' → News h₀ env.locals h' led' → S led' → K n m' led' → Q .next { s₂ with heap := h', toks := tk }
set_option synthInstance.maxSize 100000 in
set_option synthInstance.maxHeartbeats 800000 in
noncomputable def s_for_wordP (d : (Program × World × Around × Shared) × (Env × Heap × (Value → Shared → Prop) × (Flow → Shared → Prop)) × (Expr × Expr × Pos × (List Stmt)) × (Addr)) : Prop := ∀ (m : Str → Option Value) (_F : Fr (d.2.1.2.1) (d.2.2.2) (d.1.2.2.2).heap m) (h : wpAny (model (d.1.1) (d.1.2.1)) (d.1.2.2.1) (eval (d.2.2.1.2.1) (d.2.1.1)) (fun xv s₁ => (d.1.2.2.2).toks ≤ s₁.toks → wpAny (model (d.1.1) (d.1.2.1)) (d.1.2.2.1) (pyIter xv) (fun it s₂ => LoopP (d.1.1) (d.1.2.1) (d.1.2.2.1) (d.2.1.2.1) (d.2.1.1) (d.2.2.1.1) (d.2.2.1.2.2.2) (d.2.1.2.2.2) (d.2.1.2.2.1) it s₂) (d.2.1.2.2.1) s₁) (d.2.1.2.2.1) (d.1.2.2.2)) (hs : ∀ x, foldedSetIterable (d.2.2.1.2.1) (d.2.1.1) x = pure x) (hE : PassesOwn (model (d.1.1) (d.1.2.1)) (d.1.2.2.1) (d.2.1.1) (d.2.1.2.2.1)), wpP (model (d.1.1) (d.1.2.1)) (d.1.2.2.1) (exec (.For (d.2.2.1.1) (d.2.2.1.2.1) (d.2.2.1.2.2.2) [] (d.2.2.1.2.2.1)) (d.2.1.1)) (d.2.1.2.2.2) (d.2.1.2.2.1) (d.1.2.2.2)
set_option synthInstance.maxSize 100000 in
set_option synthInstance.maxHeartbeats 800000 in
@[irreducible] noncomputable def k_for_wordP : (Program × World × Around × Shared) × (Env × Heap × (Value → Shared → Prop) × (Flow → Shared → Prop)) × (Expr × Expr × Pos × (List Stmt)) × (Addr) := pick (by haveI := ne_World; haveI := ne_Around; haveI := ne_Shared; exact inferInstance) s_for_wordP
theorem for_wordP_c : s_for_wordP k_for_wordP := by
  delta s_for_wordP
  intro m _F h hs hE
  refine wpP_For (wpAny_mono (wpAny_toks_of (Nat.le_refl (k_for_wordP.1.2.2.2).toks) h) (fun xv s₁ h₁ => wpAny_mono (h₁.2 h₁.1) (fun it s₂ h₂ => ?_) fun _ _ e => e) fun _ _ e => e.2) hs
  refine Mine.by_op fun P9 bk9 => ?_
  obtain ⟨I, fp, n, P, St, m, led, S, K, rfl, W, hLI, hI₀, hIo, hSt, hgo, hst, F, N, off, hS, hK, step, done⟩ := h₂
  refine bk9 ?_; clear bk9 P9
  refine codeP_for
    (fun k s' => ∃ h' tk m' led' i, s' = { s₂ with heap := h', toks := tk } ∧ s₂.toks ≤ tk ∧ St i h' ∧ Fr (k_for_wordP.2.1.2.1) (k_for_wordP.2.1.1).locals h' m' ∧ News (k_for_wordP.2.1.2.1) (k_for_wordP.2.1.1).locals h' led' ∧ (∀ p ∈ led', p.1 ≠ I) ∧ S led' ∧ K i m' led' ∧ i ≤ n ∧ k = n + 1 - i) ?_ (n + 1)
    ⟨s₂.heap, s₂.toks, m, led, 0, rfl, Nat.le_refl _, hst, F, N, off, hS, hK, Nat.zero_le _, rfl⟩
  intro k s' qz29
  refine Mine.by_op fun P9 bk9 => ?_
  obtain ⟨h', tk, m', led', i, rfl, htk, hst', F', N', off', hS', hK', hi, rfl⟩ := qz29
  refine bk9 ?_; clear bk9 P9
  refine wpAny_with_toks (n := s₂.toks) htk ?_
  by_cases hlt : i < n
  · refine W.item i _ _ _ hlt hst' fun v h₁ tk₁ hP hst₁ hk₁ htk₁ => ?_
    obtain ⟨oI, heI⟩ := hIo _ _ hst₁
    have F₁ : Fr (k_for_wordP.2.1.2.1) (k_for_wordP.2.1.1).locals h₁ m' := LCg.fr_but F' hk₁ hLI hI₀
    have N₁ : News (k_for_wordP.2.1.2.1) (k_for_wordP.2.1.1).locals h₁ led' := LCg.news_but N' hk₁ off'
    have N₂ : News (k_for_wordP.2.1.2.1) (k_for_wordP.2.1.1).locals h₁ ((I, oI) :: led') := fun p hp => by
      rcases List.mem_cons.mp hp with rfl | hp
      · exact ⟨heI, Ne.symm hLI, hI₀⟩
      · exact N₁ p hp
    refine wpAny_passesOwn hE (hgo (i + 1) _ v _ hst₁ ?_)
    refine wpAny_mono (wpAny_toks_of htk₁ (step i v m' led' h₁ tk₁ oI htk₁ hlt hP hK' hS' F₁ N₂ off')) (fun _ s₃ h₃ => wpP_mono (wpP_toks_of h₃.1 h₃.2) (fun f s₄ h₄ => ?_) fun _ _ e => hE _ _ e.2) fun _ _ e => hE _ _ e.2
    obtain ⟨htk₄, h₄⟩ := h₄
    have fin : TurnEnd (k_for_wordP.2.1.2.1) (k_for_wordP.2.1.1).locals I oI (fun m' led' => S led' ∧ K (i + 1) m' led') { s₂ with heap := h₁, toks := tk₁ } s₄ →
        ∃ m, m < n + 1 - i ∧ ∃ h' tk m' led' i, s₄ = { s₂ with heap := h', toks := tk } ∧ s₂.toks ≤ tk ∧ St i h' ∧ Fr (k_for_wordP.2.1.2.1) (k_for_wordP.2.1.1).locals h' m' ∧ News (k_for_wordP.2.1.2.1) (k_for_wordP.2.1.1).locals h' led' ∧ (∀ p ∈ led', p.1 ≠ I) ∧ S led' ∧ K i m' led' ∧ i ≤ n ∧ m = n + 1 - i := by
      intro qz09
      refine Mine.by_op fun P9 bk9 => ?_
      obtain ⟨h₄', tk₄, m₄, led₄, rfl, F₄, N₄, off₄, hS₄, hK₄⟩ := qz09
      refine bk9 ?_; clear bk9 P9
      have N₄' : News (k_for_wordP.2.1.2.1) (k_for_wordP.2.1.1).locals h₄' led₄ := fun p hp => N₄ p (List.mem_cons_of_mem _ hp)
      exact ⟨n + 1 - (i + 1), by omega, h₄', tk₄, m₄, led₄, i + 1, rfl, htk₄, hSt _ _ _ _ _ hst₁ heI (N₄ (I, oI) List.mem_cons_self).1 F₄.keep N₄' hS₄, F₄, N₄', off₄, hS₄, hK₄, hlt, rfl⟩
    cases f with
    | ret v => exact h₄
    | brk => exact h₄
    | next => exact fin h₄
    | cont => exact fin h₄
  · have hin : i = n := by omega
    subst hin
    refine W.done _ _ _ hst' fun h₁ tk₁ hk₁ htk₁ => ?_
    exact done h₁ tk₁ m' led' htk₁ (LCg.fr_but F' hk₁ hLI hI₀) (LCg.news_but N' hk₁ off') hS' hK'
theorem for_wordP {E : Value → Shared → Prop} {Q : Flow → Shared → Prop} {target iter : Expr} {pos : Pos} {body : List Stmt} {L : Addr} {m : Str → Option Value} (_F : Fr h₀ L s.heap m)
    (h : wpAny (model prog w) A (eval iter env) (fun xv s₁ => s.toks ≤ s₁.toks → wpAny (model prog w) A (pyIter xv) (fun it s₂ => LoopP prog w A h₀ env target body Q E it s₂) E s₁) E s)
    (hs : ∀ x, foldedSetIterable iter env x = pure x) (hE : PassesOwn (model prog w) A env E) : wpP (model prog w) A (exec (.For target iter body [] pos) env) Q E s :=
  pick_all k_for_wordP.eq_1 for_wordP_c ((prog, w, A, s), (env, h₀, E, Q), (target, iter, pos, body), (L)) m _F h hs hE
set_option synthInstance.maxSize 100000 in
set_option synthInstance.maxHeartbeats 800000 in
noncomputable def s_iter_rangeP (d : (Program × World × Around × Shared) × (Env × Heap × (Value → Shared → Prop) × (Flow → Shared → Prop)) × ((List Stmt) × Addr × Tok × Nat) × ((Str → Option Value) × (List (Addr × Obj)))) : Prop := ∀ (target : Expr) (a : Int) (b : Int) (t : Tok) (v : Tok) (K : Nat → (Str → Option Value) → List (Addr × Obj) → Prop) (hh : (d.1.2.2.1).handled = none) (hr : IsRange (d.1.2.2.2).heap (d.2.2.1.2.1) a b 1 t (d.2.2.1.2.2.1) v) (hsm : Builtin.Range.small a b 1 = true) (hn : Builtin.Range.rangeSize a b 1 = (((d.2.2.1.2.2.2) : Nat) : Int)) (F : Fr (d.2.1.2.1) (d.2.1.1).locals (d.1.2.2.2).heap (d.2.2.2.1)) (N : News (d.2.1.2.1) (d.2.1.1).locals (d.1.2.2.2).heap (d.2.2.2.2)) (hK : K 0 (d.2.2.2.1) (d.2.2.2.2)) (htg : ∀ xs x p, target ≠ .Tuple xs x p) (htl : ∀ xs p, target ≠ .List xs p) (step : ∀ i t m₁ led₁ h tk I oI, (d.1.2.2.2).toks ≤ tk → i < (d.2.2.1.2.2.2) → K i m₁ led₁ → Fr (d.2.1.2.1) (d.2.1.1).locals h m₁ → News (d.2.1.2.1) (d.2.1.1).locals h ((I, oI) :: led₁) → (∀ p ∈ led₁, p.1 ≠ I) →
      wpAny (model (d.1.1) (d.1.2.1)) (d.1.2.2.1) (assign target (d.2.1.1) (.int (a + (i : Int)) t)) (fun _ s₃ => wpP (model (d.1.1) (d.1.2.1)) (d.1.2.2.1) (execs (d.2.2.1.1) (d.2.1.1)) (TurnPost (d.2.1.2.1) (d.2.1.1).locals I oI (fun m' led' => K (i + 1) m' led') { (d.1.2.2.2) with heap := h, toks := tk } (d.2.1.2.2.2)) (d.2.1.2.2.1) s₃) (d.2.1.2.2.1) { (d.1.2.2.2) with heap := h, toks := tk }) (done : ∀ h' tk m' led', (d.1.2.2.2).toks ≤ tk → Fr (d.2.1.2.1) (d.2.1.1).locals h' m' → News (d.2.1.2.1) (d.2.1.1).locals h' led' → K (d.2.2.1.2.2.2) m' led' → (d.2.1.2.2.2) .next { (d.1.2.2.2) with heap := h', toks := tk }), wpAny (model (d.1.1) (d.1.2.1)) (d.1.2.2.1) (pyIter (.ref (d.2.2.1.2.1))) (fun it s₂ => LoopP (d.1.1) (d.1.2.1) (d.1.2.2.1) (d.2.1.2.1) (d.2.1.1) target (d.2.2.1.1) (d.2.1.2.2.2) (d.2.1.2.2.1) it s₂) (d.2.1.2.2.1) (d.1.2.2.2)
set_option synthInstance.maxSize 100000 in
set_option synthInstance.maxHeartbeats 800000 in
@[irreducible] noncomputable def k_iter_rangeP : (Program × World × Around × Shared) × (Env × Heap × (Value → Shared → Prop) × (Flow → Shared → Prop)) × ((List Stmt) × Addr × Tok × Nat) × ((Str → Option Value) × (List (Addr × Obj))) := pick (by haveI := ne_World; haveI := ne_Around; haveI := ne_Shared; exact inferInstance) s_iter_rangeP
theorem iter_rangeP_c : s_iter_rangeP k_iter_rangeP := by
  delta s_iter_rangeP
  intro target a b t v K hh hr hsm hn F N hK htg htl step done
  refine wpAny_pyIter_range hr hsm ?_
  refine ⟨(k_iter_rangeP.1.2.2.2).heap.objs.size, _, (k_iter_rangeP.2.2.1.2.2.2), _, _, (k_iter_rangeP.2.2.2.1), (k_iter_rangeP.2.2.2.2), fun _ => True, K, rfl, LCg.range_walks hh a (k_iter_rangeP.2.2.1.2.2.2), Nat.ne_of_lt F.ns.lt, next_is_new F, (fun i h st => ⟨_, st⟩), LCg.range_st, ?_, (by show IsRangeIter _ _ _ _ _; rw [hn]; simpa using Heap.get?_push_size _ rfl), F.push _,
    (fun p hp => ⟨Heap.get?_push_of_some _ (N p hp).1, (N p hp).2⟩), (fun p hp => Nat.ne_of_lt (Heap.lt_size (N p hp).1)), trivial, hK, ?_, ?_⟩
  · intro i s' v Q' _ hQ'
    unfold letOwnedTupleGo
    split
    · exact absurd rfl (htg _ _ _)
    · exact absurd rfl (htl _ _)
    · exact wpAny_pure hQ'
  · rintro i v m₁ led₁ h tk oI htk hi ⟨t, rfl⟩ hK₁ _ F₁ N₁ off₁
    refine wpAny_mono (step i t m₁ led₁ h tk _ oI htk hi hK₁ F₁ N₁ off₁) (fun _ s₃ h₃ => wpP_mono h₃ (fun f s₄ h₄ => ?_) fun _ _ e => e) fun _ _ e => e
    have fin : TurnEnd (k_iter_rangeP.2.1.2.1) (k_iter_rangeP.2.1.1).locals (k_iter_rangeP.1.2.2.2).heap.objs.size oI (fun m' led' => K (i + 1) m' led') { (k_iter_rangeP.1.2.2.2) with heap := h, toks := tk } s₄ → TurnEnd (k_iter_rangeP.2.1.2.1) (k_iter_rangeP.2.1.1).locals (k_iter_rangeP.1.2.2.2).heap.objs.size oI (fun m' led' => True ∧ K (i + 1) m' led') { (k_iter_rangeP.1.2.2.2) with heap := h, toks := tk } s₄ :=
      fun ⟨a, b, c, d, e, f, g, o, k⟩ => ⟨a, b, c, d, e, f, g, o, trivial, k⟩
    cases f with
    | ret v => exact h₄
    | brk => exact h₄
    | next => exact fin h₄
    | cont => exact fin h₄
  · intro h' tk m' led' htk F' N' _ hK'
    exact done h' tk m' led' htk F' N' hK'
theorem iter_rangeP {E : Value → Shared → Prop} {Q : Flow → Shared → Prop} {target : Expr} {body : List Stmt} {r : Addr} {a b : Int} {t u v : Tok} {n : Nat} {m : Str → Option Value} {led : List (Addr × Obj)} (K : Nat → (Str → Option Value) → List (Addr × Obj) → Prop)
    (hh : A.handled = none) (hr : IsRange s.heap r a b 1 t u v) (hsm : Builtin.Range.small a b 1 = true) (hn : Builtin.Range.rangeSize a b 1 = ((n : Nat) : Int)) (F : Fr h₀ env.locals s.heap m) (N : News h₀ env.locals s.heap led) (hK : K 0 m led)
    (htg : ∀ xs x p, target ≠ .Tuple xs x p) (htl : ∀ xs p, target ≠ .List xs p)
    (step : ∀ i t m₁ led₁ h tk I oI, s.toks ≤ tk → i < n → K i m₁ led₁ → Fr h₀ env.locals h m₁ → News h₀ env.locals h ((I, oI) :: led₁) → (∀ p ∈ led₁, p.1 ≠ I) →
      wpAny (model prog w) A (assign target env (.int (a + (i : Int)) t)) (fun _ s₃ => wpP (model prog w) A (execs body env) (TurnPost h₀ env.locals I oI (fun m' led' => K (i + 1) m' led') { s with heap := h, toks := tk } Q) E s₃) E { s with heap := h, toks := tk })
    (done : ∀ h' tk m' led', s.toks ≤ tk → Fr h₀ env.locals h' m' → News h₀ env.locals h' led' → K n m' led' → Q .next { s with heap := h', toks := tk }) : wpAny (model prog w) A (pyIter (.ref r)) (fun it s₂ => LoopP prog w A h₀ env target body Q E it s₂) E s :=
  pick_all k_iter_rangeP.eq_1 iter_rangeP_c ((prog, w, A, s), (env, h₀, E, Q), (body, r, u, n), (m, led)) target a b t v K hh hr hsm hn F N hK htg htl step done
end
section
variable {prog : Program} {w : World} {A₀ A : Around} {s : Shared} {base h₀ : Heap} {outer : List Env} {L : Addr} {m mg mb : Str → Option Value} {env : Env} {news : List (Addr × Obj)} {K : Frag} {p : Program} {loose : List Str} {mean : ExcName → Option Value}
  {R : Result → Shared → Prop} {name qual : Str} {params : Arguments} {body : List Stmt} {scope : Scope} {dV kV doc pm cdv ct oc : Value} {an od : Option Addr} {osl : Array (Option Value)} {f : Addr} {args : Args} {binds : List (Str × Value)}
/-- a def of the text entered in the lesser logic; it may have cells -/
theorem code_defCP (B : Below A₀ base outer h₀) (F : Fr h₀ L s.heap m) (X₀ : K.In h₀) (N : News h₀ L s.heap news) (T : Top p loose mean mg mb h₀) (hA : A.frames = some (env :: outer)) (hf : env.frame = some L) (hke : env.scope.kind = .function)
    (ho : K.lookup f = some ⟨oc, od, .func (fnOf name qual params body scope dV kV doc pm an cdv ct), osl⟩) (hcd : codeIn K cdv qual = true) (hroom : A.depth < recursionLimit)
    (hbind : BindsTo s (fnOf name qual params body scope dV kV doc pm an cdv ct) args binds) (hkind : (binds.all fun y => scope.names.lookup y.1 == some .local || scope.names.lookup y.1 == some .cell) = true)
    (hnd : ((cellsFrom 0 scope.names []).map (·.1)).Nodup)
    (h : ∀ g L' h₁ tk cells, Fr h₀ L g m → Fr g L' h₁ (bindL (envOfC qual scope L' f cdv).kindOf binds fun _ => none) → News g L' h₁ (cells ++ news) →
      CellsAre (bindC (envOfC qual scope L' f cdv).kindOf binds fun _ => none) (cellsFrom (L' + 1) scope.names []) cells → Below A base (env :: outer) g → K.In g → Top p loose mean mg mb g → (∀ p ∈ news, p.1 < L') →
      wpP (model prog w) (A.deeper (envOfC qual scope L' f cdv)) (execs body (envOfC qual scope L' f cdv))
        (fun fl s' => LeaveK h₀ L m g R (match fl with | .ret v => v | _ => .none) s')
        (fun e s' => wpAny (model prog w) (A.deeper (envOfC qual scope L' f cdv)) (leaving (envOfC qual scope L' f cdv) e) (fun _ s'' => R (.error e) s'') (fun e' s'' => R (.error e') s'') s')
        { s with heap := h₁, toks := tk })
    (hco : scope.isCoroutine = false) (hgen : scope.isGenerator = false) (hk : scope.kind = .function) : codeP (model prog w) A (.call (.ref f) args) R s := by
  refine Mine.by_op fun P9 bk9 => ?_
  obtain ⟨FG, BG, st, lv⟩ := groundX (R := R) B F N hA hf hke
  refine bk9 ?_; clear bk9 P9
  refine codeP_call_fn hroom ((X₀.keeps F.keep) _ _ ho) rfl hco hgen rfl (codeRec_of (X₀.keeps F.keep) hcd) (hbind _ _ _ _ ?_)
  refine wpAny_newFunctionEnv_cells hk (kindsX hkind _) fun env' he s' x => ?_
  subst he
  refine Mine.by_op fun P9 bk9 => ?_
  obtain ⟨h₁, tk, e, _⟩ := x.done
  refine bk9 ?_; clear bk9 P9
  have hk₁ := x.toInCall.keep
  refine ⟨(T.nolimit.keeps F.keep).keeps hk₁, codeP_func ?_⟩
  refine Mine.by_op fun P9 bk9 => ?_
  obtain ⟨cells, NC, Y⟩ := Cl.news (h₀ := s.heap) (Nat.le_refl _) fun n c hm => ⟨x.cell n c (lookup_of_mem_nodup (cellsFrom_names scope.names 0 (s.heap.objs.size + 1) [] [] rfl ▸ hnd) hm), x.above n c hm⟩
  refine bk9 ?_; clear bk9 P9
  subst e
  refine wpP_mono (h _ s.heap.objs.size h₁ tk cells FG ⟨x.toInCall.ns, fun b o e => hk₁ b o (of_hideAll _ e), Nat.le_of_eq (hideAll_size _ _)⟩ (fun q hq => ?_) Y BG (X₀.keeps st) (T.keeps st) fun q hq => Heap.lt_size (N q hq).1) (fun fl s' hl => lv _ _ hl) fun _ _ y => y
  rcases List.mem_append.mp hq with hq | hq
  · refine ⟨(NC q hq).1, (NC q hq).2.1, ?_⟩
    cases z : (hideAll s.heap (news.map (·.1))).get? q.1 with
    | none => rfl
    | some o => have := of_hideAll _ z; rw [(NC q hq).2.2] at this; cases this
  · exact ⟨hk₁ _ _ (N q hq).1, Nat.ne_of_lt (Heap.lt_size (N q hq).1), hideAll_none _ (List.mem_map_of_mem hq)⟩
end
end
-- BA
section
open Sem (wp)
theorem mro_ba : mroOf (.type "bytearray") = pure [.type "bytearray", .type "object"] := by rw [mroOf_type]; kernel_rfl
theorem slot_ba_init : Slot "bytearray" "__init__" "bytearray.__init__" :=
  .of (owner := "bytearray") (n := "__init__") (by rw [typeLookup_type, builtinLookup_eq_fast]; kernel_rfl) (by decide +kernel) (by decide +kernel) (by decide +kernel)
    (by first | exact .inl (by decide +kernel) | exact .inr (by decide +kernel)) (by rw [isSubtype_type]; kernel_rfl)
theorem sub_ba : isSubtype (.type "bytearray") (.type "bytearray") = pure true := by rw [isSubtype_type]; kernel_rfl
theorem called_ba : TypeCalled "bytearray" "bytearray.__new__" "bytearray.__init__" :=
  ⟨by decide +kernel, by decide +kernel, ⟨_, _, mro_ba⟩, madeBy_type mro_ba (by rw [typeLookup_type, builtinLookup_eq_fast]; kernel_rfl) (by decide +kernel), by decide +kernel, sub_ba, slot_ba_init⟩
theorem typeCall_ba (a : Value) : checkTypeCall "bytearray" ⟨[a], []⟩ = pure () := by kernel_rfl
theorem newCall_ba (a : Value) : checkBuiltinCall "bytearray.__new__" ⟨[.type "bytearray", a], []⟩ = pure () := by kernel_rfl
theorem entry_ba_init : entryFor table "bytearray.__init__" = some Builtin.«bytearray.__init__» := entryFor_of_tree (by kernel_rfl)
theorem entry_ba_new : entryFor table "bytearray.__new__" = some Builtin.«list.__new__» := entryFor_alias (id' := "list.__new__") (by kernel_rfl) rfl (by decide +kernel) (by kernel_rfl)
theorem args_ba_init (a b : Value) : argsOk "bytearray.__init__" ⟨[a, b], []⟩ := by unfold argsOk; kernel_rfl
theorem look_ba_release : typeLookup (.type "bytearray") "__release_buffer__" = pure (some (.builtin "bytearray.__release_buffer__")) := by rw [typeLookup_type, builtinLookup_eq_fast]; kernel_rfl
theorem bind_ba (v : Value) : Builtin.Bytes.bindOptional "bytearray.__init__" "bytearray" ["source", "encoding", "errors"] [v] [] = pure [some v, none, none] := by kernel_rfl
set_option maxRecDepth 1000000 in
set_option maxHeartbeats 4000000 in
theorem owner_ba_new : ("bytearray.__new__".splitOn ".__new__").headD "" = "bytearray" := by simp +decide [String.splitOn, String.splitOnAux]
section
variable {prog : Program} {w : World} {A : Around} {E : Value → Shared → Prop} {s : Shared}
noncomputable abbrev baObj (b : Array UInt8) : Obj := { cls := .type "bytearray", data := .bytearray b }
theorem code_ba_new (a : Value) {Q₁ : Value → Shared → Prop} (h : Q₁ (.ref s.heap.objs.size) { s with heap := s.heap.push (baObj #[]) }) :
    codeAny (model prog w) A (.call (.builtin "bytearray.__new__") ⟨[.type "bytearray", a], []⟩) (wants Q₁ E) s := by
  refine codeAny_of_tree ?_
  show wpAny _ A.in1 (do checkBuiltinCall "bytearray.__new__" ⟨[.type "bytearray", a], []⟩; again (.builtin "bytearray.__new__" ⟨[.type "bytearray", a], []⟩)) _ _ s
  refine wpAny_bind (wpAny_of_eq (newCall_ba a) (wpAny_pure ⟨plainId_quiet called_ba.plain _, codeAny_builtin_stack entry_ba_new rfl fun p st => ?_⟩))
  rw [Around.under_plainId called_ba.plain _]
  have hsub := sub_ba
  have hown := owner_ba_new
  refine Mine.by_op fun P9 bk9 => ?_
  obtain ⟨hp, g, d, tk, os⟩ := s
  refine bk9 ?_; clear bk9 P9
  simp only [hown]
  wp_walk
  exact h
theorem own_release_ba {D : Addr} {Q : Bool → Shared → Prop} (hT : s.TypeIs (.ref D) "bytearray") (h : Q false s) : wpAny (model prog w) A (Builtin.Bytes.ownRelease (.ref D)) Q E s := by
  unfold Builtin.Bytes.ownRelease Builtin.Bytes.slotIsOwn
  refine wpAny_bind (wpAny_bind (wpAny_specialOf hT look_ba_release ?_))
  dsimp only
  rw [if_neg (by decide +kernel)]
  have e : ("bytearray.__release_buffer__".dropRight ("__release_buffer__".length + 1)) = "bytearray" := by decide +kernel
  rw [e]
  exact wpAny_isInstance hT sub_ba (wpAny_pure h)
theorem no_guard {A : Around} {Γ : PySem.Ctx} (hg : A.guards = some []) (hΓ : Γ.In A) : Γ.code.isGuard = false ∧ ∀ q ∈ Γ.below, q.1.isGuard = false := by
  have h := hΓ.2.2.2.1 [] hg
  obtain ⟨h1, h2⟩ := List.append_eq_nil_iff.mp h
  refine ⟨?_, fun q hq => ?_⟩
  · cases e : Γ.code.isGuard with
    | false => rfl
    | true => simp [Code.guards, e] at h1
  · cases e : q.1.isGuard with
    | false => rfl
    | true =>
      have : q.1 ∈ guardsOf Γ.below := List.mem_filter.mpr ⟨List.mem_map_of_mem hq, e⟩
      rw [h2] at this; cases this
theorem stackAny_P {f : Code × Pos → Bool} {Q : Bool → Shared → Prop} (hg : A.guards = some []) (hf : ∀ c p, c.isGuard = false → isDec c = false → f (c, p) = false) (h : Q false s) : wpP (model prog w) A (do return (← stack).any f) Q E s := fun Γ p hΓ g => by
  obtain ⟨g1, g2⟩ := no_guard hg hΓ
  show Q (((Γ.code, p) :: Γ.below).any f) s
  have e : ((Γ.code, p) :: Γ.below).any f = false := List.any_eq_false.mpr fun x hx => by
    have : f x = false := by
      rcases List.mem_cons.mp hx with e | e
      · rw [e]; exact hf _ _ g1 g.1
      · exact hf x.1 x.2 (g2 x e) (g.2 x e)
    rw [this]; exact Bool.false_ne_true
  rw [e]; exact h
theorem exported_P {self : Value} {Q : Bool → Shared → Prop} (hg : A.guards = some []) (h : Q false s) : wpP (model prog w) A (Builtin.Bytes.exported self) Q E s := by
  unfold Builtin.Bytes.exported
  refine stackAny_P hg (fun c p h1 h2 => ?_) h
  clear h hg
  cases c with
  | builtin id args =>
    obtain ⟨pos, kw⟩ := args
    have n1 : id ≠ "bytearray.__contains__" := by rintro rfl; cases h1
    have n2 : id ≠ "bytearray.__mod__" := by rintro rfl; cases h1
    have n3 : id ≠ "bytearray.__rmod__" := by rintro rfl; cases h1
    have n4 : id ≠ "_struct.pack_into.held" := by rintro rfl; cases h1
    have n5 : id ≠ "bytearray.find.held" := by rintro rfl; cases h1
    have h3 : Builtin.Bytes.decodersThatHold.contains id = false := h2
    clear h1 h2
    delta Builtin.Bytes.exported.match_1
    with_unfolding_all refine Eq.trans (dif_neg n1) ?_
    with_unfolding_all refine Eq.trans (dif_neg n2) ?_
    with_unfolding_all refine Eq.trans (dif_neg n3) ?_
    with_unfolding_all refine Eq.trans (dif_neg n4) ?_
    with_unfolding_all refine Eq.trans (dif_neg n5) ?_
    cases pos with
    | nil => with_unfolding_all rfl
    | cons v l =>
      with_unfolding_all show (Builtin.Bytes.sameRef v self && Builtin.Bytes.decodersThatHold.contains id) = false
      rw [h3, Bool.and_false]
  | _ => rfl
end
end
-- BA2
section
open Sem (wp)
section
variable {prog : Program} {w : World} {A : Around} {E : Value → Shared → Prop} {s : Shared}
theorem codeP_builtin {id : String} {args : Args} {b : Builtin} {R : Result → Shared → Prop} (hb : entryFor table id = some b)
    (h : wpP (model prog w) (A.under (.builtin id args)) (b args) (fun fin s' => match fin with | .done f => R (.ok f) s' | .again c' => c'.quiet = true ∧ isDec c' = false ∧ codeP (model prog w) A c' R s') (fun e s' => R (.error e) s') s) :
    codeP (model prog w) A (.builtin id args) R s := by
  refine codeP_of_tree ?_
  show wpP _ _ (match entryFor table id with | some b => b args | none => unsupported ((withoutEnding? id "#data").getD id)) _ _ s
  rw [hb]; exact h
theorem write_ba {D : Addr} {f : Array UInt8 → Array UInt8} {b : Array UInt8} {Q : Unit → Shared → Prop} (hD : s.heap.get? D = some (baObj b)) (hz : (f b).size ≤ sizeLine)
    (h : ∀ h', h'.get? D = some (baObj (f b)) → Heap.SameBut D s.heap h' → Q () { s with heap := h' }) : wpAny (model prog w) A (Builtin.Bytes.write (.ref D) f) Q E s := by
  show wpAny _ _ (updateBytearray D f) _ _ _
  unfold updateBytearray
  refine wpAny_bind (wpAny_load hD ?_)
  refine wpAny_bind (wpAny_update hD ?_)
  have hD₂ : (s.heap.update D (Obj.mapBytearray f)).get? D = some (baObj (f b)) := Heap.get?_update_self _ hD rfl
  refine wpAny_lookBehind hD₂ ?_ (h _ hD₂ (Heap.SameBut.update ..))
  show (if (f b).size > sizeLine then some "bytearray:memory" else none) = none
  rw [if_neg (by omega)]
noncomputable def s_ba_init (d : (Program × World × Around × (Value → Shared → Prop)) × (Shared × Addr × Tok × (Fin → Shared → Prop))) : Prop := ∀ (hg : (d.1.2.2.1).guards = some []) (hD : (d.2.1).heap.get? (d.2.2.1) = some (baObj #[])) (h : ∀ h', h'.get? (d.2.2.1) = some (baObj #[0, 0, 0, 0]) → Heap.SameBut (d.2.2.1) (d.2.1).heap h' → (d.2.2.2.2) (.done (.ret .none)) { (d.2.1) with heap := h' }), wpP (model (d.1.1) (d.1.2.1)) (d.1.2.2.1) (Builtin.«bytearray.__init__» ⟨[.ref (d.2.2.1), .int 4 (d.2.2.2.1)], []⟩) (d.2.2.2.2) (d.1.2.2.2) (d.2.1)
@[irreducible] noncomputable def k_ba_init : (Program × World × Around × (Value → Shared → Prop)) × (Shared × Addr × Tok × (Fin → Shared → Prop)) := pick (by haveI := ne_World; haveI := ne_Around; haveI := ne_Shared; exact inferInstance) s_ba_init
theorem ba_init_c : s_ba_init k_ba_init := by
  delta s_ba_init
  intro hg hD h
  have hT : (k_ba_init.2.1).TypeIs (.ref (k_ba_init.2.2.1)) "bytearray" := ⟨_, hD, rfl⟩
  unfold Builtin.«bytearray.__init__»
  simp only []
  refine wpP_bindA (own_release_ba hT ?_)
  simp only [Bool.false_eq_true, if_false, pure_bind, bind_ba]
  refine wpP_bindA (wpAny_of_eq (a := ()) rfl (wpP_bindA (wpAny_of_eq (a := ()) rfl ?_)))
  refine wpP_bind ?_
  unfold orM
  refine wpP_bind (exported_P hg ?_)
  simp only [toBool]
  refine wpP_of (wpAny_bind ?_)
  unfold Builtin.Bytes.exportsOf
  refine wpAny_bind (wpAny_load hD ?_)
  refine wpAny_pure (wpAny_pure ?_)
  refine wpP_of ?_
  simp only [Nat.lt_irrefl, gt_iff_lt, decide_false, Bool.false_eq_true, if_false]
  refine wpAny_bind (write_ba hD (Nat.zero_le _) fun h1 hD1 hs1 => ?_)
  refine wpAny_bind (wpAny_of_eq (a := none) rfl ?_)
  simp only [Option.isSome_none, Bool.false_eq_true, if_false, pure_bind]
  refine wpAny_bind (wpAny_specialOf (T := "int") (typeIs_int _ _ _) F.slot_int_index.lookup ?_)
  simp only [Option.isSome_some, if_true]
  refine wpAny_bind (wpAny_attempt (wpAny_of_eq (a := 4) rfl ?_))
  dsimp only
  rw [if_neg (by decide +kernel), if_neg (by decide +kernel), if_neg (by decide +kernel), if_neg (by decide +kernel)]
  refine wpAny_bind (wpAny_rule ?_)
  rw [if_pos (by decide +kernel)]
  refine wpAny_bind (write_ba (s := { (k_ba_init.2.1) with heap := h1 }) (f := fun _ => Array.replicate (Int.toNat 4) 0) hD1 (by show 4 ≤ sizeLine; rw [sizeLine_eq]; decide) fun h2 hD2 hs2 => ?_)
  exact wpAny_pure (h h2 hD2 (hs1.trans hs2))
theorem ba_init {D : Addr} {t : Tok} {post : Fin → Shared → Prop} (hg : A.guards = some []) (hD : s.heap.get? D = some (baObj #[]))
    (h : ∀ h', h'.get? D = some (baObj #[0, 0, 0, 0]) → Heap.SameBut D s.heap h' → post (.done (.ret .none)) { s with heap := h' }) : wpP (model prog w) A (Builtin.«bytearray.__init__» ⟨[.ref D, .int 4 t], []⟩) post E s :=
  pick_all k_ba_init.eq_1 ba_init_c ((prog, w, A, E), (s, D, t, post)) hg hD h
set_option synthInstance.maxSize 100000 in
set_option synthInstance.maxHeartbeats 800000 in
noncomputable def s_call_ba (d : (Program × World × Around × (Value → Shared → Prop)) × (Shared × Addr × Heap × (Str → Option Value)) × ((List (Addr × Obj)) × Tok × (Value → Shared → Prop))) : Prop := ∀ (hg : (d.1.2.2.1).guards = some []) (F : Fr (d.2.1.2.2.1) (d.2.1.2.1) (d.2.1.1).heap (d.2.1.2.2.2)) (N : News (d.2.1.2.2.1) (d.2.1.2.1) (d.2.1.1).heap (d.2.2.1)) (h : ∀ D h', Fr (d.2.1.2.2.1) (d.2.1.2.1) h' (d.2.1.2.2.2) → News (d.2.1.2.2.1) (d.2.1.2.1) h' ((D, baObj #[0, 0, 0, 0]) :: (d.2.2.1)) → (∀ p ∈ (d.2.2.1), p.1 < D) → (d.2.2.2.2) (.ref D) { (d.2.1.1) with heap := h' }), wpP (model (d.1.1) (d.1.2.1)) (d.1.2.2.1) (call (.type "bytearray") [.int 4 (d.2.2.2.1)]) (d.2.2.2.2) (d.1.2.2.2) (d.2.1.1)
set_option synthInstance.maxSize 100000 in
set_option synthInstance.maxHeartbeats 800000 in
@[irreducible] noncomputable def k_call_ba : (Program × World × Around × (Value → Shared → Prop)) × (Shared × Addr × Heap × (Str → Option Value)) × ((List (Addr × Obj)) × Tok × (Value → Shared → Prop)) := pick (by haveI := ne_World; haveI := ne_Around; haveI := ne_Shared; exact inferInstance) s_call_ba
theorem call_ba_c : s_call_ba k_call_ba := by
  delta s_call_ba
  intro hg F N h
  have ft := called_ba
  refine Mine.by_op fun P9 bk9 => ?_
  obtain ⟨c, tl, hmro⟩ := ft.mro
  refine bk9 ?_; clear bk9 P9
  refine wpP_call (codeP_of_tree (wpP_of ?_))
  show wpAny _ _ (callAny (.type "bytearray") _) _ _ _
  refine wpAny_pure ⟨Code.quiet_builtin _ (by decide +kernel), rfl, codeP_builtin PySem.F.entry_type_call ?_⟩
  rw [Around.under_plain (weight_type_call_type "bytearray" [.int 4 (k_call_ba.2.2.2.1)] []) rfl]
  have h1 := ft.notType
  have h2 := ft.canCreate
  have h3 := ft.made
  unfold Builtin.«type.__call__»
  simp only [h1, h2, h3, hmro, typeCall_ba, pure_bind, Bool.false_eq_true, if_false, List.isEmpty_cons]
  refine wpP_bindA (wpAny_holding (wpAny_call (codeAny_mono (code_ba_new (.int 4 (k_call_ba.2.2.2.1)) (E := fun _ _ => False) (Q₁ := fun v s' => v = .ref (k_call_ba.2.1.1).heap.objs.size ∧ s' = { (k_call_ba.2.1.1) with heap := (k_call_ba.2.1.1).heap.push (baObj #[]) }) ⟨rfl, rfl⟩) fun r s' hr => ?_)))
  cases r with
  | error e => exact hr.elim
  | ok fl =>
    cases fl with
    | ret obj =>
      obtain ⟨rfl, rfl⟩ := hr
      have hD : ((k_call_ba.2.1.1).heap.push (baObj #[])).get? (k_call_ba.2.1.1).heap.objs.size = some (baObj #[]) := Heap.get?_push_size _ rfl
      have hT : ({ (k_call_ba.2.1.1) with heap := (k_call_ba.2.1.1).heap.push (baObj #[]) } : Shared).TypeIs (.ref (k_call_ba.2.1.1).heap.objs.size) "bytearray" := ⟨_, hD, rfl⟩
      refine wpP_bindA (wpAny_isInstance hT sub_ba ?_)
      simp only [Bool.not_true, Bool.false_eq_true, if_false]
      refine wpP_bind (wpP_holding ?_)
      unfold callSpecial?
      refine wpP_bindA (wpAny_specialOf hT slot_ba_init.lookup ?_)
      simp only [slot_ba_init.bind]
      refine wpP_holding (wpP_bindA (wpAny_pure (wpP_bind (wpP_call ?_))))
      refine codeP_of_tree (wpP_of ?_)
      show wpAny _ _ (do checkBuiltinCall "bytearray.__init__" ⟨[.ref (k_call_ba.2.1.1).heap.objs.size, .int 4 (k_call_ba.2.2.2.1)], []⟩; again (.builtin "bytearray.__init__" ⟨[.ref (k_call_ba.2.1.1).heap.objs.size, .int 4 (k_call_ba.2.2.2.1)], []⟩)) _ _ _
      refine wpAny_bind (slot_ba_init.check _ _ _ _ _ _ _ _ hT (args_ba_init _ _) (wpAny_pure ⟨plainId_quiet slot_ba_init.plain _, (show Builtin.Bytes.decodersThatHold.contains "bytearray.__init__" = false by decide +kernel), codeP_builtin entry_ba_init ?_⟩))
      rw [Around.under_plainId slot_ba_init.plain _]
      refine ba_init hg hD fun h' hD' hs' => ?_
      refine wpP_pure ?_
      dsimp only
      rw [if_neg (by decide)]
      have old : ∀ b o, (k_call_ba.2.1.1).heap.get? b = some o → h'.get? b = some o := fun b o e => hs'.extBut b o (Nat.ne_of_lt (Heap.lt_size e)) (Heap.get?_push_of_some _ e)
      refine wpP_pure (h (k_call_ba.2.1.1).heap.objs.size h' (F.keeps old) (fun p hp => ?_) fun p hp => Heap.lt_size (N p hp).1)
      rcases List.mem_cons.mp hp with hp | hp
      · rw [hp]; exact ⟨hD', Nat.ne_of_gt F.ns.lt, next_is_new F⟩
      · exact ⟨old _ _ (N p hp).1, (N p hp).2⟩
    | _ => exact hr.elim
theorem call_ba {L : Addr} {h₀ : Heap} {m : Str → Option Value} {news : List (Addr × Obj)} {t : Tok} {Q : Value → Shared → Prop} (hg : A.guards = some []) (F : Fr h₀ L s.heap m) (N : News h₀ L s.heap news)
    (h : ∀ D h', Fr h₀ L h' m → News h₀ L h' ((D, baObj #[0, 0, 0, 0]) :: news) → (∀ p ∈ news, p.1 < D) → Q (.ref D) { s with heap := h' }) : wpP (model prog w) A (call (.type "bytearray") [.int 4 t]) Q E s :=
  pick_all k_call_ba.eq_1 call_ba_c ((prog, w, A, E), (s, L, h₀, m), (news, t, Q)) hg F N h
end
end
-- BA3
section
open Sem (wp)
theorem slot_ba_set : Slot "bytearray" "__setitem__" "bytearray.__setitem__" :=
  .of (owner := "bytearray") (n := "__setitem__") (by rw [typeLookup_type, builtinLookup_eq_fast]; kernel_rfl) (by decide +kernel) (by decide +kernel) (by decide +kernel)
    (by first | exact .inl (by decide +kernel) | exact .inr (by decide +kernel)) (by rw [isSubtype_type]; kernel_rfl)
theorem entry_ba_set : entryFor table "bytearray.__setitem__" = some Builtin.«bytearray.__setitem__» := entryFor_of_tree (by kernel_rfl)
theorem args_ba_set (a b c : Value) : argsOk "bytearray.__setitem__" ⟨[a, b, c], []⟩ := by unfold argsOk; kernel_rfl
theorem look_ba_bytes : typeLookup (.type "bytearray") "__bytes__" = pure none := by rw [typeLookup_type, builtinLookup_eq_fast]; kernel_rfl
theorem look_ba_index : typeLookup (.type "bytearray") "__index__" = pure none := by rw [typeLookup_type, builtinLookup_eq_fast]; kernel_rfl
theorem look_ba_buffer : typeLookup (.type "bytearray") "__buffer__" = pure (some (.builtin "bytearray.__buffer__")) := by rw [typeLookup_type, builtinLookup_eq_fast]; kernel_rfl
section
variable {prog : Program} {w : World} {A : Around} {E : Value → Shared → Prop} {s : Shared}
theorem payload_ba {D : Addr} {b : Array UInt8} {Q : Array UInt8 → Shared → Prop} (hD : s.heap.get? D = some (baObj b)) (h : Q b s) : wpAny (model prog w) A (Builtin.Bytes.payload (.ref D)) Q E s := by
  unfold Builtin.Bytes.payload Builtin.Bytes.payload?
  refine wpAny_bind (wpAny_bind (wpAny_load hD ?_))
  exact wpAny_pure (wpAny_pure h)
theorem subscript_int {k : Int} {t : Tok} {Q : Option Int → Shared → Prop} (h0 : 0 ≤ k) (h1 : k < 100) (h : Q (some k) s) : wpAny (model prog w) A (Builtin.Bytes.subscript? (.int k t)) Q E s := by
  unfold Builtin.Bytes.subscript?
  refine wpAny_bind (wpAny_specialOf (T := "int") (typeIs_int _ _ _) PySem.F.slot_int_index.lookup ?_)
  simp only [Option.isNone_some, Bool.false_eq_true, if_false, pure_bind]
  refine wpAny_bind (wpAny_of_eq (a := k) rfl ?_)
  rw [if_neg (by unfold Builtin.Bytes.fitsIndex; simp only [Bool.not_eq_true, Bool.not_eq_false', Bool.and_eq_true, decide_eq_true_eq]; omega)]
  exact wpAny_pure h
theorem byte_int {v : Int} {u : Tok} {Q : UInt8 → Shared → Prop} (h0 : 0 ≤ v) (h1 : v < 256) (h : Q v.toNat.toUInt8 s) : wpAny (model prog w) A (Builtin.Bytes.byteValue (.int v u)) Q E s := by
  unfold Builtin.Bytes.byteValue
  refine wpAny_bind (wpAny_of_eq (a := v) rfl ?_)
  rw [if_neg (by simp only [Bool.or_eq_true, decide_eq_true_eq]; omega)]
  exact wpAny_pure h
set_option synthInstance.maxSize 100000 in
set_option synthInstance.maxHeartbeats 800000 in
noncomputable def s_setItem_ba (d : (Program × World × Around × (Value → Shared → Prop)) × (Shared × Addr × (Array UInt8) × Int) × (Int × Tok × Tok × (Unit → Shared → Prop))) : Prop := ∀ (hD : (d.2.1.1).heap.get? (d.2.1.2.1) = some (baObj (d.2.1.2.2.1))) (h0 : 0 ≤ (d.2.1.2.2.2)) (h1 : (d.2.1.2.2.2) < ((d.2.1.2.2.1).size : Int)) (hb : (d.2.1.2.2.1).size ≤ 50) (v0 : 0 ≤ (d.2.2.1)) (v1 : (d.2.2.1) < 256) (h : ∀ h', h'.get? (d.2.1.2.1) = some (baObj ((d.2.1.2.2.1).setIfInBounds (d.2.1.2.2.2).toNat (d.2.2.1).toNat.toUInt8)) → Heap.SameBut (d.2.1.2.1) (d.2.1.1).heap h' → (d.2.2.2.2.2) () { (d.2.1.1) with heap := h' }), wpAny (model (d.1.1) (d.1.2.1)) (d.1.2.2.1) (setItem (.ref (d.2.1.2.1)) (.int (d.2.1.2.2.2) (d.2.2.2.1)) (.int (d.2.2.1) (d.2.2.2.2.1))) (d.2.2.2.2.2) (d.1.2.2.2) (d.2.1.1)
set_option synthInstance.maxSize 100000 in
set_option synthInstance.maxHeartbeats 800000 in
@[irreducible] noncomputable def k_setItem_ba : (Program × World × Around × (Value → Shared → Prop)) × (Shared × Addr × (Array UInt8) × Int) × (Int × Tok × Tok × (Unit → Shared → Prop)) := pick (by haveI := ne_World; haveI := ne_Around; haveI := ne_Shared; exact inferInstance) s_setItem_ba
theorem setItem_ba_c : s_setItem_ba k_setItem_ba := by
  delta s_setItem_ba
  intro hD h0 h1 hb v0 v1 h
  have hT : (k_setItem_ba.2.1.1).TypeIs (.ref (k_setItem_ba.2.1.2.1)) "bytearray" := ⟨_, hD, rfl⟩
  unfold setItem
  try with_reducible refine wpAny_holding ?_
  first | refine wpAny_bind (wpAny_pure ?_) | skip
  refine wpAny_bind (wpAny_sequenceKey hT (by decide) ?_)
  refine wpAny_bind (wpAny_callSpecial?_slot (name := Str.ofString "__setitem__") hT slot_ba_set (wpAny_call_entry slot_ba_set hT entry_ba_set ?_ (args_ba_set _ _ _)))
  unfold Builtin.«bytearray.__setitem__»
  simp only [List.isEmpty_nil, Bool.not_true, Bool.false_eq_true, if_false]
  refine wpAny_bind (subscript_int h0 (by omega) ?_)
  dsimp only
  refine wpAny_bind (byte_int v0 v1 ?_)
  refine wpAny_bind (payload_ba hD ?_)
  have e : seqIndex? (k_setItem_ba.2.1.2.2.2) (k_setItem_ba.2.1.2.2.1).size = some (k_setItem_ba.2.1.2.2.2).toNat := by
    unfold seqIndex?
    have n1 : ¬ (k_setItem_ba.2.1.2.2.2) < 0 := by omega
    simp [n1, h0, h1]
  rw [e]
  refine wpAny_bind (write_ba hD (by rw [Array.size_setIfInBounds, sizeLine_eq]; omega) fun h' hD' hs' => ?_)
  first
    | exact wpAny_pure ⟨_, rfl, wpAny_pure (h h' hD' hs')⟩
    | exact wpAny_bind (wpAny_pure (wpAny_pure ⟨_, rfl, wpAny_pure (h h' hD' hs')⟩))
    | trace_state
theorem setItem_ba {D : Addr} {b : Array UInt8} {k v : Int} {t u : Tok} {Q : Unit → Shared → Prop} (hD : s.heap.get? D = some (baObj b)) (h0 : 0 ≤ k) (h1 : k < (b.size : Int)) (hb : b.size ≤ 50) (v0 : 0 ≤ v) (v1 : v < 256)
    (h : ∀ h', h'.get? D = some (baObj (b.setIfInBounds k.toNat v.toNat.toUInt8)) → Heap.SameBut D s.heap h' → Q () { s with heap := h' }) : wpAny (model prog w) A (setItem (.ref D) (.int k t) (.int v u)) Q E s :=
  pick_all k_setItem_ba.eq_1 setItem_ba_c ((prog, w, A, E), (s, D, b, k), (v, t, u, Q)) hD h0 h1 hb v0 v1 h
theorem slotIsOwn_ba {D : Addr} {Q : Bool → Shared → Prop} (hT : s.TypeIs (.ref D) "bytearray") (h : Q true s) : wpAny (model prog w) A (Builtin.Bytes.slotIsOwn (.ref D) "__buffer__") Q E s := by
  unfold Builtin.Bytes.slotIsOwn
  refine wpAny_bind (wpAny_specialOf hT look_ba_buffer ?_)
  dsimp only
  rw [if_neg (by decide +kernel)]
  have e : ("bytearray.__buffer__".dropRight ("__buffer__".length + 1)) = "bytearray" := by decide +kernel
  rw [e]
  exact wpAny_isInstance hT sub_ba h
theorem buffer_ba {D : Addr} {b : Array UInt8} {Q : Option (Array UInt8) → Shared → Prop} (hD : s.heap.get? D = some (baObj b)) (h : Q (some b) s) : wpAny (model prog w) A (Builtin.Bytes.buffer? "bytes.__new__" (.ref D) true) Q E s := by
  have hT : s.TypeIs (.ref D) "bytearray" := ⟨_, hD, rfl⟩
  unfold Builtin.Bytes.buffer?
  refine wpAny_bind (wpAny_specialOf hT look_ba_buffer ?_)
  dsimp only
  refine wpAny_bind (slotIsOwn_ba hT ?_)
  simp only [Bool.not_true, Bool.false_eq_true, if_false]
  refine wpAny_bind (wpAny_specialOf hT look_ba_buffer ?_)
  try dsimp only
  refine wpAny_bind (own_release_ba hT ?_)
  simp only [Bool.false_eq_true, if_false]
  exact wpAny_bind (payload_ba hD (wpAny_pure h))
theorem new_of_ba {D : Addr} {b : Array UInt8} {Q : Value → Shared → Prop} (hD : s.heap.get? D = some (baObj b)) (hb : b.size ≤ 50) (h : ∀ t k, Q (.bytes b t) { s with toks := k }) :
    codeAny (model prog w) A (.call (.builtin "bytes.__new__") ⟨[.type "bytes", .ref D], []⟩) (wants Q E) s := by
  have hT : s.TypeIs (.ref D) "bytearray" := ⟨_, hD, rfl⟩
  refine codeAny_of_tree ?_
  show wpAny _ A.in1 (do checkBuiltinCall "bytes.__new__" ⟨[.type "bytes", .ref D], []⟩; again (.builtin "bytes.__new__" ⟨[.type "bytes", .ref D], []⟩)) _ _ s
  refine wpAny_bind (wpAny_of_eq (PySem.F.bm_newCall _) (wpAny_pure ⟨plainId_quiet PySem.F.bm_plain _, codeAny_builtin PySem.F.bm_entry ?_⟩))
  rw [Around.under_plainId PySem.F.bm_plain _]
  unfold Builtin.«bytes.__new__»
  refine wpAny_bind (wpAny_of_eq (a := true) rfl ?_)
  refine bm_if_false rfl ?_
  refine wpAny_bind (wpAny_of_eq PySem.F.bm_sub ?_)
  refine bm_if_false rfl ?_
  refine wpAny_bind (wpAny_of_eq (PySem.F.bm_bind _) ?_)
  refine wpAny_bind (wpAny_of_eq (a := ()) rfl ?_)
  refine wpAny_bind (wpAny_of_eq (a := ()) rfl ?_)
  refine bm_if_false rfl ?_
  refine wpAny_bind (wpAny_specialOf hT look_ba_bytes ?_)
  refine wpAny_bind (wpAny_bind ?_)
  show wpAny _ _ (load D >>= _) _ _ _
  refine wpAny_bind (wpAny_load hD ?_)
  refine wpAny_pure (wpAny_pure ?_)
  refine bm_if_false rfl ?_
  refine wpAny_bind (wpAny_specialOf hT look_ba_index ?_)
  refine bm_if_true rfl ?_
  first
    | show wpAny _ _ (Builtin.Bytes.buffer? "bytes.__new__" (.ref D) true >>= _) _ _ _
    | (refine wpAny_bind ?_; show wpAny _ _ (Builtin.Bytes.buffer? "bytes.__new__" (.ref D) true >>= _) _ _ _)
  refine wpAny_bind (buffer_ba hD ?_)
  dsimp only
  refine wpAny_bind (wpAny_rule ?_)
  refine wpAny_bind (wpAny_mkBytes ?_ (by rw [sizeLine_eq]; omega))
  show wpAny _ _ (if (Value.type "bytes" == Value.type "bytes") = true then _ else _) _ _ _
  refine bm_if_true (by decide) ?_
  first
    | exact wpAny_pure (h _ _)
    | exact wpAny_bind (wpAny_pure (wpAny_pure (h _ _)))
theorem bytes_of_ba {D : Addr} {b : Array UInt8} {Q : Value → Shared → Prop} (hD : s.heap.get? D = some (baObj b)) (hb : b.size ≤ 50) (h : ∀ t k, Q (.bytes b t) { s with toks := k }) : wpAny (model prog w) A (call (.type "bytes") [.ref D]) Q E s := by
  refine callType_codes (Q₁ := fun obj s₁ => s₁.TypeIs obj "bytes" ∧ Q obj s₁) PySem.F.bm_called (PySem.F.bm_typeCall _) PySem.F.entry_object_init
    (new_of_ba hD hb fun t k => ⟨PySem.W.typeIs_bytes _ _ _, h t k⟩) fun obj s₁ h₁ => ?_
  exact ⟨h₁.1, PySem.F.args_object_init_2 obj _, object_init_meets PySem.F.bm_called.init.lookup PySem.F.bm_called.made (by decide) prog w A.in1 _ s₁ ⟨h₁.1, rfl, h₁.2⟩⟩
end
end
-- H0
section
open Sem (wp)
section
variable {prog : Program} {w : World} {A : Around} {s : Shared}
/-- the root: a def with cells called by the claim's caller, in the lesser logic -/
theorem call_cellsP {R : Result → Shared → Prop} {name : Str} {params : Arguments} {body : List Stmt} {scope : Scope} {pm cd doc : Value} {a : Addr} {o : Obj} {args : List Value} {binds : List (Str × Value)}
    (hroom : A.depth < recursionLimit) (ho : s.heap.get? a = some o) (hdata : o.data = .func (Calls.docDef name params body scope pm cd doc)) (hlim : s.heap.NoLimit) (hcd : s.heap.CodeRec cd name)
    (hbind : BindsTo s (Calls.docDef name params body scope pm cd doc) ⟨args, []⟩ binds)
    (hkind : (binds.all fun y => scope.names.lookup y.1 == some .local || scope.names.lookup y.1 == some .cell) = true)
    (hnd : ((cellsFrom 0 scope.names []).map (·.1)).Nodup)
    (h : ∀ h₁ tk cells, Fr s.heap s.heap.objs.size h₁ (bindL (envOfC name scope s.heap.objs.size a cd).kindOf binds fun _ => none) → News s.heap s.heap.objs.size h₁ cells →
      CellsAre (bindC (envOfC name scope s.heap.objs.size a cd).kindOf binds fun _ => none) (cellsFrom (s.heap.objs.size + 1) scope.names []) cells →
      wpP (model prog w) (A.deeper (envOfC name scope s.heap.objs.size a cd)) (execs body (envOfC name scope s.heap.objs.size a cd))
        (fun f s' => R (.ok (.ret (match f with | .ret v => v | _ => .none))) s')
        (fun e s' => wpAny (model prog w) (A.deeper (envOfC name scope s.heap.objs.size a cd)) (leaving (envOfC name scope s.heap.objs.size a cd) e)
          (fun _ s'' => R (.error e) s'') (fun e' s'' => R (.error e') s'') s')
        { s with heap := h₁, toks := tk })
    (hco : scope.isCoroutine = false) (hgen : scope.isGenerator = false) (hk : scope.kind = .function) :
    codeP (model prog w) A (.call (.ref a) ⟨args, []⟩) R s := by
  refine codeP_call_fn (fd := Calls.docDef name params body scope pm cd doc) (body := body) hroom ho hdata hco hgen rfl hcd (hbind _ _ _ _ ?_)
  refine wpAny_newFunctionEnv_cells hk (kindsX hkind _) fun env' he s' x => ?_
  subst he
  refine Mine.by_op fun P9 bk9 => ?_
  obtain ⟨h₁, tk, e, _⟩ := x.done
  refine bk9 ?_; clear bk9 P9
  have hk₁ := x.toInCall.keep
  refine ⟨hlim.keeps hk₁, codeP_func ?_⟩
  refine Mine.by_op fun P9 bk9 => ?_
  obtain ⟨cells, NC, Y⟩ := Cl.news (h₀ := s.heap) (Nat.le_refl _) fun n c hm => ⟨x.cell n c (lookup_of_mem_nodup (cellsFrom_names scope.names 0 (s.heap.objs.size + 1) [] [] rfl ▸ hnd) hm), x.above n c hm⟩
  refine bk9 ?_; clear bk9 P9
  subst e
  exact h h₁ tk cells ⟨x.toInCall.ns, x.toInCall.keep, x.toInCall.fresh⟩ NC Y
theorem enter_callP {M : Model} {f : Value} {pos : List Value} {kw : List (Str × Value)} {c : ClaimW} {cl : Str → Option Addr} {mean : ExcName → Option Value} {args : List WData} {s₁ : Shared}
    (h : codeP M A (.call f ⟨pos, kw⟩) (GoodWG c cl mean args s₁) s) : wpP M A (PySem.call f pos kw) (fun v s' => GoodWG c cl mean args s₁ (.ok (.ret v)) s') (fun e s' => GoodWG c cl mean args s₁ (.error e) s') s :=
  wpP_call (codeP_mono h fun res s' g => by rcases g.1 with ⟨v, _, _, rfl, _⟩ | ⟨e, _, _, rfl, _⟩ <;> exact g)
end
end
-- PL4
section
open Sem (wp)
section
variable {prog : Program} {w : World} {A : Around} {E : Value → Shared → Prop} {s : Shared} {h₀ : Heap} {L : Addr} {m : Str → Option Value} {env : Env} {news : List (Addr × Obj)}
theorem comp_split (e : Expr) (scope : Scope) (pos : Pos) (na first : Sem Value) (ia : Bool) (use : Option (Value → Sem Unit)) : comprehension e scope env pos na ia first use = first >>= fun x => comprehension e scope env pos na ia (pure x) use := by
  unfold comprehension
  simp only [pure_bind]
theorem bytes_st {b : Array UInt8} {t : Tok} {I : Addr} : ∀ i (h h' : Heap) (o : Obj) (nw : List (Addr × Obj)), KBw.IsBytesIter h I b t i → h.get? I = some o → h'.get? I = some o → (∀ b o, h₀.get? b = some o → h'.get? b = some o) → News h₀ L h' nw → True → KBw.IsBytesIter h' I b t i :=
  fun i h h' o nw st e e' _ _ _ => by
    refine Mine.by_op fun P9 bk9 => ?_
    obtain ⟨o', q, r⟩ := st
    refine bk9 ?_; clear bk9 P9
    rw [e] at q; cases q
    exact ⟨o, e', r⟩
/-- a comprehension over bytes that a call of the lesser logic has given -/
theorem ListComp_bytes {elt iter : Expr} {x : Str} {px : Pos} {scope : Scope} {cl : List (Str × Addr)} {pos : Pos} {Q : Value → Shared → Prop}
    (hclos : closureFor scope env = pure cl) (hcell : ∀ y ∈ scope.names, y.2 ≠ .cell) (hkind : scope.kind = .function)
    (hnames : ∀ y ∈ scope.names, y.2 = .local → scope.names.lookup y.1 = some .local) (hx : scope.names.lookup x = some .local) (hh : A.handled = none)
    (h : wpP (model prog w) A (eval iter env) (fun xv s₁ => ∃ b t news, xv = .bytes b t ∧ b.size ≤ 100 ∧ Fr h₀ L s₁.heap m ∧ News h₀ L s₁.heap news ∧
      ∀ s₂ : Shared, (∃ h, s₂ = { s₁ with heap := h }) → LCg.CompRest prog w A h₀ L m env elt x scope cl s₂ (fun _ => True) (fun i v => ∃ c u, b[i]? = some c ∧ v = .int (c.toNat : Int) u) (LCg.FinE h₀ L m s₂ Q) b.size 0 [] news) E s)
    (hs : ∀ x, foldedSetIterable iter env x = pure x) : wpP (model prog w) A (eval (.ListComp elt [⟨.Name x px, iter, [], 0⟩] scope pos) env) Q E s := by
  rw [eval_ListComp, comp_split]
  refine wpP_bind (wpP_mono h (fun xv s₁ h₁ => ?_) fun _ _ e => e)
  refine Mine.by_op fun P9 bk9 => ?_
  obtain ⟨b, t, news, rfl, hsz, F, N, R⟩ := h₁
  refine bk9 ?_; clear bk9 P9
  refine wpP_of (wpAny_comprehension_free (use := none) rfl hs hclos hkind hnames (wpAny_pure ?_))
  refine KBw.pyIter_bytes ?_
  have up : ∀ c o, s₁.heap.get? c = some o → (s₁.heap.push { cls := .type "bytes_iterator", data := .fields #[.bytes b t, .int 0 0] }).get? c = some o := fun c o e => Heap.get?_push_of_some _ e
  refine LCg.block_U (KBw.walks hh s₁.heap.objs.size b t) (by rw [sizeLine_eq]; omega) (fun i h st => by obtain ⟨o, e, _⟩ := st; exact ⟨o, e⟩) bytes_st hcell hkind hx ⟨_, Heap.get?_push_size _ rfl, rfl, rfl⟩ (fun c hc => ?_)
    (F.keeps up) (N.grown up) (Nat.ne_of_lt F.ns.lt) (next_is_new F) (fun p hp => Nat.ne_of_lt (Heap.lt_size (N p hp).1)) trivial (R _ ⟨_, rfl⟩) ?_
  · rw [List.mem_singleton.mp hc]
    show s₁.heap.objs.size < (s₁.heap.push _).objs.size
    rw [Heap.size_push]; exact Nat.lt_succ_self _
  · intro D C h tk m' ys news' F' N' o1 hn hC₀ hD₀ hCL hDL hCD offC fin
    refine ⟨m', hn, fun h'' hs'' => fin D h'' tk (F'.change hs'' hCL hC₀) (fun p hp => ?_) o1⟩
    refine ⟨hs''.extBut _ _ ?_ (N' p hp).1, (N' p hp).2⟩
    rcases List.mem_cons.mp hp with rfl | hp
    · exact Ne.symm hCD
    · exact offC p hp
end
end
-- G10
section
local macro_rules | `(tactic| walk_at $s:str) => `(tactic| k_extra $(Lean.Syntax.mkStrLit ("xG10:" ++ s.getString)))
local macro_rules | `(tactic| walk_at $s:str) => `(tactic| k_extra $(Lean.Syntax.mkStrLit ("xG10:" ++ s.getString)))
theorem setup_G10 : True := by
  k_with "xG10:CompSrc" => (refine Mine.stop ?_)
  k_with "xG10:CompEnd" => (refine Mine.stop ?_)
  k_with "xG10:m:subr" => ((k_here; (with_unfolding_all refine' Mine.sub_refA ?zzk2 ?zzk3 ?zzk4 ?zzk7 ?zzk5 ?_ ?zzk6; (case zzk2 => k_asm); (case zzk3 => walk_at "m:mem"); (case zzk5 => assumption); (case zzk4 => walk_at "m:idx"); (case zzk7 => omega); (case zzk6 => with_unfolding_all rfl))))
  k_with "xG10:subscriptTail Name Name ref int" => (walk_at "m:subr")
  k_with "xG10:subscriptTail Subscript Name ref int" => (walk_at "m:subr")
  k_with "xG10:subscriptTail Name BinOp ref int" => (walk_at "m:subr")
  k_with "xG10:m:hide" => (have qB' := True.intro; have qD' := True.intro; have qF' := True.intro; have qFG' := True.intro; have qL' := True.intro; have qN' := True.intro; have qT' := True.intro; have qX' := True.intro; have qY' := True.intro; have qcells' := True.intro; have qd' := True.intro; have qfF := True.intro; have qg' := True.intro; have qh' := True.intro; have qh0' := True.intro; have qh1' := True.intro; have qhc' := True.intro; have qhd' := True.intro; have qhp := True.intro; have qhv' := True.intro; have qhz := True.intro; have qhz' := True.intro; have qjk' := True.intro; have qkj' := True.intro; have ql1 := True.intro; have ql2 := True.intro; have qlo' := True.intro; have qnE' := True.intro; have qo' := True.intro; have qo1' := True.intro; have qp := True.intro; have qtj' := True.intro; have qtk' := True.intro; have qtv' := True.intro; have qtx' := True.intro; have qvv' := True.intro; have qx' := True.intro; have qzz' := True.intro)
  k_with "xG10:m:bare" => (clear qB' qD' qF' qFG' qL' qN' qT' qX' qY' qcells' qd' qfF qg' qh' qh0' qh1' qhc' qhd' qhp qhv' qhz qhz' qjk' qkj' ql1 ql2 qlo' qnE' qo' qo1' qp qtj' qtk' qtv' qtx' qvv' qx' qzz')
  trivial
set_option synthInstance.maxSize 100000 in
set_option synthInstance.maxHeartbeats 800000 in
noncomputable def s_segF1 (d : (World × (ExcName → Option Value) × (Str → Option Value) × (Str → Option Value)) × (Around × Nat × Nat × (Option (List Code))) × (Addr × Value × Heap × Heap) × (Addr × (Str → Option Value) × (List (Addr × Obj)) × LawCells) × (Shared × Heap × Nat × (Flow → Shared → Prop)) × ((Value → Shared → Prop) × Addr × Addr × (Nat → Nat)) × ((Nat → Nat → List Nat) × Nat × Nat × Nat) × (Tok × Tok × (List Addr))) : Prop := ∀ (B : Below (d.2.1.1) (d.2.2.1.2.2.1) [] (d.2.2.1.2.2.2)) (X : (Mine.hd.heap_1 (d.1.1).params).In (d.2.2.1.2.2.2)) (TT : Top Mine.hd.view_1 (looseW Mine.hd.view_1 []) (d.1.2.1) (d.1.2.2.1) (d.1.2.2.2) (d.2.2.1.2.2.2)) (hd : (d.2.1.2.1) + 40 < recursionLimit) (hu : (d.2.1.2.2.1) + 8 * 40 < cLine) (F : Fr (d.2.2.1.2.2.2) (d.2.2.2.1.1) (d.2.2.2.2.1.2.1) (d.2.2.2.1.2.1)) (N : News (d.2.2.1.2.2.2) (d.2.2.2.1.1) (d.2.2.2.2.1.2.1) (cellLed (d.2.2.2.1.1) (d.2.2.2.1.2.2.2) ++ (d.2.2.2.1.2.2.1))) (hy : Young (d.2.2.2.1.1) (d.2.2.2.1.2.2.1)) (hk : (d.2.2.2.2.2.2.1.2.1) < 3) (hr3 : (d.2.2.2.2.2.2.1.2.2.1) < 3) (cS : (d.2.2.2.1.2.2.2).oS.data = .cell (some (.ref (d.2.2.2.2.2.1.2.1)))) (cG : (d.2.2.2.1.2.2.2).oG.data = .cell (some (.int ((d.2.2.2.2.2.2.1.2.1) : Int) (d.2.2.2.2.2.2.2.1)))) (cD : (d.2.2.2.1.2.2.2).oD.data = .cell (some (.ref (d.2.2.2.2.2.1.2.2.1)))) (cR : (d.2.2.2.1.2.2.2).oR.data = .cell (some (.int ((d.2.2.2.2.2.2.1.2.2.1) : Int) (d.2.2.2.2.2.2.2.2.1)))) (hS : ((d.2.2.2.2.2.1.2.1), listOf (List.toArray ((d.2.2.2.2.2.2.2.2.2).map Value.ref)) (d.2.2.2.2.2.2.1.2.2.2)) ∈ (d.2.2.2.1.2.2.1)) (hras : (d.2.2.2.2.2.2.2.2.2).length = (d.2.2.2.2.2.2.1.2.1) + 1) (hst : Stages (d.1.1) (d.2.2.2.2.2.1.2.2.2) (d.2.2.2.1.2.2.1) (d.2.2.2.2.2.2.2.2.2) (d.2.2.2.2.2.2.1.1)) (hw : Walks ((d.2.2.2.2.2.2.1.1) (d.2.2.2.2.2.2.1.2.1)) (d.2.2.2.2.2.2.1.2.1)) (hD : Doors (d.1.1) (d.2.2.2.1.2.2.1) (d.2.2.2.2.2.1.2.2.1) (d.2.2.2.2.2.1.2.2.2)) (ret : ∀ h' tk' aT add (rs : List Addr), Fr (d.2.2.1.2.2.2) (d.2.2.2.1.1) h' (fun z => if z = Str.ofString "tried" then some (.ref aT) else (d.2.2.2.1.2.1) z) → News (d.2.2.1.2.2.2) (d.2.2.2.1.1) h' (cellLed (d.2.2.2.1.1) (d.2.2.2.1.2.2.2) ++ (add ++ (d.2.2.2.1.2.2.1))) → Young (d.2.2.2.1.1) add → Apart add (d.2.2.2.1.2.2.1) → (aT, listOf (List.toArray (rs.map Value.ref)) 3) ∈ add → rs.length = 3 → (∀ u a', rs[u]? = some a' → IsStat (d.1.1) add a' (wst (d.2.2.2.2.2.1.2.2.2) ((d.2.2.2.2.2.2.1.2.2.1) :: (d.2.2.2.2.2.2.1.1) (d.2.2.2.2.2.2.1.2.1) u))) → (d.2.2.2.2.1.2.2.2) .next { (d.2.2.2.2.1.1) with heap := h', toks := tk' }), wpAny (model PySem.Challenge.rw_zo0012_01.row.prog (d.1.1)) (lawA (d.1.1).params (d.2.1.2.1) (d.2.1.2.2.1) (d.2.1.2.2.2) (d.2.2.2.1.1) (d.2.2.1.1) (d.2.2.1.2.1)) (execs ((lawRm (d.1.1).params).take 1) (lawEnv (d.1.1).params (d.2.2.2.1.1) (d.2.2.1.1) (d.2.2.1.2.1))) (d.2.2.2.2.1.2.2.2) (d.2.2.2.2.2.1.1) { (d.2.2.2.2.1.1) with heap := (d.2.2.2.2.1.2.1), toks := (d.2.2.2.2.1.2.2.1) }
set_option synthInstance.maxSize 100000 in
set_option synthInstance.maxHeartbeats 800000 in
@[irreducible] noncomputable def k_segF1 : (World × (ExcName → Option Value) × (Str → Option Value) × (Str → Option Value)) × (Around × Nat × Nat × (Option (List Code))) × (Addr × Value × Heap × Heap) × (Addr × (Str → Option Value) × (List (Addr × Obj)) × LawCells) × (Shared × Heap × Nat × (Flow → Shared → Prop)) × ((Value → Shared → Prop) × Addr × Addr × (Nat → Nat)) × ((Nat → Nat → List Nat) × Nat × Nat × Nat) × (Tok × Tok × (List Addr)) := pick (by haveI := ne_World; haveI := ne_Around; haveI := ne_Shared; haveI := ne_Cells; exact inferInstance) s_segF1
theorem segF1_c : s_segF1 k_segF1 := by
  delta s_segF1
  intro B X TT hd hu F N hy hk hr3 cS cG cD cR hS hras hst hw hD ret
  walk_at "m:fill"
  simp only [cellLed, List.cons_append, List.nil_append] at N
  dsimp only [lawRm, lawSt, fBs]
  walk_at "m:body"
  k_steps
  (walk_at "m:hide"; rename_i h1 tk1 u1 u2 u3 hr F1 N1 kp; walk_at "m:bare")
  unfold Stop
  refine LCg.CompSrc.range (n := 3) (by rfl) F1 (news := cellLed (k_segF1.2.2.2.1.1) (k_segF1.2.2.2.1.2.2.2) ++ ([] ++ (k_segF1.2.2.2.1.2.2.1))) N1 hr (by decide) (by decide) (by decide) ?_
  intro g'
  refine comp_inv (fun i ys news₁ => ∃ Ti, news₁ = cellLed (k_segF1.2.2.2.1.1) (k_segF1.2.2.2.1.2.2.2) ++ (Ti ++ (k_segF1.2.2.2.1.2.2.1)) ∧ Apart Ti (k_segF1.2.2.2.1.2.2.1) ∧ Young (k_segF1.2.2.2.1.1) Ti ∧ ∃ rs : List Addr, ys = rs.map Value.ref ∧ rs.length = i ∧ ∀ u a', rs[u]? = some a' → IsStat (k_segF1.1.1) Ti a' (wst (k_segF1.2.2.2.2.2.1.2.2.2) ((k_segF1.2.2.2.2.2.2.1.2.2.1) :: (k_segF1.2.2.2.2.2.2.1.1) (k_segF1.2.2.2.2.2.2.1.2.1) u))) ⟨[], rfl, apart_nil, young_nil, [], rfl, rfl, fun u a' e => by rw [List.getElem?_nil] at e; cases e⟩ ?_ ?_
  · intro i v ys news₁ I oI C oC D m₂ h2 tk2 E' hi qz149 hyl qz169 hC hx F2 N2 off ne
    refine Mine.by_op fun P9 bk9 => ?_
    obtain ⟨tI, rfl⟩ := qz149
    obtain ⟨Ti, rfl, hap, hyi, rs, rfl, hrs, hst'⟩ := qz169
    refine bk9 ?_; clear bk9 P9
    replace N2 : News (k_segF1.2.2.1.2.2.2) (k_segF1.2.2.2.1.1) h2 ((I, oI) :: (C, oC) :: (D, LCg.lst (rs.map Value.ref)) :: (cellLed (k_segF1.2.2.2.1.1) (k_segF1.2.2.2.1.2.2.2) ++ (Ti ++ (k_segF1.2.2.2.1.2.2.1)))) := N2
    have N3 := N2
    simp only [cellLed, List.cons_append, List.nil_append] at N3
    rw [Int.zero_add] at hx
    have hS' : ((k_segF1.2.2.2.2.2.1.2.1), listOf (List.toArray ((k_segF1.2.2.2.2.2.2.2.2.2).map Value.ref)) (k_segF1.2.2.2.2.2.2.1.2.2.2)) ∈ Ti ++ (k_segF1.2.2.2.1.2.2.1) := List.mem_append_right _ hS
    obtain ⟨rk, hrk⟩ := at_of_len hras (Nat.lt_succ_self (k_segF1.2.2.2.2.2.2.1.2.1))
    refine Mine.by_op fun P9 bk9 => ?_
    obtain ⟨rsk, nk, hsk1, hsk2, hsk3⟩ := hst (k_segF1.2.2.2.2.2.2.1.2.1) rk hrk
    refine bk9 ?_; clear bk9 P9
    have hsk1' : (rk, listOf (List.toArray (rsk.map Value.ref)) nk) ∈ Ti ++ (k_segF1.2.2.2.1.2.2.1) := List.mem_append_right _ hsk1
    refine Mine.by_op fun P9 bk9 => ?_
    obtain ⟨rd, nd, hd1, hd2, hd3⟩ := hD
    refine bk9 ?_; clear bk9 P9
    have hd1' : ((k_segF1.2.2.2.2.2.1.2.2.1), listOf (List.toArray (rd.map Value.ref)) nd) ∈ Ti ++ (k_segF1.2.2.2.1.2.2.1) := List.mem_append_right _ hd1
    have hidx : 3 * i + (k_segF1.2.2.2.2.2.2.1.2.2.1) < 9 := by omega
    obtain ⟨ri, hri⟩ := at_of_len hsk2 hi
    obtain ⟨rdi, hrdi⟩ := at_of_len hd2 hidx
    clear F1 N1 hr kp N2
    k_steps
    have hpre := afs_pre (k_segF1.2.2.2.2.2.1.2.2.2) (l := (k_segF1.2.2.2.2.2.2.1.1) (k_segF1.2.2.2.2.2.2.1.2.1) i) (3 * i + (k_segF1.2.2.2.2.2.2.1.2.2.1)) (by obtain ⟨l, e, hl⟩ := hw i hi; rw [e, List.length_cons]; omega)
    have hsub : ∀ p ∈ (k_segF1.2.2.2.1.2.2.1), p ∈ Ti ++ (k_segF1.2.2.2.1.2.2.1) := fun p hp => List.mem_append_right _ hp
    k_dflt (refine' gives_use (afs (k_segF1.1.1) (wst (k_segF1.2.2.2.2.2.1.2.2.2) ((k_segF1.2.2.2.2.2.2.1.1) (k_segF1.2.2.2.2.2.2.1.2.1) i)) (dstat (k_segF1.2.2.2.2.2.1.2.2.2) (3 * i + (k_segF1.2.2.2.2.2.2.1.2.2.1))) (nm (3 * i + (k_segF1.2.2.2.2.2.2.1.2.2.1))) 1) ?zzk1 ?zzk2 ?zzk3 ?zzk4 ?zzk5 ?zzk6 ?zzk7 ?zzk8 ?zzk9 ?_; walk_at "m:give"; (case zzk7 => exact ⟨_, _, rfl, isStat_mono (hsk3 i ri hri) (fun p hp => by have hp' := hsub p hp; walk_at "m:mem"), isStat_mono (hd3 _ rdi hrdi) (fun p hp => by have hp' := hsub p hp; walk_at "m:mem"), rfl, hpre.1, hpre.2⟩))
    intro r9 add9 h9 tk9 F9 N9 lt9 out9
    refine Mine.by_op fun P9 bk9 => ?_
    obtain ⟨R9, hr9, hst9, hl9⟩ := out9
    refine bk9 ?_; clear bk9 P9
    subst hr9
    replace N9 : News (k_segF1.2.2.1.2.2.2) (k_segF1.2.2.2.1.1) h9 (add9 ++ ((I, oI) :: (C, oC) :: (D, LCg.lst (rs.map Value.ref)) :: (cellLed (k_segF1.2.2.2.1.1) (k_segF1.2.2.2.1.2.2.2) ++ (Ti ++ (k_segF1.2.2.2.1.2.2.1))))) := N9
    replace lt9 : ∀ q ∈ (I, oI) :: (C, oC) :: (D, LCg.lst (rs.map Value.ref)) :: (cellLed (k_segF1.2.2.2.1.1) (k_segF1.2.2.2.1.2.2.2) ++ (Ti ++ (k_segF1.2.2.2.1.2.2.1))), ∀ p ∈ add9, q.1 < p.1 := lt9
    refine LCg.CompEnd.intro F9 N9 (cellLed (k_segF1.2.2.2.1.1) (k_segF1.2.2.2.1.2.2.2) ++ ((add9 ++ Ti) ++ (k_segF1.2.2.2.1.2.2.1))) mem_shuffle (off3_add off lt9) trivial ⟨add9 ++ Ti, rfl, apart_lt (fun q hq p hp => lt9 q (.tail _ (.tail _ (.tail _ (List.mem_append_right _ (List.mem_append_right _ hq))))) p hp) hap, young_lt (c := (k_segF1.2.2.2.1.2.2.2)) (R := Ti ++ (k_segF1.2.2.2.1.2.2.1)) (fun q hq p hp => lt9 q (.tail _ (.tail _ (.tail _ hq))) p hp) hyi, rs ++ [R9], by rw [List.map_append]; rfl, by rw [List.length_append, hrs]; rfl, ?_⟩
    intro u a' hu'
    by_cases hui : u < i
    · rw [List.getElem?_append_left (by omega)] at hu'
      exact isStat_mono (hst' u a' hu') fun p hp => List.mem_append_right _ hp
    · have hul : u < (rs ++ [R9]).length := (List.getElem?_eq_some_iff.mp hu').1
      rw [List.length_append, hrs] at hul
      have e1 : [R9].length = 1 := rfl
      refine Mine.by_op fun P9 bk9 => ?_
      obtain rfl : u = i := by omega
      refine bk9 ?_; clear bk9 P9
      rw [List.getElem?_append_right (by omega), hrs, Nat.sub_self] at hu'
      cases hu'
      refine Mine.by_op fun P9 bk9 => ?_
      obtain ⟨l, el, _⟩ := hw u hi
      refine bk9 ?_; clear bk9 P9
      rw [el] at hst9 ⊢
      exact isStat_mono hst9 fun p hp => List.mem_append_left _ hp
  · intro ys news' hyl qz39
    refine Mine.by_op fun P9 bk9 => ?_
    obtain ⟨Ti, rfl, hap, hyi, rs, rfl, hrs, hst'⟩ := qz39
    refine bk9 ?_; clear bk9 P9
    unfold LCg.FinA
    intro D h2 tk2 F2 N2 o1
    refine wpAny_execs_nil ?_
    refine ret h2 tk2 D ((D, LCg.lst (rs.map Value.ref)) :: Ti) rs F2 (perm_cells (add := [(D, _)]) (A := cellLed (k_segF1.2.2.2.1.1) (k_segF1.2.2.2.1.2.2.2)) (T := Ti ++ (k_segF1.2.2.2.1.2.2.1)) N2) ?_ ?_ ?_ hrs (fun u a' e => isStat_mono (hst' u a' e) fun p hp => .tail _ hp)
    · exact young_off (c := (k_segF1.2.2.2.1.2.2.2)) o1 hyi
    · intro p hp q hq
      rcases List.mem_cons.mp hp with hp | hp
      · rw [hp]; exact off1_mem o1 q (List.mem_append_right _ (List.mem_append_right _ hq))
      · exact hap p hp q hq
    · rw [lst3 hyl]; exact .head _
theorem segF1 (w : World) {mean : ExcName → Option Value} {mg mb : Str → Option Value} {A₀ : Around} {dp un : Nat} {gd : Option (List Code)} {fa : Addr} {cd : Value} {base g : Heap} {L : Addr} {m : Str → Option Value} {T : List (Addr × Obj)} {c : LawCells} {s : Shared} {h : Heap} {tk : Nat} {Q : Flow → Shared → Prop} {E : Value → Shared → Prop}
    (B : Below A₀ base [] g) (X : (Mine.hd.heap_1 w.params).In g) (TT : Top Mine.hd.view_1 (looseW Mine.hd.view_1 []) mean mg mb g) (hd : dp + 40 < recursionLimit) (hu : un + 8 * 40 < cLine)
    (F : Fr g L h m) (N : News g L h (cellLed L c ++ T)) (hy : Young L T)
    {aS aD : Addr} {y : Nat → Nat} {ws : Nat → Nat → List Nat} {k r nS : Nat} {tG tR : Tok} {ras : List Addr} (hk : k < 3) (hr3 : r < 3)
    (cS : c.oS.data = .cell (some (.ref aS))) (cG : c.oG.data = .cell (some (.int (k : Int) tG))) (cD : c.oD.data = .cell (some (.ref aD))) (cR : c.oR.data = .cell (some (.int (r : Int) tR)))
    (hS : (aS, listOf (List.toArray (ras.map Value.ref)) nS) ∈ T) (hras : ras.length = k + 1) (hst : Stages w y T ras ws) (hw : Walks (ws k) k) (hD : Doors w T aD y)
    (ret : ∀ h' tk' aT add (rs : List Addr), Fr g L h' (fun z => if z = Str.ofString "tried" then some (.ref aT) else m z) → News g L h' (cellLed L c ++ (add ++ T)) → Young L add → Apart add T → (aT, listOf (List.toArray (rs.map Value.ref)) 3) ∈ add → rs.length = 3 → (∀ u a', rs[u]? = some a' → IsStat w add a' (wst y (r :: ws k u))) → Q .next { s with heap := h', toks := tk' }) : wpAny (model PySem.Challenge.rw_zo0012_01.row.prog w) (lawA w.params dp un gd L fa cd) (execs ((lawRm w.params).take 1) (lawEnv w.params L fa cd)) Q E { s with heap := h, toks := tk } :=
  pick_all k_segF1.eq_1 segF1_c ((w, mean, mg, mb), (A₀, dp, un, gd), (fa, cd, base, g), (L, m, T, c), (s, h, tk, Q), (E, aS, aD, y), (ws, k, r, nS), (tG, tR, ras)) B X TT hd hu F N hy hk hr3 cS cG cD cR hS hras hst hw hD ret
end
-- G11
section
local macro_rules | `(tactic| walk_at $s:str) => `(tactic| k_extra $(Lean.Syntax.mkStrLit ("xG11:" ++ s.getString)))
theorem setup_G11 : True := by
  k_with "xG11:m:subr" => ((k_here; (with_unfolding_all refine' Mine.sub_refA ?zzk2 ?zzk3 ?zzk4 ?zzk7 ?zzk5 ?_ ?zzk6; (case zzk2 => k_asm); (case zzk3 => walk_at "m:mem"); (case zzk5 => assumption); (case zzk4 => walk_at "m:idx"); (case zzk7 => omega); (case zzk6 => with_unfolding_all rfl))))
  k_with "xG11:m:subt" => ((k_here; (with_unfolding_all refine' Mine.sub_tupN ?zzk1 ?zzk2 ?zzk3 ?zzk4 ?zzk5 ?_ ?zzk6; (case zzk1 => k_asm); (case zzk2 => walk_at "m:mem"); (case zzk3 => decide); (case zzk4 => decide); (case zzk5 => rfl); (case zzk6 => with_unfolding_all rfl))))
  k_with "xG11:subscriptTail Name Name ref int" => (walk_at "m:subr")
  k_with "xG11:subscriptTail Name Constant ref int" => (first | walk_at "m:subr" | walk_at "m:subt")
  k_with "xG11:subscriptTail Subscript Constant ref int" => (walk_at "m:subt")
  k_with "xG11:m:hide" => (have qB' := True.intro; have qD' := True.intro; have qF' := True.intro; have qFG' := True.intro; have qL' := True.intro; have qN' := True.intro; have qT' := True.intro; have qX' := True.intro; have qY' := True.intro; have qcells' := True.intro; have qd' := True.intro; have qfF := True.intro; have qg' := True.intro; have qh' := True.intro; have qh0' := True.intro; have qh1' := True.intro; have qhc' := True.intro; have qhd' := True.intro; have qhp := True.intro; have qhv' := True.intro; have qhz := True.intro; have qhz' := True.intro; have qjk' := True.intro; have qkj' := True.intro; have ql1 := True.intro; have ql2 := True.intro; have qlo' := True.intro; have qnE' := True.intro; have qo' := True.intro; have qo1' := True.intro; have qp := True.intro; have qtj' := True.intro; have qtk' := True.intro; have qtv' := True.intro; have qtx' := True.intro; have qvv' := True.intro; have qx' := True.intro; have qzz' := True.intro)
  k_with "xG11:m:bare" => (clear qB' qD' qF' qFG' qL' qN' qT' qX' qY' qcells' qd' qfF qg' qh' qh0' qh1' qhc' qhd' qhp qhv' qhz qhz' qjk' qkj' ql1 ql2 qlo' qnE' qo' qo1' qp qtj' qtk' qtv' qtx' qvv' qx' qzz')
  trivial
set_option synthInstance.maxSize 100000 in
set_option synthInstance.maxHeartbeats 800000 in
noncomputable def s_segF2 (d : (World × (ExcName → Option Value) × (Str → Option Value) × (Str → Option Value)) × (Around × Nat × Nat × (Option (List Code))) × (Addr × Value × Heap × Heap) × (Addr × (Str → Option Value) × (List (Addr × Obj)) × LawCells) × (Shared × Heap × Nat × (Flow → Shared → Prop)) × ((Value → Shared → Prop) × Addr × Addr × Nat) × ((List Addr) × (Nat → Stat))) : Prop := ∀ (B : Below (d.2.1.1) (d.2.2.1.2.2.1) [] (d.2.2.1.2.2.2)) (X : (Mine.hd.heap_1 (d.1.1).params).In (d.2.2.1.2.2.2)) (TT : Top Mine.hd.view_1 (looseW Mine.hd.view_1 []) (d.1.2.1) (d.1.2.2.1) (d.1.2.2.2) (d.2.2.1.2.2.2)) (hd : (d.2.1.2.1) + 40 < recursionLimit) (hu : (d.2.1.2.2.1) + 8 * 40 < cLine) (F : Fr (d.2.2.1.2.2.2) (d.2.2.2.1.1) (d.2.2.2.2.1.2.1) (d.2.2.2.1.2.1)) (N : News (d.2.2.1.2.2.2) (d.2.2.2.1.1) (d.2.2.2.2.1.2.1) (cellLed (d.2.2.2.1.1) (d.2.2.2.1.2.2.2) ++ (d.2.2.2.1.2.2.1))) (hy : Young (d.2.2.2.1.1) (d.2.2.2.1.2.2.1)) (hE : PassesOwn (model PySem.Challenge.rw_zo0012_01.row.prog (d.1.1)) (lawA (d.1.1).params (d.2.1.2.1) (d.2.1.2.2.1) (d.2.1.2.2.2) (d.2.2.2.1.1) (d.2.2.1.1) (d.2.2.1.2.1)) (lawEnv (d.1.1).params (d.2.2.2.1.1) (d.2.2.1.1) (d.2.2.1.2.1)) (d.2.2.2.2.2.1.1)) (mT : (d.2.2.2.1.2.1) (Str.ofString "tried") = some (.ref (d.2.2.2.2.2.1.2.1))) (mO : (d.2.2.2.1.2.1) (Str.ofString "order") = some (.ref (d.2.2.2.2.2.1.2.2.1))) (hO : IsOrder (d.2.2.2.1.2.2.1) (d.2.2.2.2.2.1.2.2.1)) (hT : ((d.2.2.2.2.2.1.2.1), listOf (List.toArray ((d.2.2.2.2.2.2.1).map Value.ref)) (d.2.2.2.2.2.1.2.2.2)) ∈ (d.2.2.2.1.2.2.1)) (hrs : (d.2.2.2.2.2.2.1).length = 3) (hst : ∀ u a', (d.2.2.2.2.2.2.1)[u]? = some a' → IsStat (d.1.1) (d.2.2.2.1.2.2.1) a' ((d.2.2.2.2.2.2.2) u)) (ret : ∀ h' tk' m' aK b t1 t2 nK add, Fr (d.2.2.1.2.2.2) (d.2.2.2.1.1) h' m' → News (d.2.2.1.2.2.2) (d.2.2.2.1.1) h' (cellLed (d.2.2.2.1.1) (d.2.2.2.1.2.2.2) ++ (add ++ (d.2.2.2.1.2.2.1))) → Young (d.2.2.2.1.1) add → Apart add (d.2.2.2.1.2.2.1) → (∀ z, z ≠ Str.ofString "kept" → z ≠ Str.ofString "u" → m' z = (d.2.2.2.1.2.1) z) → m' (Str.ofString "kept") = some (.ref aK) →
      (aK, tupObj [.int ((d.2.2.2.2.2.2.2) b).ct t1, .int ((b : Nat) : Int) t2] nK) ∈ add → b < 3 → (∀ v, v < 3 → ((d.2.2.2.2.2.2.2) v).ct ≤ ((d.2.2.2.2.2.2.2) b).ct) → (d.2.2.2.2.1.2.2.2) .next { (d.2.2.2.2.1.1) with heap := h', toks := tk' }), wpAny (model PySem.Challenge.rw_zo0012_01.row.prog (d.1.1)) (lawA (d.1.1).params (d.2.1.2.1) (d.2.1.2.2.1) (d.2.1.2.2.2) (d.2.2.2.1.1) (d.2.2.1.1) (d.2.2.1.2.1)) (execs (((lawRm (d.1.1).params).drop 1).take 2) (lawEnv (d.1.1).params (d.2.2.2.1.1) (d.2.2.1.1) (d.2.2.1.2.1))) (d.2.2.2.2.1.2.2.2) (d.2.2.2.2.2.1.1) { (d.2.2.2.2.1.1) with heap := (d.2.2.2.2.1.2.1), toks := (d.2.2.2.2.1.2.2.1) }
set_option synthInstance.maxSize 100000 in
set_option synthInstance.maxHeartbeats 800000 in
@[irreducible] noncomputable def k_segF2 : (World × (ExcName → Option Value) × (Str → Option Value) × (Str → Option Value)) × (Around × Nat × Nat × (Option (List Code))) × (Addr × Value × Heap × Heap) × (Addr × (Str → Option Value) × (List (Addr × Obj)) × LawCells) × (Shared × Heap × Nat × (Flow → Shared → Prop)) × ((Value → Shared → Prop) × Addr × Addr × Nat) × ((List Addr) × (Nat → Stat)) := pick (by haveI := ne_World; haveI := ne_Around; haveI := ne_Shared; haveI := ne_Cells; haveI := ne_Stat; exact inferInstance) s_segF2
theorem segF2_c : s_segF2 k_segF2 := by
  delta s_segF2
  intro B X TT hd hu F N hy hE mT mO hO hT hrs hst ret
  walk_at "m:fill"
  simp only [cellLed, List.cons_append, List.nil_append] at N
  replace F := Mine.Fr.know2 F mT mO
  obtain ⟨r0, hr0⟩ := at_of_len hrs (Nat.succ_pos 2)
  refine Mine.by_op fun P9 bk9 => ?_
  obtain ⟨q1, q2, q3, q4, qd, qn, qo, e0, _⟩ := hst 0 r0 hr0
  refine bk9 ?_; clear bk9 P9
  dsimp only [lawRm, lawSt, fBs]
  dsimp only [lawS, lawEnv, lawA, lawParts] at hE B
  walk_at "m:body"
  k_steps
  (walk_at "m:hide"; rename_i D1 h1 lD h2 F2 N2 h3 tk3 u1 u2 u3 hr F3 N3 kp htk3; walk_at "m:bare")
  refine Mine.by_op fun P9 bk9 => ?_
  obtain ⟨l11, l10, l9, l8, l7, l6, l5, l4, l3, l2, l1, lT⟩ := lD
  refine bk9 ?_; clear bk9 P9
  refine iter_rangeT (n := 2) (fun i m' led' => ∃ Ti aK b t1 t2 nK, led' = cellLed (k_segF2.2.2.2.1.1) (k_segF2.2.2.2.1.2.2.2) ++ (Ti ++ (k_segF2.2.2.2.1.2.2.1)) ∧ Apart Ti (k_segF2.2.2.2.1.2.2.1) ∧ Young (k_segF2.2.2.2.1.1) Ti ∧ (∀ z, z ≠ Str.ofString "kept" → z ≠ Str.ofString "u" → m' z = (k_segF2.2.2.2.1.2.1) z) ∧ m' (Str.ofString "kept") = some (.ref aK) ∧ (aK, tupObj [.int ((k_segF2.2.2.2.2.2.2.2) b).ct t1, .int ((b : Nat) : Int) t2] nK) ∈ Ti ∧ b < i + 1 ∧ (∀ v, v < i + 1 → ((k_segF2.2.2.2.2.2.2.2) v).ct ≤ ((k_segF2.2.2.2.2.2.2.2) b).ct)) (by rfl) hr (by decide) (by decide) F3 (perm_cells (add := [(D1, _)]) (A := cellLed (k_segF2.2.2.2.1.1) (k_segF2.2.2.2.1.2.2.2)) (T := (k_segF2.2.2.2.1.2.2.1)) N3)
    ⟨[(D1, _)], D1, 0, _, _, _, rfl, apart_cons (allLt_ne lT) apart_nil, young_cons (by omega) young_nil, ?_, rfl, .head _, Nat.lt_succ_self _, ?_⟩ (by intros; exact Expr.noConfusion) (by intros; exact Expr.noConfusion) ?_ ?_
  · intro z hz1 hz2
    (try dsimp only)
    rw [if_neg hz1]
    exact know_ite mT (know_ite mO fun _ => rfl) z
  · intro v hv
    refine Mine.by_op fun P9 bk9 => ?_
    obtain rfl : v = 0 := by omega
    refine bk9 ?_; clear bk9 P9
    exact Int.le_refl _
  · intro i ti m₁ led₁ h4 tk4 I oI htk4 hi qz109 F4 N4 off
    refine Mine.by_op fun P9 bk9 => ?_
    obtain ⟨Ti, aK, b, t1, t2, nK, rfl, hap, hyi, hm1, hmK, hKm, hb, hbest⟩ := qz109
    refine bk9 ?_; clear bk9 P9
    rw [show (1 : Int) + (i : Int) = ((i + 1 : Nat) : Int) by omega]
    replace N4 : News (k_segF2.2.2.1.2.2.2) (k_segF2.2.2.2.1.1) h4 _ := N4
    replace F4 : Fr (k_segF2.2.2.1.2.2.2) (k_segF2.2.2.2.1.1) h4 _ := F4
    have mT1 : m₁ (Str.ofString "tried") = some (.ref (k_segF2.2.2.2.2.2.1.2.1)) := (hm1 _ (by decide +kernel) (by decide +kernel)).trans mT
    have mO1 : m₁ (Str.ofString "order") = some (.ref (k_segF2.2.2.2.2.2.1.2.2.1)) := (hm1 _ (by decide +kernel) (by decide +kernel)).trans mO
    replace F4 := Mine.Fr.know3 F4 mT1 mO1 hmK
    obtain ⟨ru, hru⟩ := at_of_len hrs (show i + 1 < 3 by omega)
    refine Mine.by_op fun P9 bk9 => ?_
    obtain ⟨p1, p2, p3, p4, pd, pn, po, e1, _⟩ := hst _ ru hru
    refine bk9 ?_; clear bk9 P9
    have hT' : ((k_segF2.2.2.2.2.2.1.2.1), listOf (List.toArray ((k_segF2.2.2.2.2.2.2.1).map Value.ref)) (k_segF2.2.2.2.2.2.1.2.2.2)) ∈ Ti ++ (k_segF2.2.2.2.1.2.2.1) := List.mem_append_right _ hT
    have e1' := List.mem_append_right Ti e1
    have hK' := List.mem_append_left (k_segF2.2.2.2.1.2.2.1) hKm
    clear F2 N2 F3 N3 kp hr e0
    have hO' := hO
    refine Mine.by_op fun P9 bk9 => ?_
    obtain ⟨dx, sel, p1', p2', hs, t0', t1', t2', t3', t4', n1', n2', n3', n4', hx1, hx2, _⟩ := hO'
    refine bk9 ?_; clear bk9 P9
    replace N4 := news_dup (news_dup N4 (.tail _ (List.mem_append_right _ (List.mem_append_right _ hx2)))) (.tail _ (.tail _ (List.mem_append_right _ (List.mem_append_right _ hx1))))
    simp only [cellLed, List.cons_append, List.nil_append] at N4 off
    k_with "xG11:call ref" => ((with_reducible show wpAny _ _ (call (Value.ref 49) _) _ _ _); k_dflt (refine' gives_use (cmpr (k_segF2.1.1) ((k_segF2.2.2.2.2.2.2.2) (i + 1)).ct ((i + 1 : Nat) : Int) ((k_segF2.2.2.2.2.2.2.2) b).ct (b : Int)) ?zzk1 ?zzk2 ?zzk3 ?zzk4 ?zzk5 ?zzk6 ?zzk7 ?zzk8 ?zzk9 ?_; walk_at "m:give"; (case zzk7 => exact ⟨_, _, _, _, _, _, _, _, _, rfl, order_mono hO (fun p hp => by have hp' := List.mem_append_right Ti hp; walk_at "m:mem"), .head _, by walk_at "m:mem"⟩)); refine Mine.ret_nil ?_; intro t9 h9 tk9 F9 N9; (try dsimp only); (try k_fold))
    k_steps
    · (walk_at "m:hide"; rename_i hA D2 hB l2a hc D3 hC l3a h10 F10 N10; walk_at "m:bare")
      have hl2 := allLt_mem (d := D2) (l := ((k_segF2.2.2.2.2.2.1.2.2.1), oI) :: (dx, oI) :: (I, oI) :: (cellLed (k_segF2.2.2.2.1.1) (k_segF2.2.2.2.1.2.2.2) ++ (Ti ++ (k_segF2.2.2.2.1.2.2.1)))) l2a
      have hl3 := allLt_mem (d := D3) (l := (D2, oI) :: ((k_segF2.2.2.2.2.2.1.2.2.1), oI) :: (dx, oI) :: (I, oI) :: (cellLed (k_segF2.2.2.2.1.1) (k_segF2.2.2.2.1.2.2.2) ++ (Ti ++ (k_segF2.2.2.2.1.2.2.1)))) l3a
      have hbi := (cmpv_neg (a := ((k_segF2.2.2.2.2.2.2.2) (i + 1)).ct) (b := ((k_segF2.2.2.2.2.2.2.2) b).ct) hb).1 hc
      refine Mine.TurnEnd.intro (cellLed (k_segF2.2.2.2.1.1) (k_segF2.2.2.2.1.2.2.2) ++ (([(D3, _), (D2, _)] ++ Ti) ++ (k_segF2.2.2.2.1.2.2.1))) F10 N10 (turn_sub (Y := [(D3, _), (D2, _)]) (all_two (.head _) (.tail _ (.head _))) (fun p hp => .tail _ (.tail _ (.tail _ (.tail _ hp)))))
        (turn_off (fun p hp => off p hp) (all_two (hl3 (I, oI) (.tail _ (.tail _ (.tail _ (.head _))))) (hl2 (I, oI) (.tail _ (.tail _ (.head _))))))
        ⟨[(D3, _), (D2, _)] ++ Ti, D3, i + 1, _, _, _, rfl, ?_, ?_, ?_, rfl, .head _, Nat.lt_succ_self _, ?_⟩
      · exact apart_cons (fun q hq => Nat.ne_of_lt (hl3 q (.tail _ (.tail _ (.tail _ (.tail _ (List.mem_append_right _ (List.mem_append_right _ hq)))))))) (apart_cons (fun q hq => Nat.ne_of_lt (hl2 q (.tail _ (.tail _ (.tail _ (List.mem_append_right _ (List.mem_append_right _ hq))))))) hap)
      · exact young_cons (hl3 ((k_segF2.2.2.2.1.1) + 11, (k_segF2.2.2.2.1.2.2.2).oQ) (.tail _ (.tail _ (.tail _ (.tail _ (.head _)))))) (young_cons (hl2 ((k_segF2.2.2.2.1.1) + 11, (k_segF2.2.2.2.1.2.2.2).oQ) (.tail _ (.tail _ (.tail _ (.head _))))) hyi)
      · intro z hz1 hz2
        (try dsimp only)
        rw [if_neg hz1, if_neg hz2]
        exact (know_ite mT1 (know_ite mO1 (know_ite hmK fun _ => rfl)) z).trans (hm1 z hz1 hz2)
      · intro v hv
        by_cases hvi : v < i + 1
        · exact Int.le_trans (hbest v hvi) hbi
        · refine Mine.by_op fun P9 bk9 => ?_
          obtain rfl : v = i + 1 := by omega
          refine bk9 ?_; clear bk9 P9
          exact Int.le_refl _
    · (walk_at "m:hide"; rename_i hA D2 h8 F8 N8 l2a hc; walk_at "m:bare")
      have hl2 := allLt_mem (d := D2) (l := ((k_segF2.2.2.2.2.2.1.2.2.1), oI) :: (dx, oI) :: (I, oI) :: (cellLed (k_segF2.2.2.2.1.1) (k_segF2.2.2.2.1.2.2.2) ++ (Ti ++ (k_segF2.2.2.2.1.2.2.1)))) l2a
      have hbi := (cmpv_neg (a := ((k_segF2.2.2.2.2.2.2.2) (i + 1)).ct) (b := ((k_segF2.2.2.2.2.2.2.2) b).ct) hb).2 hc
      refine Mine.TurnEnd.intro (cellLed (k_segF2.2.2.2.1.1) (k_segF2.2.2.2.1.2.2.2) ++ (([(D2, _)] ++ Ti) ++ (k_segF2.2.2.2.1.2.2.1))) F9 N9 (turn_sub (Y := [(D2, _)]) (all_one (.head _)) (fun p hp => .tail _ (.tail _ (.tail _ hp))))
        (turn_off (fun p hp => off p hp) (all_one (hl2 (I, oI) (.tail _ (.tail _ (.head _))))))
        ⟨[(D2, _)] ++ Ti, aK, b, t1, t2, nK, rfl, ?_, ?_, ?_, ?_, .tail _ hKm, Nat.lt_succ_of_lt hb, ?_⟩
      · exact apart_cons (fun q hq => Nat.ne_of_lt (hl2 q (.tail _ (.tail _ (.tail _ (List.mem_append_right _ (List.mem_append_right _ hq))))))) hap
      · exact young_cons (hl2 ((k_segF2.2.2.2.1.1) + 11, (k_segF2.2.2.2.1.2.2.2).oQ) (.tail _ (.tail _ (.tail _ (.head _))))) hyi
      · intro z hz1 hz2
        (try dsimp only)
        rw [if_neg hz2]
        exact (know_ite mT1 (know_ite mO1 (know_ite hmK fun _ => rfl)) z).trans (hm1 z hz1 hz2)
      · rfl
      · intro v hv
        by_cases hvi : v < i + 1
        · exact hbest v hvi
        · refine Mine.by_op fun P9 bk9 => ?_
          obtain rfl : v = i + 1 := by omega
          refine bk9 ?_; clear bk9 P9
          exact hbi
  · intro h5 tk5 m5 led5 F5 N5 qz69
    refine Mine.by_op fun P9 bk9 => ?_
    obtain ⟨Ti, aK, b, t1, t2, nK, rfl, hap, hyi, hm1, hmK, hKm, hb, hbest⟩ := qz69
    refine bk9 ?_; clear bk9 P9
    refine wpAny_execs_nil ?_
    exact ret _ _ m5 aK b t1 t2 nK Ti F5 N5 hyi hap hm1 hmK hKm hb hbest
theorem segF2 (w : World) {mean : ExcName → Option Value} {mg mb : Str → Option Value} {A₀ : Around} {dp un : Nat} {gd : Option (List Code)} {fa : Addr} {cd : Value} {base g : Heap} {L : Addr} {m : Str → Option Value} {T : List (Addr × Obj)} {c : LawCells} {s : Shared} {h : Heap} {tk : Nat} {Q : Flow → Shared → Prop} {E : Value → Shared → Prop}
    (B : Below A₀ base [] g) (X : (Mine.hd.heap_1 w.params).In g) (TT : Top Mine.hd.view_1 (looseW Mine.hd.view_1 []) mean mg mb g) (hd : dp + 40 < recursionLimit) (hu : un + 8 * 40 < cLine)
    (F : Fr g L h m) (N : News g L h (cellLed L c ++ T)) (hy : Young L T)
    {aT x : Addr} {nT : Nat} {rs : List Addr} {cand : Nat → Stat} (hE : PassesOwn (model PySem.Challenge.rw_zo0012_01.row.prog w) (lawA w.params dp un gd L fa cd) (lawEnv w.params L fa cd) E)
    (mT : m (Str.ofString "tried") = some (.ref aT)) (mO : m (Str.ofString "order") = some (.ref x)) (hO : IsOrder T x)
    (hT : (aT, listOf (List.toArray (rs.map Value.ref)) nT) ∈ T) (hrs : rs.length = 3) (hst : ∀ u a', rs[u]? = some a' → IsStat w T a' (cand u))
    (ret : ∀ h' tk' m' aK b t1 t2 nK add, Fr g L h' m' → News g L h' (cellLed L c ++ (add ++ T)) → Young L add → Apart add T → (∀ z, z ≠ Str.ofString "kept" → z ≠ Str.ofString "u" → m' z = m z) → m' (Str.ofString "kept") = some (.ref aK) →
      (aK, tupObj [.int (cand b).ct t1, .int ((b : Nat) : Int) t2] nK) ∈ add → b < 3 → (∀ v, v < 3 → (cand v).ct ≤ (cand b).ct) → Q .next { s with heap := h', toks := tk' }) : wpAny (model PySem.Challenge.rw_zo0012_01.row.prog w) (lawA w.params dp un gd L fa cd) (execs (((lawRm w.params).drop 1).take 2) (lawEnv w.params L fa cd)) Q E { s with heap := h, toks := tk } :=
  pick_all k_segF2.eq_1 segF2_c ((w, mean, mg, mb), (A₀, dp, un, gd), (fa, cd, base, g), (L, m, T, c), (s, h, tk, Q), (E, aT, x, nT), (rs, cand)) B X TT hd hu F N hy hE mT mO hO hT hrs hst ret
end
-- G12
section
local macro_rules | `(tactic| walk_at $s:str) => `(tactic| k_extra $(Lean.Syntax.mkStrLit ("xG12:" ++ s.getString)))
local macro_rules | `(tactic| walk_at $s:str) => `(tactic| k_extra $(Lean.Syntax.mkStrLit ("xG12:" ++ s.getString)))
theorem setup_G12 : True := by
  k_with "xG12:m:subt" => ((k_here; (with_unfolding_all refine' Mine.sub_tupN ?zzk1 ?zzk2 ?zzk3 ?zzk4 ?zzk5 ?_ ?zzk6; (case zzk1 => k_asm); (case zzk2 => walk_at "m:mem"); (case zzk3 => decide); (case zzk4 => decide); (case zzk5 => rfl); (case zzk6 => with_unfolding_all rfl))))
  k_with "xG12:subscriptTail Name Constant ref int" => (walk_at "m:subt")
  k_with "xG12:CompSrc" => (refine Mine.stop ?_)
  k_with "xG12:CompEnd" => (refine Mine.stop ?_)
  trivial
set_option synthInstance.maxSize 100000 in
set_option synthInstance.maxHeartbeats 800000 in
noncomputable def s_segF3 (d : (World × (ExcName → Option Value) × (Str → Option Value) × (Str → Option Value)) × (Around × Nat × Nat × (Option (List Code))) × (Addr × Value × Heap × Heap) × (Addr × (Str → Option Value) × (List (Addr × Obj)) × Shared) × (Heap × Nat × (Flow → Shared → Prop) × (Value → Shared → Prop)) × (Nat × Nat × Nat × Nat) × (Tok × Tok × (List Addr) × (Nat → Stat))) : Prop := ∀ (c : LawCells) (b : Nat) (B : Below (d.2.1.1) (d.2.2.1.2.2.1) [] (d.2.2.1.2.2.2)) (X : (Mine.hd.heap_1 (d.1.1).params).In (d.2.2.1.2.2.2)) (TT : Top Mine.hd.view_1 (looseW Mine.hd.view_1 []) (d.1.2.1) (d.1.2.2.1) (d.1.2.2.2) (d.2.2.1.2.2.2)) (hd : (d.2.1.2.1) + 40 < recursionLimit) (hu : (d.2.1.2.2.1) + 8 * 40 < cLine) (F : Fr (d.2.2.1.2.2.2) (d.2.2.2.1.1) (d.2.2.2.2.1.1) (d.2.2.2.1.2.1)) (N : News (d.2.2.1.2.2.2) (d.2.2.2.1.1) (d.2.2.2.2.1.1) (cellLed (d.2.2.2.1.1) c ++ (d.2.2.2.1.2.2.1))) (hy : Young (d.2.2.2.1.1) (d.2.2.2.1.2.2.1)) (mT : (d.2.2.2.1.2.1) (Str.ofString "tried") = some (.ref (d.2.2.2.2.2.1.1))) (mK : (d.2.2.2.1.2.1) (Str.ofString "kept") = some (.ref (d.2.2.2.2.2.1.2.1))) (hb : b < 3) (hbest : ∀ v, v < 3 → ((d.2.2.2.2.2.2.2.2.2) v).ct ≤ ((d.2.2.2.2.2.2.2.2.2) b).ct) (hpos : ∀ v, v < 3 → 0 ≤ ((d.2.2.2.2.2.2.2.2.2) v).ct ∧ ((d.2.2.2.2.2.2.2.2.2) v).ct < 600) (hT : ((d.2.2.2.2.2.1.1), listOf (List.toArray ((d.2.2.2.2.2.2.2.2.1).map Value.ref)) (d.2.2.2.2.2.1.2.2.2)) ∈ (d.2.2.2.1.2.2.1)) (hrs : (d.2.2.2.2.2.2.2.2.1).length = 3) (hst : ∀ u a', (d.2.2.2.2.2.2.2.2.1)[u]? = some a' → IsStat (d.1.1) (d.2.2.2.1.2.2.1) a' ((d.2.2.2.2.2.2.2.2.2) u)) (hK : ((d.2.2.2.2.2.1.2.1), tupObj [.int ((d.2.2.2.2.2.2.2.2.2) b).ct (d.2.2.2.2.2.2.1), .int ((b : Nat) : Int) (d.2.2.2.2.2.2.2.1)] (d.2.2.2.2.2.1.2.2.1)) ∈ (d.2.2.2.1.2.2.1)) (ret : ∀ h' tk' add, Fr (d.2.2.1.2.2.2) (d.2.2.2.1.1) h' (d.2.2.2.1.2.1) → News (d.2.2.1.2.2.2) (d.2.2.2.1.1) h' (cellLed (d.2.2.2.1.1) c ++ (add ++ (d.2.2.2.1.2.2.1))) → Young (d.2.2.2.1.1) add → Apart add (d.2.2.2.1.2.2.1) → (d.2.2.2.2.1.2.2.1) .next { (d.2.2.2.1.2.2.2) with heap := h', toks := tk' }), wpAny (model PySem.Challenge.rw_zo0012_01.row.prog (d.1.1)) (lawA (d.1.1).params (d.2.1.2.1) (d.2.1.2.2.1) (d.2.1.2.2.2) (d.2.2.2.1.1) (d.2.2.1.1) (d.2.2.1.2.1)) (execs (((lawRm (d.1.1).params).drop 3).take 1) (lawEnv (d.1.1).params (d.2.2.2.1.1) (d.2.2.1.1) (d.2.2.1.2.1))) (d.2.2.2.2.1.2.2.1) (d.2.2.2.2.1.2.2.2) { (d.2.2.2.1.2.2.2) with heap := (d.2.2.2.2.1.1), toks := (d.2.2.2.2.1.2.1) }
set_option synthInstance.maxSize 100000 in
set_option synthInstance.maxHeartbeats 800000 in
@[irreducible] noncomputable def k_segF3 : (World × (ExcName → Option Value) × (Str → Option Value) × (Str → Option Value)) × (Around × Nat × Nat × (Option (List Code))) × (Addr × Value × Heap × Heap) × (Addr × (Str → Option Value) × (List (Addr × Obj)) × Shared) × (Heap × Nat × (Flow → Shared → Prop) × (Value → Shared → Prop)) × (Nat × Nat × Nat × Nat) × (Tok × Tok × (List Addr) × (Nat → Stat)) := pick (by haveI := ne_World; haveI := ne_Around; haveI := ne_Shared; haveI := ne_Stat; exact inferInstance) s_segF3
theorem segF3_c : s_segF3 k_segF3 := by
  delta s_segF3
  intro c b B X TT hd hu F N hy mT mK hb hbest hpos hT hrs hst hK ret
  walk_at "m:fill"
  simp only [cellLed, List.cons_append, List.nil_append] at N
  have F0 := Mine.Fr.know2 F mT mK
  clear F
  dsimp only [lawRm, lawSt, fBs]
  (try dsimp only [lawS, lawEnv, lawA, lawParts] at B)
  walk_at "m:body"
  k_steps
  unfold Stop
  have hsz : (List.toArray ((k_segF3.2.2.2.2.2.2.2.2.1).map Value.ref)).size = 3 := by rw [List.size_toArray, List.length_map, hrs]
  refine LCg.CompSrc.ledger (by rfl) F0 (news := cellLed (k_segF3.2.2.2.1.1) c ++ (k_segF3.2.2.2.1.2.2.1)) N (List.mem_append_right _ hT) (by rw [hsz]; decide) ?_
  intro g'
  rw [hsz]
  refine comp_all (fun i v => ∃ t, v = .int ((k_segF3.2.2.2.2.2.2.2.2.2) i).ct t) ?_ ?_
  · rintro i v ys I oI C oC D m₂ h2 tk2 E' hi hP hyl hC hx F2 N2 off ne
    have N3 := N2
    obtain ⟨ri, hri⟩ := at_of_len hrs hi
    have ev : v = .ref ri := by
      rw [List.getElem?_toArray, List.getElem?_map, hri] at hP
      exact (Option.some.inj hP).symm
    subst ev
    refine Mine.by_op fun P9 bk9 => ?_
    obtain ⟨q1, q2, q3, q4, qd, qn, qo, e0, _⟩ := hst i ri hri
    refine bk9 ?_; clear bk9 P9
    simp only [cellLed, List.cons_append, List.nil_append] at N3
    clear F0 N N2
    k_steps
    unfold Stop
    exact LCg.CompEnd.intro (by assumption) (by assumption) (cellLed (k_segF3.2.2.2.1.1) c ++ (k_segF3.2.2.2.1.2.2.1)) (fun p hp => hp) off (Or.inr ⟨_, List.mem_append_right _ hT, rfl, _, rfl⟩) ⟨rfl, _, rfl⟩
  · intro ys hv
    unfold LCg.FinE
    intro D h2 tk2 F2 N2 o1
    refine Mine.by_op fun P9 bk9 => ?_
    obtain ⟨v0, e0, w0, rfl⟩ := hv.2 0 (by decide)
    refine bk9 ?_; clear bk9 P9
    refine Mine.by_op fun P9 bk9 => ?_
    obtain ⟨v1, e1, w1, rfl⟩ := hv.2 1 (by decide)
    refine bk9 ?_; clear bk9 P9
    refine Mine.by_op fun P9 bk9 => ?_
    obtain ⟨v2, e2, w2, rfl⟩ := hv.2 2 (by decide)
    refine bk9 ?_; clear bk9 P9
    have eys : ys = [.int ((k_segF3.2.2.2.2.2.2.2.2.2) 0).ct w0, .int ((k_segF3.2.2.2.2.2.2.2.2.2) 1).ct w1, .int ((k_segF3.2.2.2.2.2.2.2.2.2) 2).ct w2] := list3 hv.1 e0 e1 e2
    subst eys
    refine Mine.by_op fun P9 bk9 => ?_
    obtain ⟨o11, o10, o9, o8, o7, o6, o5, o4, o3, o2, o1', oT⟩ := id o1
    refine bk9 ?_; clear bk9 P9
    dsimp only at o11 o10 o9 o8 o7 o6 o5 o4 o3 o2 o1'
    have N3 := N2
    simp only [cellLed, List.cons_append, List.nil_append] at N3
    have hp0 := hpos 0 (by decide)
    have hp1 := hpos 1 (by decide)
    have hp2 := hpos 2 (by decide)
    have hb0 := hbest 0 (by decide)
    have hb1 := hbest 1 (by decide)
    have hb2 := hbest 2 (by decide)
    have hmax : max (max ((k_segF3.2.2.2.2.2.2.2.2.2) 0).ct ((k_segF3.2.2.2.2.2.2.2.2.2) 1).ct) ((k_segF3.2.2.2.2.2.2.2.2.2) 2).ct = ((k_segF3.2.2.2.2.2.2.2.2.2) b).ct := max_at3 (f := fun v => ((k_segF3.2.2.2.2.2.2.2.2.2) v).ct) b hb hbest
    clear F0 N
    k_with "xG12:call ref" => ((with_reducible show wpAny _ _ (call (Value.ref 110) _) _ _ _); k_dflt (refine' gives_use (mostI (k_segF3.1.1) ((k_segF3.2.2.2.2.2.2.2.2.2) 0).ct ((k_segF3.2.2.2.2.2.2.2.2.2) 1).ct ((k_segF3.2.2.2.2.2.2.2.2.2) 2).ct) ?zzk1 ?zzk2 ?zzk3 ?zzk4 ?zzk5 ?zzk6 ?zzk7 ?zzk8 ?zzk9 ?_; walk_at "m:give"; (case zzk7 => exact ⟨hp0.1, hp1.1, hp2.1, hp0.2, hp1.2, hp2.2, D, w0, w1, w2, _, rfl, .head _⟩)); refine Mine.ret_nil ?_; intro t9 h9 tk9 F9 N9; (try dsimp only); (try k_fold))
    k_steps
    all_goals first
      | (exfalso; exact absurd hmax (by assumption))
      | (refine wpAny_execs_nil ?_
         exact ret _ _ [(D, _)] (Mine.Fr.alike F9 fun z => (know_ite mT (know_ite mK fun _ => rfl) z).symm) (perm_cells (add := [(D, _)]) (A := cellLed (k_segF3.2.2.2.1.1) c) (T := (k_segF3.2.2.2.1.2.2.1)) N9) (young_off (c := c) o1 young_nil) (apart_cons (fun q hq => off1_mem o1 q (List.mem_append_right _ hq)) apart_nil))
theorem segF3 (w : World) {mean : ExcName → Option Value} {mg mb : Str → Option Value} {A₀ : Around} {dp un : Nat} {gd : Option (List Code)} {fa : Addr} {cd : Value} {base g : Heap} {L : Addr} {m : Str → Option Value} {T : List (Addr × Obj)} {c : LawCells} {s : Shared} {h : Heap} {tk : Nat} {Q : Flow → Shared → Prop} {E : Value → Shared → Prop}
    (B : Below A₀ base [] g) (X : (Mine.hd.heap_1 w.params).In g) (TT : Top Mine.hd.view_1 (looseW Mine.hd.view_1 []) mean mg mb g) (hd : dp + 40 < recursionLimit) (hu : un + 8 * 40 < cLine)
    (F : Fr g L h m) (N : News g L h (cellLed L c ++ T)) (hy : Young L T)
    {aT aK b nK nT : Nat} {t1 t2 : Tok} {rs : List Addr} {cand : Nat → Stat}
    (mT : m (Str.ofString "tried") = some (.ref aT)) (mK : m (Str.ofString "kept") = some (.ref aK)) (hb : b < 3) (hbest : ∀ v, v < 3 → (cand v).ct ≤ (cand b).ct) (hpos : ∀ v, v < 3 → 0 ≤ (cand v).ct ∧ (cand v).ct < 600)
    (hT : (aT, listOf (List.toArray (rs.map Value.ref)) nT) ∈ T) (hrs : rs.length = 3) (hst : ∀ u a', rs[u]? = some a' → IsStat w T a' (cand u)) (hK : (aK, tupObj [.int (cand b).ct t1, .int ((b : Nat) : Int) t2] nK) ∈ T)
    (ret : ∀ h' tk' add, Fr g L h' m → News g L h' (cellLed L c ++ (add ++ T)) → Young L add → Apart add T → Q .next { s with heap := h', toks := tk' }) : wpAny (model PySem.Challenge.rw_zo0012_01.row.prog w) (lawA w.params dp un gd L fa cd) (execs (((lawRm w.params).drop 3).take 1) (lawEnv w.params L fa cd)) Q E { s with heap := h, toks := tk } :=
  pick_all k_segF3.eq_1 segF3_c ((w, mean, mg, mb), (A₀, dp, un, gd), (fa, cd, base, g), (L, m, T, s), (h, tk, Q, E), (aT, aK, nK, nT), (t1, t2, rs, cand)) c b B X TT hd hu F N hy mT mK hb hbest hpos hT hrs hst hK ret
end
-- G13
section
local macro_rules | `(tactic| walk_at $s:str) => `(tactic| k_extra $(Lean.Syntax.mkStrLit ("xG13:" ++ s.getString)))
theorem setup_G13 : True := by
  k_with "xG13:m:subr" => ((k_here; (with_unfolding_all refine' Mine.sub_refA ?zzk2 ?zzk3 ?zzk4 ?zzk7 ?zzk5 ?_ ?zzk6; (case zzk2 => k_asm); (case zzk3 => walk_at "m:mem"); (case zzk5 => assumption); (case zzk4 => walk_at "m:idx"); (case zzk7 => omega); (case zzk6 => with_unfolding_all rfl))))
  k_with "xG13:m:subt" => ((k_here; (with_unfolding_all refine' Mine.sub_tupN ?zzk1 ?zzk2 ?zzk3 ?zzk4 ?zzk5 ?_ ?zzk6; (case zzk1 => k_asm); (case zzk2 => walk_at "m:mem"); (case zzk3 => decide); (case zzk4 => decide); (case zzk5 => rfl); (case zzk6 => with_unfolding_all rfl))))
  k_with "xG13:m:subb" => ((k_here; (with_unfolding_all refine' Mine.sub_vals ?zzk1 ?zzk2 ?zzk3 ?zzk4 ?zzk5 ?zzk7 ?_ ?zzk6; (case zzk2 => k_asm); (case zzk3 => walk_at "m:mem"); (case zzk1 => assumption); (case zzk4 => walk_at "m:idx"); (case zzk5 => omega); (case zzk7 => decide); (case zzk6 => with_unfolding_all rfl)); rintro qvb' ⟨qtb', qhb'⟩; cases qhb'))
  k_with "xG13:subscriptTail Name Constant ref int" => (walk_at "m:subt")
  k_with "xG13:subscriptTail Name Subscript ref int" => (first | walk_at "m:subr" | walk_at "m:subb")
  k_with "xG13:call builtin:list.append" => (((try dsimp only [List.cons_append, List.nil_append]); k_dflt (refine' append_K ?zzk1 ?zzk2 ?zzk3 ?_ ?zzz; (case zzk1 => k_asm); (case zzk2 => k_asm); (case zzk3 => k_upd); (case zzz => assumption)); intro qh' qF' qN'; (try k_sweep)))
  k_with "xG13:binaryOp Add bytes bytes" => ((k_here; (with_reducible show wpAny _ _ (binaryOp Operator.Add (Value.bytes _ _) (Value.bytes _ _)) _ _ _); k_dflt (refine' Mine.add_wb ?zzz ?_; (case zzz => assumption)); intro qt' qk'))
  k_with "xG13:m:hide" => (have qB' := True.intro; have qD' := True.intro; have qF' := True.intro; have qFG' := True.intro; have qL' := True.intro; have qN' := True.intro; have qT' := True.intro; have qX' := True.intro; have qY' := True.intro; have qcells' := True.intro; have qd' := True.intro; have qfF := True.intro; have qg' := True.intro; have qh' := True.intro; have qh0' := True.intro; have qh1' := True.intro; have qhb' := True.intro; have qhc' := True.intro; have qhd' := True.intro; have qhp := True.intro; have qhv' := True.intro; have qhz := True.intro; have qhz' := True.intro; have qjk' := True.intro; have qk' := True.intro; have qkj' := True.intro; have ql1 := True.intro; have ql2 := True.intro; have qlo' := True.intro; have qnE' := True.intro; have qo' := True.intro; have qo1' := True.intro; have qp := True.intro; have qt' := True.intro; have qtb' := True.intro; have qtj' := True.intro; have qtk' := True.intro; have qtv' := True.intro; have qtx' := True.intro; have qvb' := True.intro; have qvv' := True.intro; have qx' := True.intro; have qzz' := True.intro)
  k_with "xG13:m:bare" => (clear qB' qD' qF' qFG' qL' qN' qT' qX' qY' qcells' qd' qfF qg' qh' qh0' qh1' qhb' qhc' qhd' qhp qhv' qhz qhz' qjk' qk' qkj' ql1 ql2 qlo' qnE' qo' qo1' qp qt' qtb' qtj' qtk' qtv' qtx' qvb' qvv' qx' qzz')
  trivial
set_option synthInstance.maxSize 100000 in
set_option synthInstance.maxHeartbeats 800000 in
noncomputable def s_segF4 (d : (World × (ExcName → Option Value) × (Str → Option Value) × (Str → Option Value)) × (Around × Nat × Nat × (Option (List Code))) × (Addr × Value × Heap × Heap) × (Addr × (Str → Option Value) × LawCells × Shared) × (Heap × Nat × (Flow → Shared → Prop) × (Value → Shared → Prop)) × (Addr × Addr × Addr × Addr) × (Addr × Nat × Nat × Nat) × (Nat × Nat × Nat × Tok) × (Tok × Tok × (List Addr) × (List Addr)) × ((Nat → List Nat) × (List Value) × Int × (List (Addr × Obj)))) : Prop := ∀ (T : List (Addr × Obj)) (B : Below (d.2.1.1) (d.2.2.1.2.2.1) [] (d.2.2.1.2.2.2)) (X : (Mine.hd.heap_1 (d.1.1).params).In (d.2.2.1.2.2.2)) (TT : Top Mine.hd.view_1 (looseW Mine.hd.view_1 []) (d.1.2.1) (d.1.2.2.1) (d.1.2.2.2) (d.2.2.1.2.2.2)) (hd : (d.2.1.2.1) + 40 < recursionLimit) (hu : (d.2.1.2.2.1) + 8 * 40 < cLine) (F : Fr (d.2.2.1.2.2.2) (d.2.2.2.1.1) (d.2.2.2.2.1.1) (d.2.2.2.1.2.1)) (N : News (d.2.2.1.2.2.2) (d.2.2.2.1.1) (d.2.2.2.2.1.1) (cellLed (d.2.2.2.1.1) (d.2.2.2.1.2.2.1) ++ T)) (hy : Young (d.2.2.2.1.1) T) (mT : (d.2.2.2.1.2.1) (Str.ofString "tried") = some (.ref (d.2.2.2.2.2.1.1))) (mK : (d.2.2.2.1.2.1) (Str.ofString "kept") = some (.ref (d.2.2.2.2.2.1.2.1))) (mE : (d.2.2.2.1.2.1) (Str.ofString "entries") = some (.ref (d.2.2.2.2.2.1.2.2.1))) (mJ : (d.2.2.2.1.2.1) (Str.ofString "longer") = some (.ref (d.2.2.2.2.2.1.2.2.2))) (mW : (d.2.2.2.1.2.1) (Str.ofString "ways") = some (.ref (d.2.2.2.2.2.2.1.1))) (cR : (d.2.2.2.1.2.2.1).oR.data = .cell (some (.int ((d.2.2.2.2.2.2.2.1.1) : Int) (d.2.2.2.2.2.2.2.2.1.2.1)))) (hr3 : (d.2.2.2.2.2.2.2.1.1) < 3) (hb : (d.2.2.2.2.2.2.1.2.1) < 3) (eT : T = ((d.2.2.2.2.2.1.2.2.1), listOf (List.toArray ((d.2.2.2.2.2.2.2.2.1.2.2.2).map Value.ref)) (d.2.2.2.2.2.2.2.1.2.1)) :: ((d.2.2.2.2.2.1.2.2.2), listOf (List.toArray (d.2.2.2.2.2.2.2.2.2.2.1)) (d.2.2.2.2.2.2.2.1.2.2.1)) :: (d.2.2.2.2.2.2.2.2.2.2.2.2)) (hEL : @LT.lt Nat _ ((d.2.2.2.1.1) + 11) (d.2.2.2.2.2.1.2.2.1)) (hJL : @LT.lt Nat _ ((d.2.2.2.1.1) + 11) (d.2.2.2.2.2.1.2.2.2)) (hEJ : @Ne Nat (d.2.2.2.2.2.1.2.2.1) (d.2.2.2.2.2.1.2.2.2)) (oE : LCg.Off1 (d.2.2.2.2.2.1.2.2.1) (d.2.2.2.2.2.2.2.2.2.2.2.2)) (oJ : LCg.Off1 (d.2.2.2.2.2.1.2.2.2) (d.2.2.2.2.2.2.2.2.2.2.2.2)) (sE : (List.toArray ((d.2.2.2.2.2.2.2.2.1.2.2.2).map Value.ref)).size ≤ sizeLine) (sJ : (List.toArray (d.2.2.2.2.2.2.2.2.2.2.1)).size ≤ sizeLine) (hT : ((d.2.2.2.2.2.1.1), listOf (List.toArray ((d.2.2.2.2.2.2.2.2.1.2.2.1).map Value.ref)) (d.2.2.2.2.2.2.1.2.2.2)) ∈ (d.2.2.2.2.2.2.2.2.2.2.2.2)) (hrs : (d.2.2.2.2.2.2.2.2.1.2.2.1).length = 3) (hK : ((d.2.2.2.2.2.1.2.1), tupObj [.int (d.2.2.2.2.2.2.2.2.2.2.2.1) (d.2.2.2.2.2.2.2.1.2.2.2), .int (((d.2.2.2.2.2.2.1.2.1) : Nat) : Int) (d.2.2.2.2.2.2.2.2.1.1)] (d.2.2.2.2.2.2.1.2.2.1)) ∈ (d.2.2.2.2.2.2.2.2.2.2.2.2)) (hW : Ways (d.2.2.2.2.2.2.2.2.2.2.2.2) (d.2.2.2.2.2.2.1.1) (d.2.2.2.2.2.2.2.2.2.1)) (hwl : ((d.2.2.2.2.2.2.2.2.2.1) (d.2.2.2.2.2.2.1.2.1)).length ≤ 10) (ret : ∀ h' tk' rb tj, Fr (d.2.2.1.2.2.2) (d.2.2.2.1.1) h' (d.2.2.2.1.2.1) → News (d.2.2.1.2.2.2) (d.2.2.2.1.1) h' (cellLed (d.2.2.2.1.1) (d.2.2.2.1.2.2.1) ++ (((d.2.2.2.2.2.1.2.2.1), listOf (List.toArray (((d.2.2.2.2.2.2.2.2.1.2.2.2) ++ [rb]).map Value.ref)) ((d.2.2.2.2.2.2.2.1.2.1) + 1)) :: ((d.2.2.2.2.2.1.2.2.2), listOf (List.toArray ((d.2.2.2.2.2.2.2.2.2.2.1) ++ [.bytes (wb ((d.2.2.2.2.2.2.2.1.1) :: (d.2.2.2.2.2.2.2.2.2.1) (d.2.2.2.2.2.2.1.2.1))).toArray tj])) ((d.2.2.2.2.2.2.2.1.2.2.1) + 1)) :: (d.2.2.2.2.2.2.2.2.2.2.2.2))) → (d.2.2.2.2.2.2.2.2.1.2.2.1)[(d.2.2.2.2.2.2.1.2.1)]? = some rb → (d.2.2.2.2.1.2.2.1) .next { (d.2.2.2.1.2.2.2) with heap := h', toks := tk' }), wpAny (model PySem.Challenge.rw_zo0012_01.row.prog (d.1.1)) (lawA (d.1.1).params (d.2.1.2.1) (d.2.1.2.2.1) (d.2.1.2.2.2) (d.2.2.2.1.1) (d.2.2.1.1) (d.2.2.1.2.1)) (execs ((lawRm (d.1.1).params).drop 4) (lawEnv (d.1.1).params (d.2.2.2.1.1) (d.2.2.1.1) (d.2.2.1.2.1))) (d.2.2.2.2.1.2.2.1) (d.2.2.2.2.1.2.2.2) { (d.2.2.2.1.2.2.2) with heap := (d.2.2.2.2.1.1), toks := (d.2.2.2.2.1.2.1) }
set_option synthInstance.maxSize 100000 in
set_option synthInstance.maxHeartbeats 800000 in
@[irreducible] noncomputable def k_segF4 : (World × (ExcName → Option Value) × (Str → Option Value) × (Str → Option Value)) × (Around × Nat × Nat × (Option (List Code))) × (Addr × Value × Heap × Heap) × (Addr × (Str → Option Value) × LawCells × Shared) × (Heap × Nat × (Flow → Shared → Prop) × (Value → Shared → Prop)) × (Addr × Addr × Addr × Addr) × (Addr × Nat × Nat × Nat) × (Nat × Nat × Nat × Tok) × (Tok × Tok × (List Addr) × (List Addr)) × ((Nat → List Nat) × (List Value) × Int × (List (Addr × Obj))) := pick (by haveI := ne_World; haveI := ne_Around; haveI := ne_Shared; haveI := ne_Cells; exact inferInstance) s_segF4
theorem segF4_c : s_segF4 k_segF4 := by
  delta s_segF4
  intro T B X TT hd hu F N hy mT mK mE mJ mW cR hr3 hb eT hEL hJL hEJ oE oJ sE sJ hT hrs hK hW hwl ret
  subst eT
  walk_at "m:fill"
  simp only [cellLed, List.cons_append, List.nil_append] at N
  have F0 := Mine.Fr.know2 F mT mK
  replace F0 := Mine.Fr.know3 F0 (x1 := Str.ofString "entries") (x2 := Str.ofString "longer") (x3 := Str.ofString "ways") (v1 := .ref (k_segF4.2.2.2.2.2.1.2.2.1)) (v2 := .ref (k_segF4.2.2.2.2.2.1.2.2.2)) (v3 := .ref (k_segF4.2.2.2.2.2.2.1.1)) ((know_ite mT (know_ite mK fun _ => rfl) _).trans mE) ((know_ite mT (know_ite mK fun _ => rfl) _).trans mJ) ((know_ite mT (know_ite mK fun _ => rfl) _).trans mW)
  obtain ⟨rb, hrb⟩ := at_of_len hrs hb
  refine Mine.by_op fun P9 bk9 => ?_
  obtain ⟨wvs, nW, hWm, hWv⟩ := hW
  refine bk9 ?_; clear bk9 P9
  have hwl' : (wb ((k_segF4.2.2.2.2.2.2.2.2.2.1) (k_segF4.2.2.2.2.2.2.1.2.1))).length ≤ 100 := by unfold wb; rw [List.length_map]; omega
  clear F
  dsimp only [lawRm, lawSt, fBs]
  (try dsimp only [lawS, lawEnv, lawA, lawParts] at B)
  walk_at "m:body"
  k_steps
  (walk_at "m:hide"; rename_i hA lB hB l1a hC tC kC hb9 hB' tb tj kk hD F9 N9; walk_at "m:bare")
  simp only [List.push_toArray] at N9
  refine ret _ _ rb tj (Mine.Fr.alike F9 fun q => (know_ite ((know_ite mT (know_ite mK fun _ => rfl) _).trans mE) (know_ite ((know_ite mT (know_ite mK fun _ => rfl) _).trans mJ) (know_ite ((know_ite mT (know_ite mK fun _ => rfl) _).trans mW) (know_ite mT (know_ite mK fun _ => rfl)))) q).symm) ?_ hrb
  have N10 := Mine.news_tl N9
  rw [List.map_append]
  exact N10
theorem segF4 (w : World) {mean : ExcName → Option Value} {mg mb : Str → Option Value} {A₀ : Around} {dp un : Nat} {gd : Option (List Code)} {fa : Addr} {cd : Value} {base g : Heap} {L : Addr} {m : Str → Option Value} {T : List (Addr × Obj)} {c : LawCells} {s : Shared} {h : Heap} {tk : Nat} {Q : Flow → Shared → Prop} {E : Value → Shared → Prop}
    (B : Below A₀ base [] g) (X : (Mine.hd.heap_1 w.params).In g) (TT : Top Mine.hd.view_1 (looseW Mine.hd.view_1 []) mean mg mb g) (hd : dp + 40 < recursionLimit) (hu : un + 8 * 40 < cLine)
    (F : Fr g L h m) (N : News g L h (cellLed L c ++ T)) (hy : Young L T)
    {aT aK aE aJ aW : Addr} {b nK nT r nE nJ : Nat} {t1 t2 tR : Tok} {rs res : List Addr} {wy : Nat → List Nat} {js : List Value} {z : Int} {T0 : List (Addr × Obj)}
    (mT : m (Str.ofString "tried") = some (.ref aT)) (mK : m (Str.ofString "kept") = some (.ref aK)) (mE : m (Str.ofString "entries") = some (.ref aE)) (mJ : m (Str.ofString "longer") = some (.ref aJ)) (mW : m (Str.ofString "ways") = some (.ref aW))
    (cR : c.oR.data = .cell (some (.int (r : Int) tR))) (hr3 : r < 3) (hb : b < 3) (eT : T = (aE, listOf (List.toArray (res.map Value.ref)) nE) :: (aJ, listOf (List.toArray js) nJ) :: T0)
    (hEL : @LT.lt Nat _ (L + 11) aE) (hJL : @LT.lt Nat _ (L + 11) aJ) (hEJ : @Ne Nat aE aJ) (oE : LCg.Off1 aE T0) (oJ : LCg.Off1 aJ T0) (sE : (List.toArray (res.map Value.ref)).size ≤ sizeLine) (sJ : (List.toArray js).size ≤ sizeLine)
    (hT : (aT, listOf (List.toArray (rs.map Value.ref)) nT) ∈ T0) (hrs : rs.length = 3) (hK : (aK, tupObj [.int z t1, .int ((b : Nat) : Int) t2] nK) ∈ T0) (hW : Ways T0 aW wy) (hwl : (wy b).length ≤ 10)
    (ret : ∀ h' tk' rb tj, Fr g L h' m → News g L h' (cellLed L c ++ ((aE, listOf (List.toArray ((res ++ [rb]).map Value.ref)) (nE + 1)) :: (aJ, listOf (List.toArray (js ++ [.bytes (wb (r :: wy b)).toArray tj])) (nJ + 1)) :: T0)) → rs[b]? = some rb → Q .next { s with heap := h', toks := tk' }) : wpAny (model PySem.Challenge.rw_zo0012_01.row.prog w) (lawA w.params dp un gd L fa cd) (execs ((lawRm w.params).drop 4) (lawEnv w.params L fa cd)) Q E { s with heap := h, toks := tk } :=
  pick_all k_segF4.eq_1 segF4_c ((w, mean, mg, mb), (A₀, dp, un, gd), (fa, cd, base, g), (L, m, c, s), (h, tk, Q, E), (aT, aK, aE, aJ), (aW, b, nK, nT), (r, nE, nJ, t1), (t2, tR, rs, res), (wy, js, z, T0)) T B X TT hd hu F N hy mT mK mE mJ mW cR hr3 hb eT hEL hJL hEJ oE oJ sE sJ hT hrs hK hW hwl ret
end
-- G14
section
theorem cand_pos (y : Nat → Nat) {l : List Nat} (h : l.length ≤ 5) : 0 ≤ (wst y l).ct ∧ (wst y l).ct < 600 := by
  have h1 := wst_ct y l
  have h2 := wmk_le y l
  omega
theorem segF5 (w : World) {mean : ExcName → Option Value} {mg mb : Str → Option Value} {A₀ : Around} {dp un : Nat} {gd : Option (List Code)} {fa : Addr} {cd : Value} {base g : Heap} {L : Addr} {m : Str → Option Value} {T : List (Addr × Obj)} {c : LawCells} {s : Shared} {h : Heap} {tk : Nat} {Q : Flow → Shared → Prop} {E : Value → Shared → Prop}
    (B : Below A₀ base [] g) (X : (Mine.hd.heap_1 w.params).In g) (TT : Top Mine.hd.view_1 (looseW Mine.hd.view_1 []) mean mg mb g) (hd : dp + 40 < recursionLimit) (hu : un + 8 * 40 < cLine)
    (F : Fr g L h m) (N : News g L h (cellLed L c ++ T)) (hy : Young L T)
    {aS aD aE aJ aW x : Addr} {k nS r nE nJ : Nat} {tG tR : Tok} {y : Nat → Nat} {ws : Nat → Nat → List Nat} {ras res : List Addr} {js : List Value} {T0 : List (Addr × Obj)}
    (hE : PassesOwn (model PySem.Challenge.rw_zo0012_01.row.prog w) (lawA w.params dp un gd L fa cd) (lawEnv w.params L fa cd) E)
    (hk : k < 3) (hr3 : r < 3)
    (cS : c.oS.data = .cell (some (.ref aS))) (cG : c.oG.data = .cell (some (.int (k : Int) tG))) (cD : c.oD.data = .cell (some (.ref aD))) (cR : c.oR.data = .cell (some (.int (r : Int) tR)))
    (mO : m (Str.ofString "order") = some (.ref x)) (mE : m (Str.ofString "entries") = some (.ref aE)) (mJ : m (Str.ofString "longer") = some (.ref aJ)) (mW : m (Str.ofString "ways") = some (.ref aW))
    (eT : T = (aE, listOf (List.toArray (res.map Value.ref)) nE) :: (aJ, listOf (List.toArray js) nJ) :: T0)
    (hEL : @LT.lt Nat _ (L + 11) aE) (hJL : @LT.lt Nat _ (L + 11) aJ) (hEJ : @Ne Nat aE aJ) (oE : LCg.Off1 aE T0) (oJ : LCg.Off1 aJ T0) (sE : (List.toArray (res.map Value.ref)).size ≤ sizeLine) (sJ : (List.toArray js).size ≤ sizeLine)
    (hO : IsOrder T0 x) (hS : (aS, listOf (List.toArray (ras.map Value.ref)) nS) ∈ T0) (hras : ras.length = k + 1) (hst : Stages w y T0 ras ws) (hw : Walks (ws k) k) (hD : Doors w T0 aD y) (hW : Ways T0 aW (ws k))
    (ret : ∀ h' tk' m' add rb b tj, Fr g L h' m' → News g L h' (cellLed L c ++ ((aE, listOf (List.toArray ((res ++ [rb]).map Value.ref)) (nE + 1)) :: (aJ, listOf (List.toArray (js ++ [.bytes (wb (r :: ws k b)).toArray tj])) (nJ + 1)) :: (add ++ T0))) →
      Young L add → Apart add T → (∀ z, z ≠ Str.ofString "tried" → z ≠ Str.ofString "kept" → z ≠ Str.ofString "u" → m' z = m z) → b < 3 → (∀ v, v < 3 → wmk y (r :: ws k v) ≤ wmk y (r :: ws k b)) → IsStat w add rb (wst y (r :: ws k b)) → Q .next { s with heap := h', toks := tk' }) :
    wpAny (model PySem.Challenge.rw_zo0012_01.row.prog w) (lawA w.params dp un gd L fa cd) (execs (lawRm w.params) (lawEnv w.params L fa cd)) Q E { s with heap := h, toks := tk } := by
  have s0 : ∀ p ∈ T0, p ∈ T := fun p hp => by rw [eT]; exact .tail _ (.tail _ hp)
  have hl5 : ∀ v, v < 3 → (r :: ws k v).length ≤ 5 := fun v hv => by obtain ⟨l, e, hl⟩ := hw v hv; rw [e, List.length_cons, List.length_cons]; omega
  refine execs_first 1 ?_
  refine segF1 w (Q := _) (E := E) B X TT hd hu F N hy hk hr3 cS cG cD cR (s0 _ hS) hras (stages_mono hst s0) hw (doors_mono hD s0) ?_
  intro h1 tk1 aT add1 rs F1 N1 y1 a1 hT1 hrs hst1
  refine execs_from 1 2 3 rfl ?_
  refine segF2 w (Q := _) (E := E) (cand := fun u => wst y (r :: ws k u)) (T := add1 ++ T) (rs := rs) B X TT hd hu F1 N1 (fun p hp => (List.mem_append.mp hp).elim (y1 p) (hy p)) hE (aT := aT) (x := x) rfl mO (order_mono hO fun p hp => List.mem_append_right _ (s0 p hp)) (List.mem_append_left _ hT1) hrs (fun u a' e => isStat_mono (hst1 u a' e) fun p hp => List.mem_append_left _ hp) ?_
  intro h2 tk2 m2 aK b t1 t2 nK add2 F2 N2 y2 a2 hm2 hmK hK2 hb hbest
  have mT2 : m2 (Str.ofString "tried") = some (.ref aT) := hm2 _ (by decide +kernel) (by decide +kernel)
  have old2 : ∀ z, z ≠ Str.ofString "tried" → z ≠ Str.ofString "kept" → z ≠ Str.ofString "u" → m2 z = m z := fun z hz1 hz2 hz3 => (hm2 z hz2 hz3).trans (if_neg hz1)
  refine execs_from 3 1 4 rfl ?_
  refine segF3 w (Q := _) (E := E) (cand := fun u => wst y (r :: ws k u)) (T := add2 ++ (add1 ++ T)) (rs := rs) B X TT hd hu F2 N2 (fun p hp => (List.mem_append.mp hp).elim (y2 p) fun hp => (List.mem_append.mp hp).elim (y1 p) (hy p)) mT2 hmK hb hbest (fun v hv => cand_pos y (hl5 v hv)) (List.mem_append_right _ (List.mem_append_left _ hT1)) hrs (fun u a' e => isStat_mono (hst1 u a' e) fun p hp => List.mem_append_right _ (List.mem_append_left _ hp)) (List.mem_append_left _ hK2) ?_
  intro h3 tk3 add3 F3 N3 y3 a3
  have a2' : Apart add2 T := fun p hp q hq => a2 p hp q (List.mem_append_right _ hq)
  have a3' : Apart add3 T := fun p hp q hq => a3 p hp q (List.mem_append_right _ (List.mem_append_right _ hq))
  have aA : Apart (add3 ++ (add2 ++ add1)) T := fun p hp q hq => (List.mem_append.mp hp).elim (fun hp => a3' p hp q hq) fun hp => (List.mem_append.mp hp).elim (fun hp => a2' p hp q hq) fun hp => a1 p hp q hq
  have yA : Young L (add3 ++ (add2 ++ add1)) := fun p hp => (List.mem_append.mp hp).elim (y3 p) fun hp => (List.mem_append.mp hp).elim (y2 p) (y1 p)
  have hEm : (aE, listOf (List.toArray (res.map Value.ref)) nE) ∈ T := by rw [eT]; exact .head _
  have hJm : (aJ, listOf (List.toArray js) nJ) ∈ T := by rw [eT]; exact .tail _ (.head _)
  have N4 : News g L h3 (cellLed L c ++ ((aE, listOf (List.toArray (res.map Value.ref)) nE) :: (aJ, listOf (List.toArray js) nJ) :: ((add3 ++ (add2 ++ add1)) ++ T0))) := news_sub N3 fun p hp => by
    rw [eT]
    revert hp
    simp only [List.mem_append, List.mem_cons]
    rintro (h | h | h | (h | h | h) | h) <;> simp [h]
  have hyT : Young L T0 := fun p hp => hy p (s0 p hp)
  refine segF4 w (Q := Q) (E := E) (T := (aE, listOf (List.toArray (res.map Value.ref)) nE) :: (aJ, listOf (List.toArray js) nJ) :: ((add3 ++ (add2 ++ add1)) ++ T0)) (aT := aT) (aK := aK) (wy := ws k) (rs := rs) (z := (wst y (r :: ws k b)).ct) (t1 := t1) (t2 := t2) (nK := nK) (nT := 3) B X TT hd hu F3 N4 (young_cons hEL (young_cons hJL fun p hp => (List.mem_append.mp hp).elim (yA p) (hyT p))) mT2 hmK
    ((old2 _ (by decide +kernel) (by decide +kernel) (by decide +kernel)).trans mE) ((old2 _ (by decide +kernel) (by decide +kernel) (by decide +kernel)).trans mJ) ((old2 _ (by decide +kernel) (by decide +kernel) (by decide +kernel)).trans mW)
    cR hr3 hb rfl hEL hJL hEJ ?zzoE ?zzoJ sE sJ ?zzhT hrs ?zzhK ?zzhW ?zzwl ?_
  case zzoE =>
    refine off1_of fun p hp => ?_
    rcases List.mem_append.mp hp with hp | hp
    · exact Ne.symm (aA p hp _ hEm)
    · exact off1_mem oE p hp
  case zzoJ =>
    refine off1_of fun p hp => ?_
    rcases List.mem_append.mp hp with hp | hp
    · exact Ne.symm (aA p hp _ hJm)
    · exact off1_mem oJ p hp
  case zzhT => exact List.mem_append_left _ (List.mem_append_right _ (List.mem_append_right _ hT1))
  case zzhK => exact List.mem_append_left _ (List.mem_append_right _ (List.mem_append_left _ hK2))
  case zzhW =>
    refine Mine.by_op fun P9 bk9 => ?_
    obtain ⟨vs, n, h1, h2⟩ := hW
    refine bk9 ?_; clear bk9 P9
    exact ⟨vs, n, List.mem_append_right _ h1, h2⟩
  case zzwl => obtain ⟨l, e, hl⟩ := hw b hb; rw [e, List.length_cons]; omega
  intro h5 tk5 rb tj F5 N5 hrb
  refine ret h5 tk5 m2 (add3 ++ (add2 ++ add1)) rb b tj F5 N5 yA aA old2 hb (fun v hv => ?_) (isStat_mono (hst1 b rb hrb) fun p hp => List.mem_append_right _ (List.mem_append_right _ hp))
  have := hbest v hv
  rw [wst_ct, wst_ct] at this
  omega
end
-- G15
section
local macro_rules | `(tactic| walk_at $s:str) => `(tactic| k_extra $(Lean.Syntax.mkStrLit ("xG15:" ++ s.getString)))
local macro_rules | `(tactic| walk_at $s:str) => `(tactic| k_extra $(Lean.Syntax.mkStrLit ("xG15:" ++ s.getString)))
theorem setup_G15 : True := by
  k_with "xG15:execs cons" => (refine Mine.stop ?_)
  k_with "xG15:m:hide" => (have qB' := True.intro; have qD' := True.intro; have qF' := True.intro; have qFG' := True.intro; have qL' := True.intro; have qN' := True.intro; have qT' := True.intro; have qX' := True.intro; have qY' := True.intro; have qcells' := True.intro; have qd' := True.intro; have qfF := True.intro; have qg' := True.intro; have qh' := True.intro; have qh0' := True.intro; have qh1' := True.intro; have qhc' := True.intro; have qhd' := True.intro; have qhp := True.intro; have qhv' := True.intro; have qhz := True.intro; have qhz' := True.intro; have qjk' := True.intro; have qkj' := True.intro; have ql1 := True.intro; have ql2 := True.intro; have qlo' := True.intro; have qnE' := True.intro; have qo' := True.intro; have qo1' := True.intro; have qp := True.intro; have qtj' := True.intro; have qtk' := True.intro; have qtv' := True.intro; have qtx' := True.intro; have qvv' := True.intro; have qx' := True.intro; have qzz' := True.intro)
  k_with "xG15:m:bare" => (clear qB' qD' qF' qFG' qL' qN' qT' qX' qY' qcells' qd' qfF qg' qh' qh0' qh1' qhc' qhd' qhp qhv' qhz qhz' qjk' qkj' ql1 ql2 qlo' qnE' qo' qo1' qp qtj' qtk' qtv' qtx' qvv' qx' qzz')
  trivial
set_option synthInstance.maxSize 100000 in
set_option synthInstance.maxHeartbeats 800000 in
noncomputable def s_segF6 (d : (World × (ExcName → Option Value) × (Str → Option Value) × (Str → Option Value)) × (Around × Nat × Nat × (Option (List Code))) × (Addr × Value × Heap × Heap) × (Addr × (Str → Option Value) × LawCells × Shared) × (Nat × (Flow → Shared → Prop) × (Value → Shared → Prop) × Addr) × (Addr × Addr × Addr × Addr) × (Addr × Nat × Nat × Tok) × ((Nat → Nat) × (Nat → Nat → List Nat) × (List Addr) × (List (Addr × Obj))) × ((Option Value))) : Prop := ∀ (T : List (Addr × Obj)) (h : Heap) (B : Below (d.2.1.1) (d.2.2.1.2.2.1) [] (d.2.2.1.2.2.2)) (X : (Mine.hd.heap_1 (d.1.1).params).In (d.2.2.1.2.2.2)) (TT : Top Mine.hd.view_1 (looseW Mine.hd.view_1 []) (d.1.2.1) (d.1.2.2.1) (d.1.2.2.2) (d.2.2.1.2.2.2)) (hd : (d.2.1.2.1) + 40 < recursionLimit) (hu : (d.2.1.2.2.1) + 8 * 40 < cLine) (F : Fr (d.2.2.1.2.2.2) (d.2.2.2.1.1) h (d.2.2.2.1.2.1)) (N : News (d.2.2.1.2.2.2) (d.2.2.2.1.1) h (cellLed (d.2.2.2.1.1) (d.2.2.2.1.2.2.1) ++ T)) (hy : Young (d.2.2.2.1.1) T) (hE : PassesOwn (model PySem.Challenge.rw_zo0012_01.row.prog (d.1.1)) (lawA (d.1.1).params (d.2.1.2.1) (d.2.1.2.2.1) (d.2.1.2.2.2) (d.2.2.2.1.1) (d.2.2.1.1) (d.2.2.1.2.1)) (lawEnv (d.1.1).params (d.2.2.2.1.1) (d.2.2.1.1) (d.2.2.1.2.1)) (d.2.2.2.2.1.2.2.1)) (hk : (d.2.2.2.2.2.2.1.2.1) < 3) (cS : (d.2.2.2.1.2.2.1).oS.data = .cell (some (.ref (d.2.2.2.2.1.2.2.2)))) (cG : (d.2.2.2.1.2.2.1).oG.data = .cell (some (.int ((d.2.2.2.2.2.2.1.2.1) : Int) (d.2.2.2.2.2.2.1.2.2.2)))) (cD : (d.2.2.2.1.2.2.1).oD.data = .cell (some (.ref (d.2.2.2.2.2.1.1)))) (cR : (d.2.2.2.1.2.2.1).oR.data = .cell (d.2.2.2.2.2.2.2.2)) (mO : (d.2.2.2.1.2.1) (Str.ofString "order") = some (.ref (d.2.2.2.2.2.2.1.1))) (mE : (d.2.2.2.1.2.1) (Str.ofString "entries") = some (.ref (d.2.2.2.2.2.1.2.1))) (mJ : (d.2.2.2.1.2.1) (Str.ofString "longer") = some (.ref (d.2.2.2.2.2.1.2.2.1))) (mW : (d.2.2.2.1.2.1) (Str.ofString "ways") = some (.ref (d.2.2.2.2.2.1.2.2.2))) (eT : T = ((d.2.2.2.2.2.1.2.1), listOf (List.toArray (([] : List Addr).map Value.ref)) 0) :: ((d.2.2.2.2.2.1.2.2.1), listOf (List.toArray []) 0) :: (d.2.2.2.2.2.2.2.1.2.2.2)) (hEL : @LT.lt Nat _ ((d.2.2.2.1.1) + 11) (d.2.2.2.2.2.1.2.1)) (hJL : @LT.lt Nat _ ((d.2.2.2.1.1) + 11) (d.2.2.2.2.2.1.2.2.1)) (hEJ : @Ne Nat (d.2.2.2.2.2.1.2.1) (d.2.2.2.2.2.1.2.2.1)) (oE : LCg.Off1 (d.2.2.2.2.2.1.2.1) (d.2.2.2.2.2.2.2.1.2.2.2)) (oJ : LCg.Off1 (d.2.2.2.2.2.1.2.2.1) (d.2.2.2.2.2.2.2.1.2.2.2)) (hO : IsOrder (d.2.2.2.2.2.2.2.1.2.2.2) (d.2.2.2.2.2.2.1.1)) (hS : ((d.2.2.2.2.1.2.2.2), listOf (List.toArray ((d.2.2.2.2.2.2.2.1.2.2.1).map Value.ref)) (d.2.2.2.2.2.2.1.2.2.1)) ∈ (d.2.2.2.2.2.2.2.1.2.2.2)) (hras : (d.2.2.2.2.2.2.2.1.2.2.1).length = (d.2.2.2.2.2.2.1.2.1) + 1) (hst : Stages (d.1.1) (d.2.2.2.2.2.2.2.1.1) (d.2.2.2.2.2.2.2.1.2.2.2) (d.2.2.2.2.2.2.2.1.2.2.1) (d.2.2.2.2.2.2.2.1.2.1)) (hw : Walks ((d.2.2.2.2.2.2.2.1.2.1) (d.2.2.2.2.2.2.1.2.1)) (d.2.2.2.2.2.2.1.2.1)) (hD : Doors (d.1.1) (d.2.2.2.2.2.2.2.1.2.2.2) (d.2.2.2.2.2.1.1) (d.2.2.2.2.2.2.2.1.1)) (hW : Ways (d.2.2.2.2.2.2.2.1.2.2.2) (d.2.2.2.2.2.1.2.2.2) ((d.2.2.2.2.2.2.2.1.2.1) (d.2.2.2.2.2.2.1.2.1))) (ret : ∀ h' tk' m' oR add (res : List Addr) (js : List Value) (wsn : Nat → List Nat), Fr (d.2.2.1.2.2.2) (d.2.2.2.1.1) h' m' → News (d.2.2.1.2.2.2) (d.2.2.2.1.1) h' (cellLed (d.2.2.2.1.1) { (d.2.2.2.1.2.2.1) with oR := oR } ++ (((d.2.2.2.2.2.1.2.1), listOf (List.toArray (res.map Value.ref)) 3) :: ((d.2.2.2.2.2.1.2.2.1), listOf (List.toArray js) 3) :: (add ++ (d.2.2.2.2.2.2.2.1.2.2.2)))) → Young (d.2.2.2.1.1) add → Apart add T → (∃ v, oR.data = .cell v) →
      (∀ z, z ≠ Str.ofString "tried" → z ≠ Str.ofString "kept" → z ≠ Str.ofString "u" → m' z = (d.2.2.2.1.2.1) z) → res.length = 3 → (∀ q a', res[q]? = some a' → IsStat (d.1.1) add a' (wst (d.2.2.2.2.2.2.2.1.1) (wsn q))) → ValsF js 3 (fun q v => ∃ t, v = .bytes (wb (wsn q)).toArray t) → Step (d.2.2.2.2.2.2.2.1.1) ((d.2.2.2.2.2.2.2.1.2.1) (d.2.2.2.2.2.2.1.2.1)) wsn → (d.2.2.2.2.1.2.1) .next { (d.2.2.2.1.2.2.2) with heap := h', toks := tk' }), wpAny (model PySem.Challenge.rw_zo0012_01.row.prog (d.1.1)) (lawA (d.1.1).params (d.2.1.2.1) (d.2.1.2.2.1) (d.2.1.2.2.2) (d.2.2.2.1.1) (d.2.2.1.1) (d.2.2.1.2.1)) (execs (((lawSt (d.1.1).params).drop 1).take 1) (lawEnv (d.1.1).params (d.2.2.2.1.1) (d.2.2.1.1) (d.2.2.1.2.1))) (d.2.2.2.2.1.2.1) (d.2.2.2.2.1.2.2.1) { (d.2.2.2.1.2.2.2) with heap := h, toks := (d.2.2.2.2.1.1) }
set_option synthInstance.maxSize 100000 in
set_option synthInstance.maxHeartbeats 800000 in
@[irreducible] noncomputable def k_segF6 : (World × (ExcName → Option Value) × (Str → Option Value) × (Str → Option Value)) × (Around × Nat × Nat × (Option (List Code))) × (Addr × Value × Heap × Heap) × (Addr × (Str → Option Value) × LawCells × Shared) × (Nat × (Flow → Shared → Prop) × (Value → Shared → Prop) × Addr) × (Addr × Addr × Addr × Addr) × (Addr × Nat × Nat × Tok) × ((Nat → Nat) × (Nat → Nat → List Nat) × (List Addr) × (List (Addr × Obj))) × ((Option Value)) := pick (by haveI := ne_World; haveI := ne_Around; haveI := ne_Shared; haveI := ne_Cells; exact inferInstance) s_segF6
theorem segF6_c : s_segF6 k_segF6 := by
  delta s_segF6
  intro T h B X TT hd hu F N hy hE hk cS cG cD cR mO mE mJ mW eT hEL hJL hEJ oE oJ hO hS hras hst hw hD hW ret
  have hE0 := hE
  have B0 := B
  walk_at "m:fill"
  subst eT
  simp only [cellLed, List.cons_append, List.nil_append] at N
  dsimp only [lawSt, fBs]
  dsimp only [lawS, lawEnv, lawA, lawParts] at hE B
  walk_at "m:body"
  refine wpAny_execs_cons ?_
  k_steps
  (walk_at "m:hide"; rename_i h1 tk1 u1 u2 u3 hr F1 N1 kp htk1; walk_at "m:bare")
  refine iter_rangeT (n := 3) (fun i m' led' => ∃ oR Ti, ∃ res : List Addr, ∃ js : List Value, ∃ wsn : Nat → List Nat, led' = cellLed (k_segF6.2.2.2.1.1) { (k_segF6.2.2.2.1.2.2.1) with oR := oR } ++ (((k_segF6.2.2.2.2.2.1.2.1), listOf (List.toArray (res.map Value.ref)) i) :: ((k_segF6.2.2.2.2.2.1.2.2.1), listOf (List.toArray js) i) :: (Ti ++ (k_segF6.2.2.2.2.2.2.2.1.2.2.2))) ∧ (∃ v, oR.data = .cell v) ∧
      Apart Ti (((k_segF6.2.2.2.2.2.1.2.1), listOf (List.toArray (([] : List Addr).map Value.ref)) 0) :: ((k_segF6.2.2.2.2.2.1.2.2.1), listOf (List.toArray []) 0) :: (k_segF6.2.2.2.2.2.2.2.1.2.2.2)) ∧ Young (k_segF6.2.2.2.1.1) Ti ∧ (∀ z, z ≠ Str.ofString "tried" → z ≠ Str.ofString "kept" → z ≠ Str.ofString "u" → m' z = (k_segF6.2.2.2.1.2.1) z) ∧ res.length = i ∧ (∀ q a', res[q]? = some a' → IsStat (k_segF6.1.1) Ti a' (wst (k_segF6.2.2.2.2.2.2.2.1.1) (wsn q))) ∧
      ValsF js i (fun q v => ∃ t, v = .bytes (wb (wsn q)).toArray t) ∧ (∀ q, q < i → ∃ u, u < 3 ∧ wsn q = q :: (k_segF6.2.2.2.2.2.2.2.1.2.1) (k_segF6.2.2.2.2.2.2.1.2.1) u ∧ ∀ v, v < 3 → wmk (k_segF6.2.2.2.2.2.2.2.1.1) (q :: (k_segF6.2.2.2.2.2.2.2.1.2.1) (k_segF6.2.2.2.2.2.2.1.2.1) v) ≤ wmk (k_segF6.2.2.2.2.2.2.2.1.1) (q :: (k_segF6.2.2.2.2.2.2.2.1.2.1) (k_segF6.2.2.2.2.2.2.1.2.1) u))) (by rfl) hr (by decide) (by decide) F1 N1
    ⟨(k_segF6.2.2.2.1.2.2.1).oR, [], [], [], fun _ => [], rfl, ⟨_, cR⟩, apart_nil, young_nil, fun _ _ _ _ => rfl, rfl, no_at, ValsF.nil, fun q hq => absurd hq (Nat.not_lt_zero _)⟩ (by intros; exact Expr.noConfusion) (by intros; exact Expr.noConfusion) ?_ ?_
  · intro i ti m₁ led₁ h4 tk4 I oI htk4 hi qz109 F4 N4 off
    refine Mine.by_op fun P9 bk9 => ?_
    obtain ⟨oR, Ti, res, js, wsn, rfl, ⟨vR', cR'⟩, hap, hyi, hm1, hres, hrst, hjs, hstep⟩ := qz109
    refine bk9 ?_; clear bk9 P9
    rw [Int.zero_add]
    replace N4 : News (k_segF6.2.2.1.2.2.2) (k_segF6.2.2.2.1.1) h4 _ := N4
    replace F4 : Fr (k_segF6.2.2.1.2.2.2) (k_segF6.2.2.2.1.1) h4 _ := F4
    clear F1 N1 kp hr
    have off0 := off1_of off
    simp only [cellLed, List.cons_append, List.nil_append] at N4 off0
    refine Mine.by_op fun P9 bk9 => ?_
    obtain ⟨f11, f10, f9, f8, f7, f6, f5, f4, f3, f2, f1, fE, fJ, fT⟩ := off0
    refine bk9 ?_; clear bk9 P9
    dsimp only at f11 f10 f9 f8 f7 f6 f5 f4 f3 f2 f1 fE fJ
    have hyT' : Young (k_segF6.2.2.2.1.1) (Ti ++ (k_segF6.2.2.2.2.2.2.2.1.2.2.2)) := fun p hp => (List.mem_append.mp hp).elim (hyi p) fun hp => hy p (.tail _ (.tail _ hp))
    k_steps
    (walk_at "m:hide"; rename_i h5 oR' F5 N5 dR; walk_at "m:bare")
    have hmem : ∀ p ∈ (k_segF6.2.2.2.2.2.2.2.1.2.2.2), p ∈ (I, oI) :: (Ti ++ (k_segF6.2.2.2.2.2.2.2.1.2.2.2)) := fun p hp => .tail _ (List.mem_append_right _ hp)
    have N6 : News (k_segF6.2.2.1.2.2.2) (k_segF6.2.2.2.1.1) h5 (cellLed (k_segF6.2.2.2.1.1) { (k_segF6.2.2.2.1.2.2.1) with oR := oR' } ++ (((k_segF6.2.2.2.2.2.1.2.1), listOf (List.toArray (res.map Value.ref)) i) :: ((k_segF6.2.2.2.2.2.1.2.2.1), listOf (List.toArray js) i) :: ((I, oI) :: (Ti ++ (k_segF6.2.2.2.2.2.2.2.1.2.2.2))))) := news_sub N5 fun p hp => by
      rcases List.mem_append.mp hp with hp | hp
      · exact .tail _ (List.mem_append_left _ hp)
      · rcases List.mem_cons.mp hp with hp | hp
        · exact .tail _ (List.mem_append_right (cellLed (k_segF6.2.2.2.1.1) { (k_segF6.2.2.2.1.2.2.1) with oR := oR' }) (hp ▸ .head _))
        · rcases List.mem_cons.mp hp with hp | hp
          · exact .tail _ (List.mem_append_right (cellLed (k_segF6.2.2.2.1.1) { (k_segF6.2.2.2.1.2.2.1) with oR := oR' }) (hp ▸ .tail _ (.head _)))
          · rcases List.mem_cons.mp hp with hp | hp
            · exact hp ▸ .head _
            · exact .tail _ (List.mem_append_right (cellLed (k_segF6.2.2.2.1.1) { (k_segF6.2.2.2.1.2.2.1) with oR := oR' }) (.tail _ (.tail _ hp)))
    have hyI : Young (k_segF6.2.2.2.1.1) ((I, oI) :: (Ti ++ (k_segF6.2.2.2.2.2.2.2.1.2.2.2))) := young_off (c := (k_segF6.2.2.2.1.2.2.1)) (R := []) ⟨f11, f10, f9, f8, f7, f6, f5, f4, f3, f2, f1, trivial⟩ hyT'
    have hz : ∀ z, z ≠ Str.ofString "tried" → z ≠ Str.ofString "kept" → z ≠ Str.ofString "u" → ∀ v, (k_segF6.2.2.2.1.2.1) z = some v → m₁ z = some v := fun z z1 z2 z3 v e => (hm1 z z1 z2 z3).trans e
    have hEm : ((k_segF6.2.2.2.2.2.1.2.1), listOf (List.toArray (([] : List Addr).map Value.ref)) 0) ∈ (((k_segF6.2.2.2.2.2.1.2.1), listOf (List.toArray (([] : List Addr).map Value.ref)) 0) :: ((k_segF6.2.2.2.2.2.1.2.2.1), listOf (List.toArray []) 0) :: (k_segF6.2.2.2.2.2.2.2.1.2.2.2)) := .head _
    have hJm : ((k_segF6.2.2.2.2.2.1.2.2.1), listOf (List.toArray []) 0) ∈ (((k_segF6.2.2.2.2.2.1.2.1), listOf (List.toArray (([] : List Addr).map Value.ref)) 0) :: ((k_segF6.2.2.2.2.2.1.2.2.1), listOf (List.toArray []) 0) :: (k_segF6.2.2.2.2.2.2.2.1.2.2.2)) := .tail _ (.head _)
    refine segF5 (k_segF6.1.1) (c := { (k_segF6.2.2.2.1.2.2.1) with oR := oR' }) (T := ((k_segF6.2.2.2.2.2.1.2.1), listOf (List.toArray (res.map Value.ref)) i) :: ((k_segF6.2.2.2.2.2.1.2.2.1), listOf (List.toArray js) i) :: ((I, oI) :: (Ti ++ (k_segF6.2.2.2.2.2.2.2.1.2.2.2)))) (T0 := (I, oI) :: (Ti ++ (k_segF6.2.2.2.2.2.2.2.1.2.2.2))) (k := (k_segF6.2.2.2.2.2.2.1.2.1)) (r := i) (tG := (k_segF6.2.2.2.2.2.2.1.2.2.2)) (ws := (k_segF6.2.2.2.2.2.2.2.1.2.1)) (y := (k_segF6.2.2.2.2.2.2.2.1.1)) (ras := (k_segF6.2.2.2.2.2.2.2.1.2.2.1)) (nS := (k_segF6.2.2.2.2.2.2.1.2.2.1)) (aS := (k_segF6.2.2.2.2.1.2.2.2)) (aD := (k_segF6.2.2.2.2.2.1.1)) B0 X TT hd hu F5 N6 (young_cons hEL (young_cons hJL hyI)) hE0 hk hi cS cG cD dR
      (hz _ (by decide +kernel) (by decide +kernel) (by decide +kernel) _ mO) (hz _ (by decide +kernel) (by decide +kernel) (by decide +kernel) _ mE) (hz _ (by decide +kernel) (by decide +kernel) (by decide +kernel) _ mJ) (hz _ (by decide +kernel) (by decide +kernel) (by decide +kernel) _ mW)
      rfl hEL hJL hEJ ?zzoE ?zzoJ ?zzsE ?zzsJ (order_mono hO hmem) (hmem _ hS) hras (stages_mono hst hmem) hw (doors_mono hD hmem) ?zzhW ?_
    case zzoE =>
      refine off1_of fun p hp => ?_
      rcases List.mem_cons.mp hp with hp | hp
      · rw [hp]; exact Ne.symm fE
      · rcases List.mem_append.mp hp with hp | hp
        · exact Ne.symm (hap p hp _ hEm)
        · exact off1_mem oE p hp
    case zzoJ =>
      refine off1_of fun p hp => ?_
      rcases List.mem_cons.mp hp with hp | hp
      · rw [hp]; exact Ne.symm fJ
      · rcases List.mem_append.mp hp with hp | hp
        · exact Ne.symm (hap p hp _ hJm)
        · exact off1_mem oJ p hp
    case zzsE => rw [List.size_toArray, List.length_map, hres, sizeLine_eq]; omega
    case zzsJ => rw [List.size_toArray, hjs.1, sizeLine_eq]; omega
    case zzhW =>
      refine Mine.by_op fun P9 bk9 => ?_
      obtain ⟨vs, n, e1, e2⟩ := hW
      refine bk9 ?_; clear bk9 P9
      exact ⟨vs, n, hmem _ e1, e2⟩
    intro h7 tk7 m7 add rb b tj F7 N7 ya aa hm7 hb hbest hrb
    have hIT : (I, oI) ∈ ((k_segF6.2.2.2.2.2.1.2.1), listOf (List.toArray (res.map Value.ref)) i) :: ((k_segF6.2.2.2.2.2.1.2.2.1), listOf (List.toArray js) i) :: ((I, oI) :: (Ti ++ (k_segF6.2.2.2.2.2.2.2.1.2.2.2))) := .tail _ (.tail _ (.head _))
    refine Mine.TurnEnd.intro (cellLed (k_segF6.2.2.2.1.1) { (k_segF6.2.2.2.1.2.2.1) with oR := oR' } ++ (((k_segF6.2.2.2.2.2.1.2.1), listOf (List.toArray ((res ++ [rb]).map Value.ref)) (i + 1)) :: ((k_segF6.2.2.2.2.2.1.2.2.1), listOf (List.toArray (js ++ [.bytes (wb (i :: (k_segF6.2.2.2.2.2.2.2.1.2.1) (k_segF6.2.2.2.2.2.2.1.2.1) b)).toArray tj])) (i + 1)) :: ((add ++ Ti) ++ (k_segF6.2.2.2.2.2.2.2.1.2.2.2)))) F7 N7 ?_ ?_
      ⟨oR', add ++ Ti, res ++ [rb], js ++ [.bytes (wb (i :: (k_segF6.2.2.2.2.2.2.2.1.2.1) (k_segF6.2.2.2.2.2.2.1.2.1) b)).toArray tj], fun q => if q = i then i :: (k_segF6.2.2.2.2.2.2.2.1.2.1) (k_segF6.2.2.2.2.2.2.1.2.1) b else wsn q, rfl, ⟨_, dR⟩, ?_, fun p hp => (List.mem_append.mp hp).elim (ya p) (hyi p), fun z z1 z2 z3 => (hm7 z z1 z2 z3).trans (hm1 z z1 z2 z3), by rw [List.length_append, hres]; rfl, ?_, ?_, ?_⟩
    · intro p hp
      revert hp
      simp only [List.mem_append, List.mem_cons]
      rintro (h | h | h | h | (h | h) | h) <;> simp [h]
    · have hcell : ∀ p ∈ cellLed (k_segF6.2.2.2.1.1) { (k_segF6.2.2.2.1.2.2.1) with oR := oR' }, p.1 ≠ I := off1_mem (l := cellLed (k_segF6.2.2.2.1.1) { (k_segF6.2.2.2.1.2.2.1) with oR := oR' }) ⟨f11, f10, f9, f8, f7, f6, f5, f4, f3, f2, f1, trivial⟩
      intro p hp
      rcases List.mem_append.mp hp with hp | hp
      · exact hcell p hp
      · rcases List.mem_cons.mp hp with hp | hp
        · rw [hp]; exact fE
        · rcases List.mem_cons.mp hp with hp | hp
          · rw [hp]; exact fJ
          · rcases List.mem_append.mp hp with hp | hp
            · rcases List.mem_append.mp hp with hp | hp
              · exact Ne.symm (aa p hp _ hIT)
              · exact off1_mem fT p (List.mem_append_left _ hp)
            · exact off1_mem fT p (List.mem_append_right _ hp)
    · intro p hp q hq
      rcases List.mem_append.mp hp with hp | hp
      · rcases List.mem_cons.mp hq with hq | hq
        · rw [hq]; exact aa p hp ((k_segF6.2.2.2.2.2.1.2.1), listOf (List.toArray (res.map Value.ref)) i) (.head _)
        · rcases List.mem_cons.mp hq with hq | hq
          · rw [hq]; exact aa p hp ((k_segF6.2.2.2.2.2.1.2.2.1), listOf (List.toArray js) i) (.tail _ (.head _))
          · exact aa p hp q (.tail _ (.tail _ (.tail _ (List.mem_append_right _ hq))))
      · exact hap p hp q hq
    · intro q a' hq
      dsimp only
      by_cases hqi : q < i
      · rw [List.getElem?_append_left (by omega)] at hq
        rw [if_neg (by omega)]
        exact isStat_mono (hrst q a' hq) fun p hp => List.mem_append_right _ hp
      · have hql : q < (res ++ [rb]).length := (List.getElem?_eq_some_iff.mp hq).1
        rw [List.length_append, hres] at hql
        have e1 : [rb].length = 1 := rfl
        refine Mine.by_op fun P9 bk9 => ?_
        obtain rfl : q = i := by omega
        refine bk9 ?_; clear bk9 P9
        rw [List.getElem?_append_right (by omega), hres, Nat.sub_self] at hq
        cases hq
        rw [if_pos rfl]
        exact isStat_mono hrb fun p hp => List.mem_append_left _ hp
    · have hjs' : ValsF js i (fun q v => ∃ t, v = .bytes (wb ((fun q => if q = i then i :: (k_segF6.2.2.2.2.2.2.2.1.2.1) (k_segF6.2.2.2.2.2.2.1.2.1) b else wsn q) q)).toArray t) := ⟨hjs.1, fun q hq => by
        refine Mine.by_op fun P9 bk9 => ?_
        obtain ⟨v, e1, t, e2⟩ := hjs.2 q hq
        refine bk9 ?_; clear bk9 P9
        exact ⟨v, e1, t, by rw [e2]; dsimp only; rw [if_neg (by omega)]⟩⟩
      exact hjs'.snoc ⟨tj, by dsimp only; rw [if_pos rfl]⟩
    · intro q hq
      dsimp only
      by_cases hqi : q < i
      · rw [if_neg (by omega)]; exact hstep q hqi
      · refine Mine.by_op fun P9 bk9 => ?_
        obtain rfl : q = i := by omega
        refine bk9 ?_; clear bk9 P9
        rw [if_pos rfl]
        exact ⟨b, hb, rfl, hbest⟩
  · intro h5 tk5 m5 led5 F5 N5 qz69
    refine Mine.by_op fun P9 bk9 => ?_
    obtain ⟨oR, Ti, res, js, wsn, rfl, hcR', hap, hyi, hm1, hres, hrst, hjs, hstep⟩ := qz69
    refine bk9 ?_; clear bk9 P9
    refine wpAny_execs_nil ?_
    exact ret _ _ m5 oR Ti res js wsn F5 N5 hyi hap hcR' hm1 hres hrst hjs fun q hq => hstep q hq
theorem segF6 (w : World) {mean : ExcName → Option Value} {mg mb : Str → Option Value} {A₀ : Around} {dp un : Nat} {gd : Option (List Code)} {fa : Addr} {cd : Value} {base g : Heap} {L : Addr} {m : Str → Option Value} {T : List (Addr × Obj)} {c : LawCells} {s : Shared} {h : Heap} {tk : Nat} {Q : Flow → Shared → Prop} {E : Value → Shared → Prop}
    (B : Below A₀ base [] g) (X : (Mine.hd.heap_1 w.params).In g) (TT : Top Mine.hd.view_1 (looseW Mine.hd.view_1 []) mean mg mb g) (hd : dp + 40 < recursionLimit) (hu : un + 8 * 40 < cLine)
    (F : Fr g L h m) (N : News g L h (cellLed L c ++ T)) (hy : Young L T)
    {aS aD aE aJ aW x : Addr} {k nS : Nat} {tG : Tok} {y : Nat → Nat} {ws : Nat → Nat → List Nat} {ras : List Addr} {T0 : List (Addr × Obj)} {vR : Option Value}
    (hE : PassesOwn (model PySem.Challenge.rw_zo0012_01.row.prog w) (lawA w.params dp un gd L fa cd) (lawEnv w.params L fa cd) E)
    (hk : k < 3)
    (cS : c.oS.data = .cell (some (.ref aS))) (cG : c.oG.data = .cell (some (.int (k : Int) tG))) (cD : c.oD.data = .cell (some (.ref aD))) (cR : c.oR.data = .cell vR)
    (mO : m (Str.ofString "order") = some (.ref x)) (mE : m (Str.ofString "entries") = some (.ref aE)) (mJ : m (Str.ofString "longer") = some (.ref aJ)) (mW : m (Str.ofString "ways") = some (.ref aW))
    (eT : T = (aE, listOf (List.toArray (([] : List Addr).map Value.ref)) 0) :: (aJ, listOf (List.toArray []) 0) :: T0)
    (hEL : @LT.lt Nat _ (L + 11) aE) (hJL : @LT.lt Nat _ (L + 11) aJ) (hEJ : @Ne Nat aE aJ) (oE : LCg.Off1 aE T0) (oJ : LCg.Off1 aJ T0)
    (hO : IsOrder T0 x) (hS : (aS, listOf (List.toArray (ras.map Value.ref)) nS) ∈ T0) (hras : ras.length = k + 1) (hst : Stages w y T0 ras ws) (hw : Walks (ws k) k) (hD : Doors w T0 aD y) (hW : Ways T0 aW (ws k))
    (ret : ∀ h' tk' m' oR add (res : List Addr) (js : List Value) (wsn : Nat → List Nat), Fr g L h' m' → News g L h' (cellLed L { c with oR := oR } ++ ((aE, listOf (List.toArray (res.map Value.ref)) 3) :: (aJ, listOf (List.toArray js) 3) :: (add ++ T0))) → Young L add → Apart add T → (∃ v, oR.data = .cell v) →
      (∀ z, z ≠ Str.ofString "tried" → z ≠ Str.ofString "kept" → z ≠ Str.ofString "u" → m' z = m z) → res.length = 3 → (∀ q a', res[q]? = some a' → IsStat w add a' (wst y (wsn q))) → ValsF js 3 (fun q v => ∃ t, v = .bytes (wb (wsn q)).toArray t) → Step y (ws k) wsn → Q .next { s with heap := h', toks := tk' }) : wpAny (model PySem.Challenge.rw_zo0012_01.row.prog w) (lawA w.params dp un gd L fa cd) (execs (((lawSt w.params).drop 1).take 1) (lawEnv w.params L fa cd)) Q E { s with heap := h, toks := tk } :=
  pick_all k_segF6.eq_1 segF6_c ((w, mean, mg, mb), (A₀, dp, un, gd), (fa, cd, base, g), (L, m, c, s), (tk, Q, E, aS), (aD, aE, aJ, aW), (x, k, nS, tG), (y, ws, ras, T0), (vR)) T h B X TT hd hu F N hy hE hk cS cG cD cR mO mE mJ mW eT hEL hJL hEJ oE oJ hO hS hras hst hw hD hW ret
end
-- G16
section
local macro_rules | `(tactic| walk_at $s:str) => `(tactic| k_extra $(Lean.Syntax.mkStrLit ("xG16:" ++ s.getString)))
theorem setup_G16 : True := by
  k_with "xG16:m:hide" => (have qB' := True.intro; have qD' := True.intro; have qF' := True.intro; have qFG' := True.intro; have qL' := True.intro; have qN' := True.intro; have qT' := True.intro; have qX' := True.intro; have qY' := True.intro; have qcells' := True.intro; have qd' := True.intro; have qfF := True.intro; have qg' := True.intro; have qh' := True.intro; have qh0' := True.intro; have qh1' := True.intro; have qhc' := True.intro; have qhd' := True.intro; have qhp := True.intro; have qhv' := True.intro; have qhz := True.intro; have qhz' := True.intro; have qjk' := True.intro; have qkj' := True.intro; have ql1 := True.intro; have ql2 := True.intro; have qlo' := True.intro; have qnE' := True.intro; have qo' := True.intro; have qo1' := True.intro; have qp := True.intro; have qtj' := True.intro; have qtk' := True.intro; have qtv' := True.intro; have qtx' := True.intro; have qvv' := True.intro; have qx' := True.intro; have qzz' := True.intro)
  k_with "xG16:m:bare" => (clear qB' qD' qF' qFG' qL' qN' qT' qX' qY' qcells' qd' qfF qg' qh' qh0' qh1' qhc' qhd' qhp qhv' qhz qhz' qjk' qkj' ql1 ql2 qlo' qnE' qo' qo1' qp qtj' qtk' qtv' qtx' qvv' qx' qzz')
  trivial
set_option synthInstance.maxSize 100000 in
set_option synthInstance.maxHeartbeats 800000 in
noncomputable def s_segF7a (d : (World × (ExcName → Option Value) × (Str → Option Value) × (Str → Option Value)) × (Around × Nat × Nat × (Option (List Code))) × (Addr × Value × Heap × Heap) × (Addr × (Str → Option Value) × (List (Addr × Obj)) × LawCells) × (Shared × Heap × Nat × (Flow → Shared → Prop)) × ((Value → Shared → Prop))) : Prop := ∀ (B : Below (d.2.1.1) (d.2.2.1.2.2.1) [] (d.2.2.1.2.2.2)) (X : (Mine.hd.heap_1 (d.1.1).params).In (d.2.2.1.2.2.2)) (TT : Top Mine.hd.view_1 (looseW Mine.hd.view_1 []) (d.1.2.1) (d.1.2.2.1) (d.1.2.2.2) (d.2.2.1.2.2.2)) (hd : (d.2.1.2.1) + 40 < recursionLimit) (hu : (d.2.1.2.2.1) + 8 * 40 < cLine) (F : Fr (d.2.2.1.2.2.2) (d.2.2.2.1.1) (d.2.2.2.2.1.2.1) (d.2.2.2.1.2.1)) (N : News (d.2.2.1.2.2.2) (d.2.2.2.1.1) (d.2.2.2.2.1.2.1) (cellLed (d.2.2.2.1.1) (d.2.2.2.1.2.2.2) ++ (d.2.2.2.1.2.2.1))) (hy : Young (d.2.2.2.1.1) (d.2.2.2.1.2.2.1)) (ret : ∀ h' tk' m' aE aJ, Fr (d.2.2.1.2.2.2) (d.2.2.2.1.1) h' m' → News (d.2.2.1.2.2.2) (d.2.2.2.1.1) h' (cellLed (d.2.2.2.1.1) (d.2.2.2.1.2.2.2) ++ ((aE, listOf (List.toArray (([] : List Addr).map Value.ref)) 0) :: (aJ, listOf (List.toArray []) 0) :: (d.2.2.2.1.2.2.1))) → @LT.lt Nat _ ((d.2.2.2.1.1) + 11) aE → @LT.lt Nat _ ((d.2.2.2.1.1) + 11) aJ → @Ne Nat aE aJ → LCg.Off1 aE (d.2.2.2.1.2.2.1) → LCg.Off1 aJ (d.2.2.2.1.2.2.1) → (∀ z, z ≠ Str.ofString "entries" → z ≠ Str.ofString "longer" → m' z = (d.2.2.2.1.2.1) z) → m' (Str.ofString "entries") = some (.ref aE) → m' (Str.ofString "longer") = some (.ref aJ) → (d.2.2.2.2.1.2.2.2) .next { (d.2.2.2.2.1.1) with heap := h', toks := tk' }), wpAny (model PySem.Challenge.rw_zo0012_01.row.prog (d.1.1)) (lawA (d.1.1).params (d.2.1.2.1) (d.2.1.2.2.1) (d.2.1.2.2.2) (d.2.2.2.1.1) (d.2.2.1.1) (d.2.2.1.2.1)) (execs ((lawSt (d.1.1).params).take 1) (lawEnv (d.1.1).params (d.2.2.2.1.1) (d.2.2.1.1) (d.2.2.1.2.1))) (d.2.2.2.2.1.2.2.2) (d.2.2.2.2.2) { (d.2.2.2.2.1.1) with heap := (d.2.2.2.2.1.2.1), toks := (d.2.2.2.2.1.2.2.1) }
set_option synthInstance.maxSize 100000 in
set_option synthInstance.maxHeartbeats 800000 in
@[irreducible] noncomputable def k_segF7a : (World × (ExcName → Option Value) × (Str → Option Value) × (Str → Option Value)) × (Around × Nat × Nat × (Option (List Code))) × (Addr × Value × Heap × Heap) × (Addr × (Str → Option Value) × (List (Addr × Obj)) × LawCells) × (Shared × Heap × Nat × (Flow → Shared → Prop)) × ((Value → Shared → Prop)) := pick (by haveI := ne_World; haveI := ne_Around; haveI := ne_Shared; haveI := ne_Cells; exact inferInstance) s_segF7a
theorem segF7a_c : s_segF7a k_segF7a := by
  delta s_segF7a
  intro B X TT hd hu F N hy ret
  walk_at "m:fill"
  simp only [cellLed, List.cons_append, List.nil_append] at N
  dsimp only [lawSt, fBs]
  (try dsimp only [lawS, lawEnv, lawA, lawParts] at B)
  walk_at "m:body"
  k_steps
  (walk_at "m:hide"; rename_i aE hA lA aJ hB lB D1 hC lC hD hF hG F9 N9; walk_at "m:bare")
  have hlE := allLt_mem (d := aE) (l := cellLed (k_segF7a.2.2.2.1.1) (k_segF7a.2.2.2.1.2.2.2) ++ (k_segF7a.2.2.2.1.2.2.1)) lA
  have hlJ := allLt_mem (d := aJ) (l := (aE, (k_segF7a.2.2.2.1.2.2.2).oQ) :: (cellLed (k_segF7a.2.2.2.1.1) (k_segF7a.2.2.2.1.2.2.2) ++ (k_segF7a.2.2.2.1.2.2.1))) lB
  refine wpAny_execs_nil ?_
  refine ret _ _ _ aE aJ F9 (news_sub N9 ?_) (hlE ((k_segF7a.2.2.2.1.1) + 11, (k_segF7a.2.2.2.1.2.2.2).oQ) (.head _)) (hlJ ((k_segF7a.2.2.2.1.1) + 11, (k_segF7a.2.2.2.1.2.2.2).oQ) (.tail _ (.head _))) (Nat.ne_of_lt (hlJ (aE, (k_segF7a.2.2.2.1.2.2.2).oQ) (.head _))) (off1_of fun p hp => Nat.ne_of_lt (hlE p (List.mem_append_right _ hp))) (off1_of fun p hp => Nat.ne_of_lt (hlJ p (.tail _ (List.mem_append_right _ hp)))) (fun z z1 z2 => ?_) rfl rfl
  · intro p hp
    rcases List.mem_append.mp hp with hp | hp
    · exact .tail _ (.tail _ (.tail _ (List.mem_append_left (k_segF7a.2.2.2.1.2.2.1) hp)))
    · rcases List.mem_cons.mp hp with hp | hp
      · exact hp ▸ .tail _ (.tail _ (.head _))
      · rcases List.mem_cons.mp hp with hp | hp
        · exact hp ▸ .tail _ (.head _)
        · exact .tail _ (.tail _ (.tail _ (List.mem_append_right (cellLed (k_segF7a.2.2.2.1.1) (k_segF7a.2.2.2.1.2.2.2)) hp)))
  · (try dsimp only)
    rw [if_neg z2, if_neg z1]
theorem segF7a (w : World) {mean : ExcName → Option Value} {mg mb : Str → Option Value} {A₀ : Around} {dp un : Nat} {gd : Option (List Code)} {fa : Addr} {cd : Value} {base g : Heap} {L : Addr} {m : Str → Option Value} {T : List (Addr × Obj)} {c : LawCells} {s : Shared} {h : Heap} {tk : Nat} {Q : Flow → Shared → Prop} {E : Value → Shared → Prop}
    (B : Below A₀ base [] g) (X : (Mine.hd.heap_1 w.params).In g) (TT : Top Mine.hd.view_1 (looseW Mine.hd.view_1 []) mean mg mb g) (hd : dp + 40 < recursionLimit) (hu : un + 8 * 40 < cLine)
    (F : Fr g L h m) (N : News g L h (cellLed L c ++ T)) (hy : Young L T)
    (ret : ∀ h' tk' m' aE aJ, Fr g L h' m' → News g L h' (cellLed L c ++ ((aE, listOf (List.toArray (([] : List Addr).map Value.ref)) 0) :: (aJ, listOf (List.toArray []) 0) :: T)) → @LT.lt Nat _ (L + 11) aE → @LT.lt Nat _ (L + 11) aJ → @Ne Nat aE aJ → LCg.Off1 aE T → LCg.Off1 aJ T → (∀ z, z ≠ Str.ofString "entries" → z ≠ Str.ofString "longer" → m' z = m z) → m' (Str.ofString "entries") = some (.ref aE) → m' (Str.ofString "longer") = some (.ref aJ) → Q .next { s with heap := h', toks := tk' }) : wpAny (model PySem.Challenge.rw_zo0012_01.row.prog w) (lawA w.params dp un gd L fa cd) (execs ((lawSt w.params).take 1) (lawEnv w.params L fa cd)) Q E { s with heap := h, toks := tk } :=
  pick_all k_segF7a.eq_1 segF7a_c ((w, mean, mg, mb), (A₀, dp, un, gd), (fa, cd, base, g), (L, m, T, c), (s, h, tk, Q), (E)) B X TT hd hu F N hy ret
set_option synthInstance.maxSize 100000 in
set_option synthInstance.maxHeartbeats 800000 in
noncomputable def s_segF7b (d : (World × (ExcName → Option Value) × (Str → Option Value) × (Str → Option Value)) × (Around × Nat × Nat × (Option (List Code))) × (Addr × Value × Heap × Heap) × (Addr × (Str → Option Value) × LawCells × Shared) × (Heap × Nat × (Flow → Shared → Prop) × (Value → Shared → Prop)) × (Addr × Addr × Addr × Nat) × ((List Addr) × (List (Addr × Obj)))) : Prop := ∀ (T : List (Addr × Obj)) (B : Below (d.2.1.1) (d.2.2.1.2.2.1) [] (d.2.2.1.2.2.2)) (X : (Mine.hd.heap_1 (d.1.1).params).In (d.2.2.1.2.2.2)) (TT : Top Mine.hd.view_1 (looseW Mine.hd.view_1 []) (d.1.2.1) (d.1.2.2.1) (d.1.2.2.2) (d.2.2.1.2.2.2)) (hd : (d.2.1.2.1) + 40 < recursionLimit) (hu : (d.2.1.2.2.1) + 8 * 40 < cLine) (F : Fr (d.2.2.1.2.2.2) (d.2.2.2.1.1) (d.2.2.2.2.1.1) (d.2.2.2.1.2.1)) (N : News (d.2.2.1.2.2.2) (d.2.2.2.1.1) (d.2.2.2.2.1.1) (cellLed (d.2.2.2.1.1) (d.2.2.2.1.2.2.1) ++ T)) (hy : Young (d.2.2.2.1.1) T) (cS : (d.2.2.2.1.2.2.1).oS.data = .cell (some (.ref (d.2.2.2.2.2.1.1)))) (mE : (d.2.2.2.1.2.1) (Str.ofString "entries") = some (.ref (d.2.2.2.2.2.1.2.1))) (mJ : (d.2.2.2.1.2.1) (Str.ofString "longer") = some (.ref (d.2.2.2.2.2.1.2.2.1))) (eT : T = ((d.2.2.2.2.2.1.1), listOf (List.toArray ((d.2.2.2.2.2.2.1).map Value.ref)) (d.2.2.2.2.2.1.2.2.2)) :: (d.2.2.2.2.2.2.2)) (hSL : @LT.lt Nat _ ((d.2.2.2.1.1) + 11) (d.2.2.2.2.2.1.1)) (oS : LCg.Off1 (d.2.2.2.2.2.1.1) (d.2.2.2.2.2.2.2)) (sS : (List.toArray ((d.2.2.2.2.2.2.1).map Value.ref)).size ≤ sizeLine) (ret : ∀ h' tk' m', Fr (d.2.2.1.2.2.2) (d.2.2.2.1.1) h' m' → News (d.2.2.1.2.2.2) (d.2.2.2.1.1) h' (cellLed (d.2.2.2.1.1) (d.2.2.2.1.2.2.1) ++ (((d.2.2.2.2.2.1.1), listOf (List.toArray (((d.2.2.2.2.2.2.1) ++ [(d.2.2.2.2.2.1.2.1)]).map Value.ref)) ((d.2.2.2.2.2.1.2.2.2) + 1)) :: (d.2.2.2.2.2.2.2))) → (∀ z, z ≠ Str.ofString "ways" → m' z = (d.2.2.2.1.2.1) z) → m' (Str.ofString "ways") = some (.ref (d.2.2.2.2.2.1.2.2.1)) → (d.2.2.2.2.1.2.2.1) .next { (d.2.2.2.1.2.2.2) with heap := h', toks := tk' }), wpAny (model PySem.Challenge.rw_zo0012_01.row.prog (d.1.1)) (lawA (d.1.1).params (d.2.1.2.1) (d.2.1.2.2.1) (d.2.1.2.2.2) (d.2.2.2.1.1) (d.2.2.1.1) (d.2.2.1.2.1)) (execs ((lawSt (d.1.1).params).drop 2) (lawEnv (d.1.1).params (d.2.2.2.1.1) (d.2.2.1.1) (d.2.2.1.2.1))) (d.2.2.2.2.1.2.2.1) (d.2.2.2.2.1.2.2.2) { (d.2.2.2.1.2.2.2) with heap := (d.2.2.2.2.1.1), toks := (d.2.2.2.2.1.2.1) }
set_option synthInstance.maxSize 100000 in
set_option synthInstance.maxHeartbeats 800000 in
@[irreducible] noncomputable def k_segF7b : (World × (ExcName → Option Value) × (Str → Option Value) × (Str → Option Value)) × (Around × Nat × Nat × (Option (List Code))) × (Addr × Value × Heap × Heap) × (Addr × (Str → Option Value) × LawCells × Shared) × (Heap × Nat × (Flow → Shared → Prop) × (Value → Shared → Prop)) × (Addr × Addr × Addr × Nat) × ((List Addr) × (List (Addr × Obj))) := pick (by haveI := ne_World; haveI := ne_Around; haveI := ne_Shared; haveI := ne_Cells; exact inferInstance) s_segF7b
theorem segF7b_c : s_segF7b k_segF7b := by
  delta s_segF7b
  intro T B X TT hd hu F N hy cS mE mJ eT hSL oS sS ret
  subst eT
  walk_at "m:fill"
  simp only [cellLed, List.cons_append, List.nil_append] at N
  have F0 := Mine.Fr.know2 F mE mJ
  have hyT : Young (k_segF7b.2.2.2.1.1) (k_segF7b.2.2.2.2.2.2.2) := fun p hp => hy p (.tail _ hp)
  clear F
  dsimp only [lawSt, fBs]
  (try dsimp only [lawS, lawEnv, lawA, lawParts] at B)
  walk_at "m:body"
  k_with "xG16:call builtin:list.append" => ((try dsimp only [List.cons_append, List.nil_append]); k_dflt (refine' append_K ?zzk1 ?zzk2 ?zzk3 ?_ ?zzz; (case zzk1 => k_asm); (case zzk2 => k_asm); (case zzk3 => k_upd); (case zzz => assumption)); intro h' F' N'; (try k_sweep))
  k_steps
  (walk_at "m:hide"; rename_i h8 F8 N8; walk_at "m:bare")
  simp only [List.push_toArray] at N8
  refine ret _ _ _ F8 ?_ (fun z z1 => ?_) rfl
  · rw [List.map_append]; exact N8
  · (try dsimp only)
    rw [if_neg z1]
    exact know_ite mE (know_ite mJ fun _ => rfl) z
theorem segF7b (w : World) {mean : ExcName → Option Value} {mg mb : Str → Option Value} {A₀ : Around} {dp un : Nat} {gd : Option (List Code)} {fa : Addr} {cd : Value} {base g : Heap} {L : Addr} {m : Str → Option Value} {T : List (Addr × Obj)} {c : LawCells} {s : Shared} {h : Heap} {tk : Nat} {Q : Flow → Shared → Prop} {E : Value → Shared → Prop}
    (B : Below A₀ base [] g) (X : (Mine.hd.heap_1 w.params).In g) (TT : Top Mine.hd.view_1 (looseW Mine.hd.view_1 []) mean mg mb g) (hd : dp + 40 < recursionLimit) (hu : un + 8 * 40 < cLine)
    (F : Fr g L h m) (N : News g L h (cellLed L c ++ T)) (hy : Young L T)
    {aS aE aJ : Addr} {nS : Nat} {ras : List Addr} {T0 : List (Addr × Obj)} (cS : c.oS.data = .cell (some (.ref aS))) (mE : m (Str.ofString "entries") = some (.ref aE)) (mJ : m (Str.ofString "longer") = some (.ref aJ))
    (eT : T = (aS, listOf (List.toArray (ras.map Value.ref)) nS) :: T0) (hSL : @LT.lt Nat _ (L + 11) aS) (oS : LCg.Off1 aS T0) (sS : (List.toArray (ras.map Value.ref)).size ≤ sizeLine)
    (ret : ∀ h' tk' m', Fr g L h' m' → News g L h' (cellLed L c ++ ((aS, listOf (List.toArray ((ras ++ [aE]).map Value.ref)) (nS + 1)) :: T0)) → (∀ z, z ≠ Str.ofString "ways" → m' z = m z) → m' (Str.ofString "ways") = some (.ref aJ) → Q .next { s with heap := h', toks := tk' }) : wpAny (model PySem.Challenge.rw_zo0012_01.row.prog w) (lawA w.params dp un gd L fa cd) (execs ((lawSt w.params).drop 2) (lawEnv w.params L fa cd)) Q E { s with heap := h, toks := tk } :=
  pick_all k_segF7b.eq_1 segF7b_c ((w, mean, mg, mb), (A₀, dp, un, gd), (fa, cd, base, g), (L, m, c, s), (h, tk, Q, E), (aS, aE, aJ, nS), (ras, T0)) T B X TT hd hu F N hy cS mE mJ eT hSL oS sS ret
end
-- G17
section
theorem stage_up {w : World} {T T' : List (Addr × Obj)} {a : Addr} {S : Nat → Stat} (h : StageAt w T a S) (hs : ∀ p ∈ T, p ∈ T') : StageAt w T' a S := stageAt_mono h hs
theorem segF7 (w : World) {mean : ExcName → Option Value} {mg mb : Str → Option Value} {A₀ : Around} {dp un : Nat} {gd : Option (List Code)} {fa : Addr} {cd : Value} {base g : Heap} {L : Addr} {m : Str → Option Value} {T : List (Addr × Obj)} {c : LawCells} {s : Shared} {h : Heap} {tk : Nat} {Q : Flow → Shared → Prop} {E : Value → Shared → Prop}
    (B : Below A₀ base [] g) (X : (Mine.hd.heap_1 w.params).In g) (TT : Top Mine.hd.view_1 (looseW Mine.hd.view_1 []) mean mg mb g) (hd : dp + 40 < recursionLimit) (hu : un + 8 * 40 < cLine)
    (F : Fr g L h m) (N : News g L h (cellLed L c ++ T)) (hy : Young L T)
    {aS aD aW x : Addr} {k nS : Nat} {tG : Tok} {y : Nat → Nat} {ws : Nat → Nat → List Nat} {ras : List Addr} {T0 : List (Addr × Obj)} {vR : Option Value}
    (hE : PassesOwn (model PySem.Challenge.rw_zo0012_01.row.prog w) (lawA w.params dp un gd L fa cd) (lawEnv w.params L fa cd) E)
    (hk : k < 3)
    (cS : c.oS.data = .cell (some (.ref aS))) (cG : c.oG.data = .cell (some (.int (k : Int) tG))) (cD : c.oD.data = .cell (some (.ref aD))) (cR : c.oR.data = .cell vR)
    (mO : m (Str.ofString "order") = some (.ref x)) (mW : m (Str.ofString "ways") = some (.ref aW))
    (eT : T = (aS, listOf (List.toArray (ras.map Value.ref)) nS) :: T0) (hSL : @LT.lt Nat _ (L + 11) aS) (oS : LCg.Off1 aS T0) (sS : (List.toArray (ras.map Value.ref)).size ≤ sizeLine)
    (hO : IsOrder T0 x) (hras : ras.length = k + 1) (hst : Stages w y T0 ras ws) (hw : Walks (ws k) k) (hD : Doors w T0 aD y) (hW : Ways T0 aW (ws k))
    (ret : ∀ h' tk' m' oR add aE aJ wsn, Fr g L h' m' → News g L h' (cellLed L { c with oR := oR } ++ ((aS, listOf (List.toArray ((ras ++ [aE]).map Value.ref)) (nS + 1)) :: (add ++ T0))) → Young L add → Apart add T → (∃ v, oR.data = .cell v) →
      (∀ z, z ≠ Str.ofString "tried" → z ≠ Str.ofString "kept" → z ≠ Str.ofString "u" → z ≠ Str.ofString "entries" → z ≠ Str.ofString "longer" → z ≠ Str.ofString "ways" → m' z = m z) → m' (Str.ofString "ways") = some (.ref aJ) →
      StageAt w add aE (fun q => wst y (wsn q)) → Ways add aJ wsn → Step y (ws k) wsn → Q .next { s with heap := h', toks := tk' }) :
    wpAny (model PySem.Challenge.rw_zo0012_01.row.prog w) (lawA w.params dp un gd L fa cd) (execs (lawSt w.params) (lawEnv w.params L fa cd)) Q E { s with heap := h, toks := tk } := by
  have s0 : ∀ p ∈ T0, p ∈ T := fun p hp => by rw [eT]; exact .tail _ hp
  have hSm : (aS, listOf (List.toArray (ras.map Value.ref)) nS) ∈ T := by rw [eT]; exact .head _
  refine execs_first 1 ?_
  refine segF7a w (Q := _) (E := E) (T := T) B X TT hd hu F N hy ?_
  intro h1 tk1 m1 aE aJ F1 N1 hEL hJL hEJ oE oJ hm1 mE mJ
  refine execs_from 1 1 2 rfl ?_
  refine segF6 w (Q := _) (E := E) (T := (aE, listOf (List.toArray (([] : List Addr).map Value.ref)) 0) :: (aJ, listOf (List.toArray []) 0) :: T) (T0 := T) (k := k) (y := y) (ws := ws) (ras := ras) (nS := nS) (tG := tG) (x := x) (aW := aW) B X TT hd hu F1 N1 (young_cons hEL (young_cons hJL hy)) hE hk cS cG cD cR
    ((hm1 _ (by decide +kernel) (by decide +kernel)).trans mO) mE mJ ((hm1 _ (by decide +kernel) (by decide +kernel)).trans mW) rfl hEL hJL hEJ oE oJ (order_mono hO s0) hSm hras (stages_mono hst s0) hw (doors_mono hD s0) (by obtain ⟨vs, n, e1, e2⟩ := hW; exact ⟨vs, n, s0 _ e1, e2⟩) ?_
  intro h2 tk2 m2 oR add res js wsn F2 N2 ya aa hcR hm2 hres hrst hjs hstep
  have hyT : Young L T0 := fun p hp => hy p (s0 p hp)
  have oS' : LCg.Off1 aS ((aE, listOf (List.toArray (res.map Value.ref)) 3) :: (aJ, listOf (List.toArray js) 3) :: (add ++ T0)) := off1_of fun p hp => by
    rcases List.mem_cons.mp hp with hp | hp
    · rw [hp]; exact fun e => off1_mem oE _ hSm e.symm
    · rcases List.mem_cons.mp hp with hp | hp
      · rw [hp]; exact fun e => off1_mem oJ _ hSm e.symm
      · rcases List.mem_append.mp hp with hp | hp
        · exact Ne.symm (aa p hp _ (.tail _ (.tail _ hSm)))
        · exact off1_mem oS p hp
  refine segF7b w (Q := Q) (E := E) (c := { c with oR := oR }) (T := (aS, listOf (List.toArray (ras.map Value.ref)) nS) :: ((aE, listOf (List.toArray (res.map Value.ref)) 3) :: (aJ, listOf (List.toArray js) 3) :: (add ++ T0))) (T0 := (aE, listOf (List.toArray (res.map Value.ref)) 3) :: (aJ, listOf (List.toArray js) 3) :: (add ++ T0)) (aE := aE) (aJ := aJ) B X TT hd hu F2 (news_sub N2 ?_)
    (young_cons hSL (young_cons hEL (young_cons hJL fun p hp => (List.mem_append.mp hp).elim (ya p) (hyT p)))) cS ((hm2 _ (by decide +kernel) (by decide +kernel) (by decide +kernel)).trans mE) ((hm2 _ (by decide +kernel) (by decide +kernel) (by decide +kernel)).trans mJ) rfl hSL oS' sS ?_
  · intro p hp
    rw [eT]
    revert hp
    simp only [List.mem_append, List.mem_cons]
    rintro (h | h | h | h | h | h) <;> simp [h]
  intro h3 tk3 m3 F3 N3 hm3 mW3
  refine ret h3 tk3 m3 oR ((aE, listOf (List.toArray (res.map Value.ref)) 3) :: (aJ, listOf (List.toArray js) 3) :: add) aE aJ wsn F3 N3 (young_cons hEL (young_cons hJL ya)) (apart_cons (off1_mem oE) (apart_cons (off1_mem oJ) fun p hp q hq => aa p hp q (.tail _ (.tail _ hq)))) hcR ?_ mW3 ⟨res, 3, .head _, hres, fun q a' e => isStat_mono (hrst q a' e) fun p hp => .tail _ (.tail _ hp)⟩ ⟨js, 3, .tail _ (.head _), hjs⟩ hstep
  intro z z1 z2 z3 z4 z5 z6
  exact (hm3 z z6).trans ((hm2 z z1 z2 z3).trans (hm1 z z4 z5))
end
-- G18
section
local macro_rules | `(tactic| walk_at $s:str) => `(tactic| k_extra $(Lean.Syntax.mkStrLit ("xG18:" ++ s.getString)))
local macro_rules | `(tactic| walk_at $s:str) => `(tactic| k_extra $(Lean.Syntax.mkStrLit ("xG18:" ++ s.getString)))
theorem setup_G18 : True := by
  k_with "xG18:execs cons" => (refine Mine.stop ?_)
  k_with "xG18:m:hide" => (have qB' := True.intro; have qD' := True.intro; have qF' := True.intro; have qFG' := True.intro; have qL' := True.intro; have qN' := True.intro; have qT' := True.intro; have qX' := True.intro; have qY' := True.intro; have qcells' := True.intro; have qd' := True.intro; have qfF := True.intro; have qg' := True.intro; have qh' := True.intro; have qh0' := True.intro; have qh1' := True.intro; have qhc' := True.intro; have qhd' := True.intro; have qhp := True.intro; have qhv' := True.intro; have qhz := True.intro; have qhz' := True.intro; have qjk' := True.intro; have qkj' := True.intro; have ql1 := True.intro; have ql2 := True.intro; have qlo' := True.intro; have qnE' := True.intro; have qo' := True.intro; have qo1' := True.intro; have qp := True.intro; have qtj' := True.intro; have qtk' := True.intro; have qtv' := True.intro; have qtx' := True.intro; have qvv' := True.intro; have qx' := True.intro; have qzz' := True.intro)
  k_with "xG18:m:bare" => (clear qB' qD' qF' qFG' qL' qN' qT' qX' qY' qcells' qd' qfF qg' qh' qh0' qh1' qhc' qhd' qhp qhv' qhz qhz' qjk' qkj' ql1 ql2 qlo' qnE' qo' qo1' qp qtj' qtk' qtv' qtx' qvv' qx' qzz')
  trivial
theorem walks_on {y : Nat → Nat} {v v' : Nat → List Nat} {k : Nat} (h : Walks v k) (hs : Step y v v') : Walks v' (k + 1) := fun q hq => by
  refine Mine.by_op fun P9 bk9 => ?_
  obtain ⟨u, hu, e, _⟩ := hs q hq
  refine bk9 ?_; clear bk9 P9
  refine Mine.by_op fun P9 bk9 => ?_
  obtain ⟨l, el, hl⟩ := h u hu
  refine bk9 ?_; clear bk9 P9
  exact ⟨v u, e, by rw [el, List.length_cons, hl]⟩
/-- the kept walks of all stages up to k -/
noncomputable def Kept (y : Nat → Nat) (ws : Nat → Nat → List Nat) (k : Nat) : Prop := (∀ q, ws 0 q = [q]) ∧ ∀ i, i < k → Step y (ws i) (ws (i + 1))
theorem kept_walks {y : Nat → Nat} {ws : Nat → Nat → List Nat} {k : Nat} (h : Kept y ws k) : ∀ i, i ≤ k → Walks (ws i) i
  | 0, _ => fun q _ => ⟨[], h.1 q, rfl⟩
  | i + 1, hi => walks_on (kept_walks h i (by omega)) (h.2 i (by omega))
set_option synthInstance.maxSize 100000 in
set_option synthInstance.maxHeartbeats 800000 in
noncomputable def s_segF8 (d : (World × (ExcName → Option Value) × (Str → Option Value) × (Str → Option Value)) × (Around × Nat × Nat × (Option (List Code))) × (Addr × Value × Heap × Heap) × (Addr × (Str → Option Value) × LawCells × Shared) × (Nat × (Flow → Shared → Prop) × (Value → Shared → Prop) × Addr) × (Addr × Addr × Addr × Addr) × ((Nat → Nat) × (List (Addr × Obj)) × (Option Value) × (Option Value))) : Prop := ∀ (T : List (Addr × Obj)) (h : Heap) (B : Below (d.2.1.1) (d.2.2.1.2.2.1) [] (d.2.2.1.2.2.2)) (X : (Mine.hd.heap_1 (d.1.1).params).In (d.2.2.1.2.2.2)) (TT : Top Mine.hd.view_1 (looseW Mine.hd.view_1 []) (d.1.2.1) (d.1.2.2.1) (d.1.2.2.2) (d.2.2.1.2.2.2)) (hd : (d.2.1.2.1) + 40 < recursionLimit) (hu : (d.2.1.2.2.1) + 8 * 40 < cLine) (F : Fr (d.2.2.1.2.2.2) (d.2.2.2.1.1) h (d.2.2.2.1.2.1)) (N : News (d.2.2.1.2.2.2) (d.2.2.2.1.1) h (cellLed (d.2.2.2.1.1) (d.2.2.2.1.2.2.1) ++ T)) (hy : Young (d.2.2.2.1.1) T) (hE : PassesOwn (model PySem.Challenge.rw_zo0012_01.row.prog (d.1.1)) (lawA (d.1.1).params (d.2.1.2.1) (d.2.1.2.2.1) (d.2.1.2.2.2) (d.2.2.2.1.1) (d.2.2.1.1) (d.2.2.1.2.1)) (lawEnv (d.1.1).params (d.2.2.2.1.1) (d.2.2.1.1) (d.2.2.1.2.1)) (d.2.2.2.2.1.2.2.1)) (cS : (d.2.2.2.1.2.2.1).oS.data = .cell (some (.ref (d.2.2.2.2.1.2.2.2)))) (cG : (d.2.2.2.1.2.2.1).oG.data = .cell (d.2.2.2.2.2.2.2.2.2)) (cD : (d.2.2.2.1.2.2.1).oD.data = .cell (some (.ref (d.2.2.2.2.2.1.1)))) (cR : (d.2.2.2.1.2.2.1).oR.data = .cell (d.2.2.2.2.2.2.2.2.1)) (mO : (d.2.2.2.1.2.1) (Str.ofString "order") = some (.ref (d.2.2.2.2.2.1.2.2.1))) (mW : (d.2.2.2.1.2.1) (Str.ofString "ways") = some (.ref (d.2.2.2.2.2.1.2.1))) (eT : T = ((d.2.2.2.2.1.2.2.2), listOf (List.toArray [.ref (d.2.2.2.2.2.1.2.2.2)]) 0) :: (d.2.2.2.2.2.2.2.1)) (hSL : @LT.lt Nat _ ((d.2.2.2.1.1) + 11) (d.2.2.2.2.1.2.2.2)) (oS : LCg.Off1 (d.2.2.2.2.1.2.2.2) (d.2.2.2.2.2.2.2.1)) (hO : IsOrder (d.2.2.2.2.2.2.2.1) (d.2.2.2.2.2.1.2.2.1)) (hst : StageAt (d.1.1) (d.2.2.2.2.2.2.2.1) (d.2.2.2.2.2.1.2.2.2) (fun _ => zeroS)) (hD : Doors (d.1.1) (d.2.2.2.2.2.2.2.1) (d.2.2.2.2.2.1.1) (d.2.2.2.2.2.2.1)) (hW : Ways (d.2.2.2.2.2.2.2.1) (d.2.2.2.2.2.1.2.1) (fun r => [r])) (ret : ∀ h' tk' m' oR oG T' aW' ws, ∀ ras : List Addr, Fr (d.2.2.1.2.2.2) (d.2.2.2.1.1) h' m' → News (d.2.2.1.2.2.2) (d.2.2.2.1.1) h' (cellLed (d.2.2.2.1.1) { (d.2.2.2.1.2.2.1) with oR := oR, oG := oG } ++ T') → Young (d.2.2.2.1.1) T' → (∀ p ∈ (d.2.2.2.2.2.2.2.1), p ∈ T') → (∃ v, oR.data = .cell v) → (∃ v, oG.data = .cell v) →
      m' (Str.ofString "ways") = some (.ref aW') → ((d.2.2.2.2.1.2.2.2), listOf (List.toArray (ras.map Value.ref)) 3) ∈ T' → ras.length = 4 → Stages (d.1.1) (d.2.2.2.2.2.2.1) T' ras ws → Ways T' aW' (ws 3) → Kept (d.2.2.2.2.2.2.1) ws 3 → (d.2.2.2.2.1.2.1) .next { (d.2.2.2.1.2.2.2) with heap := h', toks := tk' }), wpAny (model PySem.Challenge.rw_zo0012_01.row.prog (d.1.1)) (lawA (d.1.1).params (d.2.1.2.1) (d.2.1.2.2.1) (d.2.1.2.2.2) (d.2.2.2.1.1) (d.2.2.1.1) (d.2.2.1.2.1)) (execs (((lawB (d.1.1).params).drop 11).take 1) (lawEnv (d.1.1).params (d.2.2.2.1.1) (d.2.2.1.1) (d.2.2.1.2.1))) (d.2.2.2.2.1.2.1) (d.2.2.2.2.1.2.2.1) { (d.2.2.2.1.2.2.2) with heap := h, toks := (d.2.2.2.2.1.1) }
set_option synthInstance.maxSize 100000 in
set_option synthInstance.maxHeartbeats 800000 in
@[irreducible] noncomputable def k_segF8 : (World × (ExcName → Option Value) × (Str → Option Value) × (Str → Option Value)) × (Around × Nat × Nat × (Option (List Code))) × (Addr × Value × Heap × Heap) × (Addr × (Str → Option Value) × LawCells × Shared) × (Nat × (Flow → Shared → Prop) × (Value → Shared → Prop) × Addr) × (Addr × Addr × Addr × Addr) × ((Nat → Nat) × (List (Addr × Obj)) × (Option Value) × (Option Value)) := pick (by haveI := ne_World; haveI := ne_Around; haveI := ne_Shared; haveI := ne_Cells; exact inferInstance) s_segF8
theorem segF8_c : s_segF8 k_segF8 := by
  delta s_segF8
  intro T h B X TT hd hu F N hy hE cS cG cD cR mO mW eT hSL oS hO hst hD hW ret
  have hE0 := hE
  have B0 := B
  walk_at "m:fill"
  subst eT
  simp only [cellLed, List.cons_append, List.nil_append] at N
  dsimp only [lawS, lawEnv, lawA, lawParts] at hE B
  walk_at "m:body"
  refine wpAny_execs_cons ?_
  k_steps
  (walk_at "m:hide"; rename_i h1 tk1 u1 u2 u3 hr F1 N1 kp htk1; walk_at "m:bare")
  refine iter_rangeT (n := 3) (fun k m' led' => ∃ oR oG Tk aW', ∃ ras : List Addr, ∃ ws : Nat → Nat → List Nat, led' = cellLed (k_segF8.2.2.2.1.1) { (k_segF8.2.2.2.1.2.2.1) with oR := oR, oG := oG } ++ (((k_segF8.2.2.2.2.1.2.2.2), listOf (List.toArray (ras.map Value.ref)) k) :: (Tk ++ (k_segF8.2.2.2.2.2.2.2.1))) ∧ (∃ v, oR.data = .cell v) ∧ (∃ v, oG.data = .cell v) ∧
      Apart Tk (((k_segF8.2.2.2.2.1.2.2.2), listOf (List.toArray [.ref (k_segF8.2.2.2.2.2.1.2.2.2)]) 0) :: (k_segF8.2.2.2.2.2.2.2.1)) ∧ Young (k_segF8.2.2.2.1.1) Tk ∧ m' (Str.ofString "order") = some (.ref (k_segF8.2.2.2.2.2.1.2.2.1)) ∧ m' (Str.ofString "ways") = some (.ref aW') ∧ ras.length = k + 1 ∧ Stages (k_segF8.1.1) (k_segF8.2.2.2.2.2.2.1) (Tk ++ (k_segF8.2.2.2.2.2.2.2.1)) ras ws ∧ Ways (Tk ++ (k_segF8.2.2.2.2.2.2.2.1)) aW' (ws k) ∧ Kept (k_segF8.2.2.2.2.2.2.1) ws k) (by rfl) hr (by decide) (by decide) F1 N1
    ⟨(k_segF8.2.2.2.1.2.2.1).oR, (k_segF8.2.2.2.1.2.2.1).oG, [], (k_segF8.2.2.2.2.2.1.2.1), [(k_segF8.2.2.2.2.2.1.2.2.2)], fun _ q => [q], rfl, ⟨_, cR⟩, ⟨_, cG⟩, apart_nil, young_nil, mO, mW, rfl, ?_, hW, fun _ => rfl, fun i hi => absurd hi (Nat.not_lt_zero _)⟩ (by intros; exact Expr.noConfusion) (by intros; exact Expr.noConfusion) ?_ ?_
  · intro i a e
    match i, e with
    | 0, e => cases e; exact hst
    | i + 1, e => rw [List.getElem?_cons_succ, List.getElem?_nil] at e; cases e
  · intro k ti m₁ led₁ h4 tk4 I oI htk4 hk qz109 F4 N4 off
    refine Mine.by_op fun P9 bk9 => ?_
    obtain ⟨oR, oG, Tk, aW', ras, ws, rfl, ⟨vR', cR'⟩, ⟨vG', cG'⟩, hap, hyk, mO1, mW1, hras, hst', hW', hkept⟩ := qz109
    refine bk9 ?_; clear bk9 P9
    rw [Int.zero_add]
    replace N4 : News (k_segF8.2.2.1.2.2.2) (k_segF8.2.2.2.1.1) h4 _ := N4
    replace F4 : Fr (k_segF8.2.2.1.2.2.2) (k_segF8.2.2.2.1.1) h4 _ := F4
    clear F1 N1 kp hr
    have off0 := off1_of off
    simp only [cellLed, List.cons_append, List.nil_append] at N4 off0
    refine Mine.by_op fun P9 bk9 => ?_
    obtain ⟨f11, f10, f9, f8, f7, f6, f5, f4, f3, f2, f1, fS, fT⟩ := off0
    refine bk9 ?_; clear bk9 P9
    dsimp only at f11 f10 f9 f8 f7 f6 f5 f4 f3 f2 f1 fS
    have hyT' : Young (k_segF8.2.2.2.1.1) (Tk ++ (k_segF8.2.2.2.2.2.2.2.1)) := fun p hp => (List.mem_append.mp hp).elim (hyk p) fun hp => hy p (.tail _ hp)
    k_steps
    (walk_at "m:hide"; rename_i h5 oG' F5 N5 dG; walk_at "m:bare")
    have hmem : ∀ p ∈ Tk ++ (k_segF8.2.2.2.2.2.2.2.1), p ∈ (I, oI) :: (Tk ++ (k_segF8.2.2.2.2.2.2.2.1)) := fun p hp => .tail _ hp
    have hmem0 : ∀ p ∈ (k_segF8.2.2.2.2.2.2.2.1), p ∈ (I, oI) :: (Tk ++ (k_segF8.2.2.2.2.2.2.2.1)) := fun p hp => .tail _ (List.mem_append_right _ hp)
    have hSm : ((k_segF8.2.2.2.2.1.2.2.2), listOf (List.toArray [.ref (k_segF8.2.2.2.2.2.1.2.2.2)]) 0) ∈ (((k_segF8.2.2.2.2.1.2.2.2), listOf (List.toArray [.ref (k_segF8.2.2.2.2.2.1.2.2.2)]) 0) :: (k_segF8.2.2.2.2.2.2.2.1)) := .head _
    have N6 : News (k_segF8.2.2.1.2.2.2) (k_segF8.2.2.2.1.1) h5 (cellLed (k_segF8.2.2.2.1.1) { (k_segF8.2.2.2.1.2.2.1) with oR := oR, oG := oG' } ++ (((k_segF8.2.2.2.2.1.2.2.2), listOf (List.toArray (ras.map Value.ref)) k) :: ((I, oI) :: (Tk ++ (k_segF8.2.2.2.2.2.2.2.1))))) := news_sub N5 fun p hp => by
      rcases List.mem_append.mp hp with hp | hp
      · exact .tail _ (List.mem_append_left _ hp)
      · rcases List.mem_cons.mp hp with hp | hp
        · exact .tail _ (List.mem_append_right (cellLed (k_segF8.2.2.2.1.1) { (k_segF8.2.2.2.1.2.2.1) with oR := oR, oG := oG' }) (hp ▸ .head _))
        · rcases List.mem_cons.mp hp with hp | hp
          · exact hp ▸ .head _
          · exact .tail _ (List.mem_append_right (cellLed (k_segF8.2.2.2.1.1) { (k_segF8.2.2.2.1.2.2.1) with oR := oR, oG := oG' }) (.tail _ hp))
    have hyI : Young (k_segF8.2.2.2.1.1) ((I, oI) :: (Tk ++ (k_segF8.2.2.2.2.2.2.2.1))) := young_off (c := (k_segF8.2.2.2.1.2.2.1)) (R := []) ⟨f11, f10, f9, f8, f7, f6, f5, f4, f3, f2, f1, trivial⟩ hyT'
    have hIT : (I, oI) ∈ ((k_segF8.2.2.2.2.1.2.2.2), listOf (List.toArray (ras.map Value.ref)) k) :: ((I, oI) :: (Tk ++ (k_segF8.2.2.2.2.2.2.2.1))) := .tail _ (.head _)
    refine segF7 (k_segF8.1.1) (c := { (k_segF8.2.2.2.1.2.2.1) with oR := oR, oG := oG' }) (T := ((k_segF8.2.2.2.2.1.2.2.2), listOf (List.toArray (ras.map Value.ref)) k) :: ((I, oI) :: (Tk ++ (k_segF8.2.2.2.2.2.2.2.1)))) (T0 := (I, oI) :: (Tk ++ (k_segF8.2.2.2.2.2.2.2.1))) (k := k) (tG := ti) (ws := ws) (y := (k_segF8.2.2.2.2.2.2.1)) (ras := ras) (nS := k) (x := (k_segF8.2.2.2.2.2.1.2.2.1)) (aW := aW') B0 X TT hd hu F5 N6 (young_cons hSL hyI) hE0 hk cS dG cD cR' mO1 mW1 rfl hSL ?zzoS ?zzsS
      (order_mono hO hmem0) hras (stages_mono hst' hmem) (kept_walks hkept k (Nat.le_refl _)) (doors_mono hD hmem0) (by obtain ⟨vs, n, e1, e2⟩ := hW'; exact ⟨vs, n, hmem _ e1, e2⟩) ?_
    case zzoS =>
      refine off1_of fun p hp => ?_
      rcases List.mem_cons.mp hp with hp | hp
      · rw [hp]; exact Ne.symm fS
      · rcases List.mem_append.mp hp with hp | hp
        · exact Ne.symm (hap p hp _ hSm)
        · exact off1_mem oS p hp
    case zzsS => rw [List.size_toArray, List.length_map, hras, sizeLine_eq]; omega
    intro h7 tk7 m7 oR7 add aE aJ wsn F7 N7 ya aa hcR7 hm7 mW7 hStE hWy hstep
    refine Mine.TurnEnd.intro (cellLed (k_segF8.2.2.2.1.1) { (k_segF8.2.2.2.1.2.2.1) with oR := oR7, oG := oG' } ++ (((k_segF8.2.2.2.2.1.2.2.2), listOf (List.toArray ((ras ++ [aE]).map Value.ref)) (k + 1)) :: ((add ++ Tk) ++ (k_segF8.2.2.2.2.2.2.2.1)))) F7 N7 ?_ ?_
      ⟨oR7, oG', add ++ Tk, aJ, ras ++ [aE], fun i => if i = k + 1 then wsn else ws i, rfl, hcR7, ⟨_, dG⟩, ?_, fun p hp => (List.mem_append.mp hp).elim (ya p) (hyk p), (hm7 _ (by decide +kernel) (by decide +kernel) (by decide +kernel) (by decide +kernel) (by decide +kernel) (by decide +kernel)).trans mO1, mW7, by rw [List.length_append, hras]; rfl, ?_, ?_, ?_, ?_⟩
    · intro p hp
      revert hp
      simp only [List.mem_append, List.mem_cons]
      rintro (h | h | h | (h | h) | h) <;> simp [h]
    · have hcell : ∀ p ∈ cellLed (k_segF8.2.2.2.1.1) { (k_segF8.2.2.2.1.2.2.1) with oR := oR7, oG := oG' }, p.1 ≠ I := off1_mem (l := cellLed (k_segF8.2.2.2.1.1) { (k_segF8.2.2.2.1.2.2.1) with oR := oR7, oG := oG' }) ⟨f11, f10, f9, f8, f7, f6, f5, f4, f3, f2, f1, trivial⟩
      intro p hp
      rcases List.mem_append.mp hp with hp | hp
      · exact hcell p hp
      · rcases List.mem_cons.mp hp with hp | hp
        · rw [hp]; exact fS
        · rcases List.mem_append.mp hp with hp | hp
          · rcases List.mem_append.mp hp with hp | hp
            · exact Ne.symm (aa p hp _ hIT)
            · exact off1_mem fT p (List.mem_append_left _ hp)
          · exact off1_mem fT p (List.mem_append_right _ hp)
    · intro p hp q hq
      rcases List.mem_append.mp hp with hp | hp
      · rcases List.mem_cons.mp hq with hq | hq
        · rw [hq]; exact aa p hp ((k_segF8.2.2.2.2.1.2.2.2), listOf (List.toArray (ras.map Value.ref)) k) (.head _)
        · exact aa p hp q (.tail _ (.tail _ (List.mem_append_right _ hq)))
      · exact hap p hp q hq
    · intro i a e
      dsimp only
      by_cases hik : i < k + 1
      · rw [List.getElem?_append_left (by omega)] at e
        rw [if_neg (by omega)]
        exact stageAt_mono (hst' i a e) fun p hp => (List.mem_append.mp hp).elim (fun hp => List.mem_append_left _ (List.mem_append_right _ hp)) fun hp => List.mem_append_right _ hp
      · have hl : i < (ras ++ [aE]).length := (List.getElem?_eq_some_iff.mp e).1
        rw [List.length_append, hras] at hl
        have e1 : [aE].length = 1 := rfl
        refine Mine.by_op fun P9 bk9 => ?_
        obtain rfl : i = k + 1 := by omega
        refine bk9 ?_; clear bk9 P9
        rw [List.getElem?_append_right (by omega), hras, Nat.sub_self] at e
        cases e
        rw [if_pos rfl]
        exact stageAt_mono hStE fun p hp => List.mem_append_left _ (List.mem_append_left _ hp)
    · dsimp only
      rw [if_pos rfl]
      refine Mine.by_op fun P9 bk9 => ?_
      obtain ⟨vs, n, e1, e2⟩ := hWy
      refine bk9 ?_; clear bk9 P9
      exact ⟨vs, n, List.mem_append_left _ (List.mem_append_left _ e1), e2⟩
    · intro q
      dsimp only
      rw [if_neg (by omega)]; exact hkept.1 q
    · intro i hi
      dsimp only
      by_cases hik : i < k
      · rw [if_neg (by omega), if_neg (by omega)]; exact hkept.2 i hik
      · refine Mine.by_op fun P9 bk9 => ?_
        obtain rfl : i = k := by omega
        refine bk9 ?_; clear bk9 P9
        rw [if_neg (by omega), if_pos rfl]; exact hstep
  · intro h5 tk5 m5 led5 F5 N5 qz69
    refine Mine.by_op fun P9 bk9 => ?_
    obtain ⟨oR, oG, Tk, aW', ras, ws, rfl, hcR', hcG', hap, hyk, mO1, mW1, hras, hst', hW', hkept⟩ := qz69
    refine bk9 ?_; clear bk9 P9
    refine wpAny_execs_nil ?_
    have hmem : ∀ p ∈ Tk ++ (k_segF8.2.2.2.2.2.2.2.1), p ∈ ((k_segF8.2.2.2.2.1.2.2.2), listOf (List.toArray (ras.map Value.ref)) 3) :: (Tk ++ (k_segF8.2.2.2.2.2.2.2.1)) := fun p hp => .tail _ hp
    exact ret _ _ m5 oR oG (((k_segF8.2.2.2.2.1.2.2.2), listOf (List.toArray (ras.map Value.ref)) 3) :: (Tk ++ (k_segF8.2.2.2.2.2.2.2.1))) aW' ws ras F5 N5 (young_cons hSL fun p hp => (List.mem_append.mp hp).elim (hyk p) fun hp => hy p (.tail _ hp)) (fun p hp => hmem p (List.mem_append_right _ hp)) hcR' hcG' mW1 (.head _) hras (stages_mono hst' hmem) (by obtain ⟨vs, n, e1, e2⟩ := hW'; exact ⟨vs, n, hmem _ e1, e2⟩) hkept
theorem segF8 (w : World) {mean : ExcName → Option Value} {mg mb : Str → Option Value} {A₀ : Around} {dp un : Nat} {gd : Option (List Code)} {fa : Addr} {cd : Value} {base g : Heap} {L : Addr} {m : Str → Option Value} {T : List (Addr × Obj)} {c : LawCells} {s : Shared} {h : Heap} {tk : Nat} {Q : Flow → Shared → Prop} {E : Value → Shared → Prop}
    (B : Below A₀ base [] g) (X : (Mine.hd.heap_1 w.params).In g) (TT : Top Mine.hd.view_1 (looseW Mine.hd.view_1 []) mean mg mb g) (hd : dp + 40 < recursionLimit) (hu : un + 8 * 40 < cLine)
    (F : Fr g L h m) (N : News g L h (cellLed L c ++ T)) (hy : Young L T)
    {aS aD aW x a0 : Addr} {y : Nat → Nat} {T0 : List (Addr × Obj)} {vR vG : Option Value}
    (hE : PassesOwn (model PySem.Challenge.rw_zo0012_01.row.prog w) (lawA w.params dp un gd L fa cd) (lawEnv w.params L fa cd) E)
    (cS : c.oS.data = .cell (some (.ref aS))) (cG : c.oG.data = .cell vG) (cD : c.oD.data = .cell (some (.ref aD))) (cR : c.oR.data = .cell vR)
    (mO : m (Str.ofString "order") = some (.ref x)) (mW : m (Str.ofString "ways") = some (.ref aW))
    (eT : T = (aS, listOf (List.toArray [.ref a0]) 0) :: T0) (hSL : @LT.lt Nat _ (L + 11) aS) (oS : LCg.Off1 aS T0)
    (hO : IsOrder T0 x) (hst : StageAt w T0 a0 (fun _ => zeroS)) (hD : Doors w T0 aD y) (hW : Ways T0 aW (fun r => [r]))
    (ret : ∀ h' tk' m' oR oG T' aW' ws, ∀ ras : List Addr, Fr g L h' m' → News g L h' (cellLed L { c with oR := oR, oG := oG } ++ T') → Young L T' → (∀ p ∈ T0, p ∈ T') → (∃ v, oR.data = .cell v) → (∃ v, oG.data = .cell v) →
      m' (Str.ofString "ways") = some (.ref aW') → (aS, listOf (List.toArray (ras.map Value.ref)) 3) ∈ T' → ras.length = 4 → Stages w y T' ras ws → Ways T' aW' (ws 3) → Kept y ws 3 → Q .next { s with heap := h', toks := tk' }) : wpAny (model PySem.Challenge.rw_zo0012_01.row.prog w) (lawA w.params dp un gd L fa cd) (execs (((lawB w.params).drop 11).take 1) (lawEnv w.params L fa cd)) Q E { s with heap := h, toks := tk } :=
  pick_all k_segF8.eq_1 segF8_c ((w, mean, mg, mb), (A₀, dp, un, gd), (fa, cd, base, g), (L, m, c, s), (tk, Q, E, aS), (aD, aW, x, a0), (y, T0, vR, vG)) T h B X TT hd hu F N hy hE cS cG cD cR mO mW eT hSL oS hO hst hD hW ret
end
-- P1
section
/-- the marks kept at a room after k doors -/
noncomputable def DD (y : Nat → Nat) (ws : Nat → Nat → List Nat) (k r : Nat) : Nat := wmk y (ws k r)
noncomputable def mu (y : Nat → Nat) (i : Nat) : Nat := mk (y i)
theorem mu_le {y : Nat → Nat} {i : Nat} : mu y i ≤ 18 := mk_le
theorem wmk_cons {y : Nat → Nat} {ws : Nat → List Nat} {k : Nat} (h : Walks ws k) {r v : Nat} (hv : v < 3) : wmk y (r :: ws v) = mu y (3 * v + r) + wmk y (ws v) := by
  obtain ⟨l, e, _⟩ := h v hv
  rw [e]; rfl
theorem young_cons_of {L I D : Addr} {oI o : Obj} {c : LawCells} {R X : List (Addr × Obj)} (h : LCg.Off1 D ((I, oI) :: (cellLed L c ++ R))) (hX : Young L X) : Young L ((D, o) :: X) := young_off (c := c) h.2 hX
theorem know_under {m m' : Str → Option Value} {x : Str} {v : Value} (h : ∀ y, m' y = m y) : ∀ y, (if y = x then some v else m' y) = (if y = x then some v else m y) := fun y => by rw [h]
theorem DD_zero {y : Nat → Nat} {ws : Nat → Nat → List Nat} {k : Nat} (h : Kept y ws k) (r : Nat) : DD y ws 0 r = 0 := by
  unfold DD; rw [h.1 r]; rfl
theorem DD_step {y : Nat → Nat} {ws : Nat → Nat → List Nat} {n k r : Nat} (h : Kept y ws n) (hk : k < n) (hr : r < 3) :
    DD y ws (k + 1) r = max (max (mu y r + DD y ws k 0) (mu y (3 + r) + DD y ws k 1)) (mu y (6 + r) + DD y ws k 2) := by
  have hw := kept_walks h k (by lia)
  obtain ⟨u, hu, e, hbest⟩ := h.2 k hk r hr
  have b0 := hbest 0 (by decide)
  have b1 := hbest 1 (by decide)
  have b2 := hbest 2 (by decide)
  rw [wmk_cons hw hu] at b0 b1 b2
  rw [wmk_cons hw (by decide)] at b0 b1 b2
  have e' : DD y ws (k + 1) r = mu y (3 * u + r) + wmk y (ws k u) := by unfold DD; rw [e, wmk_cons hw hu]
  simp only [Nat.mul_zero, Nat.zero_add, Nat.mul_one] at b0 b1 b2
  rw [show 3 * 2 + r = 6 + r by lia] at b2
  refine max3_of (e' ▸ b0) (e' ▸ b1) (e' ▸ b2) ?_
  rw [e']
  unfold DD
  match u, hu with
  | 0, _ => exact .inl (by rw [Nat.mul_zero, Nat.zero_add])
  | 1, _ => exact .inr (.inl (by rw [Nat.mul_one]))
  | 2, _ => exact .inr (.inr (by rw [show 3 * 2 + r = 6 + r by lia]))
theorem step18 {m a b : Nat} (h : b ≤ a + 18) : m + b ≤ m + a + 18 := by lia
theorem max3_add (a b c n : Nat) : max (max (a + n) (b + n)) (c + n) ≤ max (max a b) c + n :=
  max3_le (Nat.add_le_add_right (max3_ge1 _ _ _) n) (Nat.add_le_add_right (max3_ge2 _ _ _) n) (Nat.add_le_add_right (max3_ge3 _ _ _) n)
theorem DD_mono {y : Nat → Nat} {ws : Nat → Nat → List Nat} {n : Nat} (h : Kept y ws n) : ∀ k, k < n → ∀ r, r < 3 → DD y ws k r ≤ DD y ws (k + 1) r ∧ DD y ws (k + 1) r ≤ DD y ws k r + 18
  | 0, hk, r, hr => by
    have e := DD_step h hk hr
    have z := DD_zero h
    rw [z 0, z 1, z 2] at e
    have m0 := mu_le (y := y) (i := r)
    have m1 := mu_le (y := y) (i := 3 + r)
    have m2 := mu_le (y := y) (i := 6 + r)
    rw [z r, e]
    exact ⟨Nat.zero_le _, max3_le m0 m1 m2⟩
  | k + 1, hk, r, hr => by
    have e := DD_step h hk hr
    have e' := DD_step h (show k < n by lia) hr
    have i0 := DD_mono h k (by lia) 0 (by decide)
    have i1 := DD_mono h k (by lia) 1 (by decide)
    have i2 := DD_mono h k (by lia) 2 (by decide)
    rw [e, e']
    exact ⟨max3_mono (Nat.add_le_add_left i0.1 _) (Nat.add_le_add_left i1.1 _) (Nat.add_le_add_left i2.1 _), Nat.le_trans (max3_mono (step18 i0.2) (step18 i1.2) (step18 i2.2)) (max3_add _ _ _ 18)⟩
/-- a room's least, six times over -/
noncomputable def lsv (y : Nat → Nat) (ws : Nat → Nat → List Nat) (r : Nat) : Int := min (min (2 * ((DD y ws 3 r : Int) - DD y ws 0 r)) (3 * ((DD y ws 3 r : Int) - DD y ws 1 r))) (6 * ((DD y ws 3 r : Int) - DD y ws 2 r))
noncomputable def gvv (y : Nat → Nat) (ws : Nat → Nat → List Nat) (r q : Nat) : Int := if q = 0 then 2 * ((DD y ws 3 r : Int) - DD y ws 0 r) else if q = 1 then 3 * ((DD y ws 3 r : Int) - DD y ws 1 r) else 6 * ((DD y ws 3 r : Int) - DD y ws 2 r)
theorem bd3 {a b c d : Nat} (h0 : a ≤ b) (h1 : b ≤ a + 18) (h2 : b ≤ c) (h3 : c ≤ b + 18) (h4 : c ≤ d) (h5 : d ≤ c + 18) :
    (0 ≤ 2 * ((d : Int) - a) ∧ 2 * ((d : Int) - a) < 128) ∧ (0 ≤ 3 * ((d : Int) - b) ∧ 3 * ((d : Int) - b) < 128) ∧ (0 ≤ 6 * ((d : Int) - c) ∧ 6 * ((d : Int) - c) < 128) := by
  refine ⟨⟨?_, ?_⟩, ⟨?_, ?_⟩, ?_, ?_⟩ <;> lia
theorem three_bd {y : Nat → Nat} {ws : Nat → Nat → List Nat} (h : Kept y ws 3) {r : Nat} (hr : r < 3) :
    (0 ≤ 2 * ((DD y ws 3 r : Int) - DD y ws 0 r) ∧ 2 * ((DD y ws 3 r : Int) - DD y ws 0 r) < 128) ∧ (0 ≤ 3 * ((DD y ws 3 r : Int) - DD y ws 1 r) ∧ 3 * ((DD y ws 3 r : Int) - DD y ws 1 r) < 128) ∧ (0 ≤ 6 * ((DD y ws 3 r : Int) - DD y ws 2 r) ∧ 6 * ((DD y ws 3 r : Int) - DD y ws 2 r) < 128) := by
  have h0 := DD_mono h 0 (by decide) r hr
  have h1 := DD_mono h 1 (by decide) r hr
  have h2 := DD_mono h 2 (by decide) r hr
  exact bd3 (show _ ≤ DD y ws 1 r from h0.1) (show DD y ws 1 r ≤ _ from h0.2) (show _ ≤ DD y ws 2 r from h1.1) (show DD y ws 2 r ≤ _ from h1.2) h2.1 h2.2
end
-- G19
section
local macro_rules | `(tactic| walk_at $s:str) => `(tactic| k_extra $(Lean.Syntax.mkStrLit ("xG19:" ++ s.getString)))
theorem setup_G19 : True := by
  k_with "xG19:m:subr" => ((k_here; (with_unfolding_all refine' Mine.sub_refA ?zzk2 ?zzk3 ?zzk4 ?zzk7 ?zzk5 ?_ ?zzk6; (case zzk2 => k_asm); (case zzk3 => walk_at "m:mem"); (case zzk4 => walk_at "m:idx"); (case zzk5 => assumption); (case zzk7 => omega); (case zzk6 => with_unfolding_all rfl))))
  k_with "xG19:m:subt" => ((k_here; (with_unfolding_all refine' Mine.sub_tupN ?zzk1 ?zzk2 ?zzk3 ?zzk4 ?zzk5 ?_ ?zzk6; (case zzk1 => k_asm); (case zzk2 => walk_at "m:mem"); (case zzk3 => decide); (case zzk4 => decide); (case zzk5 => rfl); (case zzk6 => with_unfolding_all rfl))))
  k_with "xG19:subscriptTail Name Name ref int" => (walk_at "m:subr")
  k_with "xG19:subscriptTail Subscript Name ref int" => (walk_at "m:subr")
  k_with "xG19:subscriptTail Name Constant ref int" => (first | walk_at "m:subr" | walk_at "m:subt")
  k_with "xG19:subscriptTail Subscript Constant ref int" => (walk_at "m:subt")
  k_with "xG19:CompSrc" => (refine Mine.stop ?_)
  k_with "xG19:CompEnd" => (refine Mine.stop ?_)
  k_with "xG19:m:hide" => (have qB' := True.intro; have qD' := True.intro; have qF' := True.intro; have qFG' := True.intro; have qL' := True.intro; have qN' := True.intro; have qT' := True.intro; have qX' := True.intro; have qY' := True.intro; have qcells' := True.intro; have qd' := True.intro; have qfF := True.intro; have qg' := True.intro; have qh' := True.intro; have qh0' := True.intro; have qh1' := True.intro; have qhc' := True.intro; have qhd' := True.intro; have qhp := True.intro; have qhv' := True.intro; have qhz := True.intro; have qhz' := True.intro; have qjk' := True.intro; have qkj' := True.intro; have ql1 := True.intro; have ql2 := True.intro; have qlo' := True.intro; have qnE' := True.intro; have qo' := True.intro; have qo1' := True.intro; have qp := True.intro; have qtj' := True.intro; have qtk' := True.intro; have qtv' := True.intro; have qtx' := True.intro; have qvv' := True.intro; have qx' := True.intro; have qzz' := True.intro)
  k_with "xG19:m:bare" => (clear qB' qD' qF' qFG' qL' qN' qT' qX' qY' qcells' qd' qfF qg' qh' qh0' qh1' qhc' qhd' qhp qhv' qhz qhz' qjk' qkj' ql1 ql2 qlo' qnE' qo' qo1' qp qtj' qtk' qtv' qtx' qvv' qx' qzz')
  trivial
noncomputable abbrev GInv (L : Addr) (m : Str → Option Value) (T : List (Addr × Obj)) (c : LawCells) (y : Nat → Nat) (ws : Nat → Nat → List Nat) (aL : Addr) (i : Nat) (m' : Str → Option Value) (led' : List (Addr × Obj)) : Prop :=
  ∃ oR Ti vs, led' = cellLed L { c with oR := oR } ++ ((aL, listOf (List.toArray vs) i) :: (Ti ++ T)) ∧ (∃ v, oR.data = .cell v) ∧ LCg.Off1 aL Ti ∧ Young L Ti ∧ m' = (fun z => if z = Str.ofString "leasts" then some (.ref aL) else m z) ∧ ValsF vs i (fun r v => ∃ t, v = .int (lsv y ws r) t)
set_option synthInstance.maxSize 100000 in
set_option synthInstance.maxHeartbeats 800000 in
noncomputable def s_segGt (d : (World × (ExcName → Option Value) × (Str → Option Value) × (Str → Option Value)) × (Around × Nat × Nat × (Option (List Code))) × (Addr × Value × Heap × Heap) × (Addr × (Str → Option Value) × (List (Addr × Obj)) × LawCells) × (Shared × Heap × Nat × (Flow → Shared → Prop)) × ((Value → Shared → Prop) × Addr × Addr × Addr) × (Nat × Nat × (List Addr) × (Nat → Nat)) × ((Nat → Nat → List Nat) × (Option Value) × Obj × Obj) × ((List (Addr × Obj)) × (List Value) × Tok)) : Prop := ∀ (B : Below (d.2.1.1) (d.2.2.1.2.2.1) [] (d.2.2.1.2.2.2)) (X : (Mine.hd.heap_1 (d.1.1).params).In (d.2.2.1.2.2.2)) (TT : Top Mine.hd.view_1 (looseW Mine.hd.view_1 []) (d.1.2.1) (d.1.2.2.1) (d.1.2.2.2) (d.2.2.1.2.2.2)) (hd : (d.2.1.2.1) + 40 < recursionLimit) (hu : (d.2.1.2.2.1) + 8 * 40 < cLine) (hy : Young (d.2.2.2.1.1) (d.2.2.2.1.2.2.1)) (cS : (d.2.2.2.1.2.2.2).oS.data = .cell (some (.ref (d.2.2.2.2.2.1.2.1)))) (cR' : (d.2.2.2.2.2.2.2.1.2.2.1).data = .cell (d.2.2.2.2.2.2.2.1.2.1)) (hS : ((d.2.2.2.2.2.1.2.1), listOf (List.toArray ((d.2.2.2.2.2.2.1.2.2.1).map Value.ref)) (d.2.2.2.2.2.2.1.1)) ∈ (d.2.2.2.1.2.2.1)) (hras : (d.2.2.2.2.2.2.1.2.2.1).length = 4) (hst : Stages (d.1.1) (d.2.2.2.2.2.2.1.2.2.2) (d.2.2.2.1.2.2.1) (d.2.2.2.2.2.2.1.2.2.1) (d.2.2.2.2.2.2.2.1.1)) (hkept : Kept (d.2.2.2.2.2.2.1.2.2.2) (d.2.2.2.2.2.2.2.1.1) 3) (lA : AllLt (d.2.2.2.2.2.1.2.2.1) (cellLed (d.2.2.2.1.1) (d.2.2.2.1.2.2.2) ++ (d.2.2.2.1.2.2.1))) (oL : LCg.Off1 (d.2.2.2.2.2.1.2.2.1) (d.2.2.2.1.2.2.1)) (hLT : LCg.Off1 (d.2.2.2.2.2.1.2.2.1) (d.2.2.2.2.2.2.2.2.1)) (hyi : Young (d.2.2.2.1.1) (d.2.2.2.2.2.2.2.2.1)) (hvs : ValsF (d.2.2.2.2.2.2.2.2.2.1) (d.2.2.2.2.2.2.1.2.1) (fun r v => ∃ t, v = .int (lsv (d.2.2.2.2.2.2.1.2.2.2) (d.2.2.2.2.2.2.2.1.1) r) t)) (hi : (d.2.2.2.2.2.2.1.2.1) < 3) (F4 : Fr (d.2.2.1.2.2.2) (d.2.2.2.1.1) (d.2.2.2.2.1.2.1) (fun z => if z = Str.ofString "leasts" then some (.ref (d.2.2.2.2.2.1.2.2.1)) else (d.2.2.2.1.2.1) z)) (N4 : News (d.2.2.1.2.2.2) (d.2.2.2.1.1) (d.2.2.2.2.1.2.1) (((d.2.2.2.2.2.1.2.2.2), (d.2.2.2.2.2.2.2.1.2.2.2)) :: (cellLed (d.2.2.2.1.1) { (d.2.2.2.1.2.2.2) with oR := (d.2.2.2.2.2.2.2.1.2.2.1) } ++ (((d.2.2.2.2.2.1.2.2.1), listOf (List.toArray (d.2.2.2.2.2.2.2.2.2.1)) (d.2.2.2.2.2.2.1.2.1)) :: ((d.2.2.2.2.2.2.2.2.1) ++ (d.2.2.2.1.2.2.1)))))) (off : ∀ p ∈ cellLed (d.2.2.2.1.1) { (d.2.2.2.1.2.2.2) with oR := (d.2.2.2.2.2.2.2.1.2.2.1) } ++ (((d.2.2.2.2.2.1.2.2.1), listOf (List.toArray (d.2.2.2.2.2.2.2.2.2.1)) (d.2.2.2.2.2.2.1.2.1)) :: ((d.2.2.2.2.2.2.2.2.1) ++ (d.2.2.2.1.2.2.1))), p.1 ≠ (d.2.2.2.2.2.1.2.2.2)), wpAny (model PySem.Challenge.rw_zo0012_01.row.prog (d.1.1)) (lawA (d.1.1).params (d.2.1.2.1) (d.2.1.2.2.1) (d.2.1.2.2.2) (d.2.2.2.1.1) (d.2.2.1.1) (d.2.2.1.2.1)) (assign (forAt (lawB (d.1.1).params) 13).1 (lawEnv (d.1.1).params (d.2.2.2.1.1) (d.2.2.1.1) (d.2.2.1.2.1)) (.int ((0 : Int) + ((d.2.2.2.2.2.2.1.2.1) : Int)) (d.2.2.2.2.2.2.2.2.2.2))) (fun _ s₃ => wpAny (model PySem.Challenge.rw_zo0012_01.row.prog (d.1.1)) (lawA (d.1.1).params (d.2.1.2.1) (d.2.1.2.2.1) (d.2.1.2.2.2) (d.2.2.2.1.1) (d.2.2.1.1) (d.2.2.1.2.1)) (execs (forAt (lawB (d.1.1).params) 13).2 (lawEnv (d.1.1).params (d.2.2.2.1.1) (d.2.2.1.1) (d.2.2.1.2.1))) (TurnPost (d.2.2.1.2.2.2) (d.2.2.2.1.1) (d.2.2.2.2.2.1.2.2.2) (d.2.2.2.2.2.2.2.1.2.2.2) (fun m' led' => GInv (d.2.2.2.1.1) (d.2.2.2.1.2.1) (d.2.2.2.1.2.2.1) (d.2.2.2.1.2.2.2) (d.2.2.2.2.2.2.1.2.2.2) (d.2.2.2.2.2.2.2.1.1) (d.2.2.2.2.2.1.2.2.1) ((d.2.2.2.2.2.2.1.2.1) + 1) m' led') { (d.2.2.2.2.1.1) with heap := (d.2.2.2.2.1.2.1), toks := (d.2.2.2.2.1.2.2.1) } (d.2.2.2.2.1.2.2.2)) (d.2.2.2.2.2.1.1) s₃) (d.2.2.2.2.2.1.1) { (d.2.2.2.2.1.1) with heap := (d.2.2.2.2.1.2.1), toks := (d.2.2.2.2.1.2.2.1) }
set_option synthInstance.maxSize 100000 in
set_option synthInstance.maxHeartbeats 800000 in
@[irreducible] noncomputable def k_segGt : (World × (ExcName → Option Value) × (Str → Option Value) × (Str → Option Value)) × (Around × Nat × Nat × (Option (List Code))) × (Addr × Value × Heap × Heap) × (Addr × (Str → Option Value) × (List (Addr × Obj)) × LawCells) × (Shared × Heap × Nat × (Flow → Shared → Prop)) × ((Value → Shared → Prop) × Addr × Addr × Addr) × (Nat × Nat × (List Addr) × (Nat → Nat)) × ((Nat → Nat → List Nat) × (Option Value) × Obj × Obj) × ((List (Addr × Obj)) × (List Value) × Tok) := pick (by haveI := ne_World; haveI := ne_Around; haveI := ne_Shared; haveI := ne_Cells; exact inferInstance) s_segGt
theorem segGt_c : s_segGt k_segGt := by
  delta s_segGt
  intro B X TT hd hu hy cS cR' hS hras hst hkept lA oL hLT hyi hvs hi F4 N4 off
  walk_at "m:fill"
  walk_at "m:body"
  dsimp only [forAt]
  rw [Int.zero_add]
  simp only [cellLed, List.cons_append, List.nil_append] at lA
  have off0 := off1_of off
  simp only [cellLed, List.cons_append, List.nil_append] at N4 off0
  refine Mine.by_op fun P9 bk9 => ?_
  obtain ⟨f11, f10, f9, f8, f7, f6, f5, f4, f3, f2, f1, fL, fT⟩ := off0
  refine bk9 ?_; clear bk9 P9
  dsimp only at f11 f10 f9 f8 f7 f6 f5 f4 f3 f2 f1 fL
  have hyT' : Young (k_segGt.2.2.2.1.1) ((k_segGt.2.2.2.2.2.2.2.2.1) ++ (k_segGt.2.2.2.1.2.2.1)) := fun p hp => (List.mem_append.mp hp).elim (hyi p) (hy p)
  have oLT : LCg.Off1 (k_segGt.2.2.2.2.2.1.2.2.1) ((k_segGt.2.2.2.2.2.2.2.2.1) ++ (k_segGt.2.2.2.1.2.2.1)) := off1_of fun p hp => (List.mem_append.mp hp).elim (off1_mem hLT p) (off1_mem oL p)
  obtain ⟨R0, hR0⟩ := at_of_len hras (show 0 < 4 by decide)
  refine Mine.by_op fun P9 bk9 => ?_
  obtain ⟨rs0, n0, hm0, hl0, hs0⟩ := hst 0 R0 hR0
  refine bk9 ?_; clear bk9 P9
  obtain ⟨s0, hx0⟩ := at_of_len hl0 hi
  refine Mine.by_op fun P9 bk9 => ?_
  obtain ⟨_, _, _, _, _, _, _, e0, _⟩ := hs0 (k_segGt.2.2.2.2.2.2.1.2.1) s0 hx0
  refine bk9 ?_; clear bk9 P9
  rw [wst_ct] at e0
  have hm0' : _ ∈ (k_segGt.2.2.2.2.2.2.2.2.1) ++ (k_segGt.2.2.2.1.2.2.1) := List.mem_append_right (k_segGt.2.2.2.2.2.2.2.2.1) hm0
  have e0' : _ ∈ (k_segGt.2.2.2.2.2.2.2.2.1) ++ (k_segGt.2.2.2.1.2.2.1) := List.mem_append_right (k_segGt.2.2.2.2.2.2.2.2.1) e0
  obtain ⟨R1, hR1⟩ := at_of_len hras (show 1 < 4 by decide)
  refine Mine.by_op fun P9 bk9 => ?_
  obtain ⟨rs1, n1, hm1, hl1, hs1⟩ := hst 1 R1 hR1
  refine bk9 ?_; clear bk9 P9
  obtain ⟨s1, hx1⟩ := at_of_len hl1 hi
  refine Mine.by_op fun P9 bk9 => ?_
  obtain ⟨_, _, _, _, _, _, _, e1, _⟩ := hs1 (k_segGt.2.2.2.2.2.2.1.2.1) s1 hx1
  refine bk9 ?_; clear bk9 P9
  rw [wst_ct] at e1
  have hm1' : _ ∈ (k_segGt.2.2.2.2.2.2.2.2.1) ++ (k_segGt.2.2.2.1.2.2.1) := List.mem_append_right (k_segGt.2.2.2.2.2.2.2.2.1) hm1
  have e1' : _ ∈ (k_segGt.2.2.2.2.2.2.2.2.1) ++ (k_segGt.2.2.2.1.2.2.1) := List.mem_append_right (k_segGt.2.2.2.2.2.2.2.2.1) e1
  obtain ⟨R2, hR2⟩ := at_of_len hras (show 2 < 4 by decide)
  refine Mine.by_op fun P9 bk9 => ?_
  obtain ⟨rs2, n2, hm2, hl2, hs2⟩ := hst 2 R2 hR2
  refine bk9 ?_; clear bk9 P9
  obtain ⟨s2, hx2⟩ := at_of_len hl2 hi
  refine Mine.by_op fun P9 bk9 => ?_
  obtain ⟨_, _, _, _, _, _, _, e2, _⟩ := hs2 (k_segGt.2.2.2.2.2.2.1.2.1) s2 hx2
  refine bk9 ?_; clear bk9 P9
  rw [wst_ct] at e2
  have hm2' : _ ∈ (k_segGt.2.2.2.2.2.2.2.2.1) ++ (k_segGt.2.2.2.1.2.2.1) := List.mem_append_right (k_segGt.2.2.2.2.2.2.2.2.1) hm2
  have e2' : _ ∈ (k_segGt.2.2.2.2.2.2.2.2.1) ++ (k_segGt.2.2.2.1.2.2.1) := List.mem_append_right (k_segGt.2.2.2.2.2.2.2.2.1) e2
  obtain ⟨R3, hR3⟩ := at_of_len hras (show 3 < 4 by decide)
  refine Mine.by_op fun P9 bk9 => ?_
  obtain ⟨rs3, n3, hm3, hl3, hs3⟩ := hst 3 R3 hR3
  refine bk9 ?_; clear bk9 P9
  obtain ⟨s3, hx3⟩ := at_of_len hl3 hi
  refine Mine.by_op fun P9 bk9 => ?_
  obtain ⟨_, _, _, _, _, _, _, e3, _⟩ := hs3 (k_segGt.2.2.2.2.2.2.1.2.1) s3 hx3
  refine bk9 ?_; clear bk9 P9
  rw [wst_ct] at e3
  have hm3' : _ ∈ (k_segGt.2.2.2.2.2.2.2.2.1) ++ (k_segGt.2.2.2.1.2.2.1) := List.mem_append_right (k_segGt.2.2.2.2.2.2.2.2.1) hm3
  have e3' : _ ∈ (k_segGt.2.2.2.2.2.2.2.2.1) ++ (k_segGt.2.2.2.1.2.2.1) := List.mem_append_right (k_segGt.2.2.2.2.2.2.2.2.1) e3
  have hS' : _ ∈ (k_segGt.2.2.2.2.2.2.2.2.1) ++ (k_segGt.2.2.2.1.2.2.1) := List.mem_append_right (k_segGt.2.2.2.2.2.2.2.2.1) hS
  k_steps
  (walk_at "m:hide"; rename_i h5 oR' _ _ dR h6 tk6 w1 w2 w3 hr6 F6 N6 kp6; walk_at "m:bare")
  unfold Stop
  refine LCg.CompSrc.range (n := 3) (by rfl) F6 (news := ((k_segGt.2.2.2.2.2.1.2.2.2), (k_segGt.2.2.2.2.2.2.2.1.2.2.2)) :: (cellLed (k_segGt.2.2.2.1.1) { (k_segGt.2.2.2.1.2.2.2) with oR := oR' } ++ (((k_segGt.2.2.2.2.2.1.2.2.1), listOf (List.toArray (k_segGt.2.2.2.2.2.2.2.2.2.1)) (k_segGt.2.2.2.2.2.2.1.2.1)) :: ((k_segGt.2.2.2.2.2.2.2.2.1) ++ (k_segGt.2.2.2.1.2.2.1))))) N6 hr6 (by decide) (by decide) (by decide) ?_
  intro g'
  refine comp_all (fun q v => ∃ t, v = .int (gvv (k_segGt.2.2.2.2.2.2.1.2.2.2) (k_segGt.2.2.2.2.2.2.2.1.1) (k_segGt.2.2.2.2.2.2.1.2.1) q) t) ?_ ?_
  · rintro q v ys I' oI' C oC D m₂ h7 tk7 E' hq ⟨tI, rfl⟩ hyl hC hx F7 N7 off' ne
    have N8 := N7
    simp only [cellLed, List.cons_append, List.nil_append] at N8
    clear F6 N6 kp6 hr6
    have hq3 : q = 0 ∨ q = 1 ∨ q = 2 := three_cases hq
    rcases hq3 with rfl | rfl | rfl
    · replace hx : m₂ (Str.ofString "k") = some (.int 0 tI) := hx
      have N9 := N7
      clear N7
      k_steps
      unfold Stop
      refine LCg.CompEnd.intro F7 N9 (((k_segGt.2.2.2.2.2.1.2.2.2), (k_segGt.2.2.2.2.2.2.2.1.2.2.2)) :: (cellLed (k_segGt.2.2.2.1.1) { (k_segGt.2.2.2.1.2.2.2) with oR := oR' } ++ (((k_segGt.2.2.2.2.2.1.2.2.1), listOf (List.toArray (k_segGt.2.2.2.2.2.2.2.2.2.1)) (k_segGt.2.2.2.2.2.2.1.2.1)) :: ((k_segGt.2.2.2.2.2.2.2.2.1) ++ (k_segGt.2.2.2.1.2.2.1))))) (fun p hp => hp) off' trivial ⟨rfl, Mine.int_val ?_⟩
      exact congrArg (· * _) (show Int.fdiv 6 (3 - 0) = 2 by decide)
    · replace hx : m₂ (Str.ofString "k") = some (.int 1 tI) := hx
      have N9 := N7
      clear N7
      k_steps
      unfold Stop
      refine LCg.CompEnd.intro F7 N9 (((k_segGt.2.2.2.2.2.1.2.2.2), (k_segGt.2.2.2.2.2.2.2.1.2.2.2)) :: (cellLed (k_segGt.2.2.2.1.1) { (k_segGt.2.2.2.1.2.2.2) with oR := oR' } ++ (((k_segGt.2.2.2.2.2.1.2.2.1), listOf (List.toArray (k_segGt.2.2.2.2.2.2.2.2.2.1)) (k_segGt.2.2.2.2.2.2.1.2.1)) :: ((k_segGt.2.2.2.2.2.2.2.2.1) ++ (k_segGt.2.2.2.1.2.2.1))))) (fun p hp => hp) off' trivial ⟨rfl, Mine.int_val ?_⟩
      exact congrArg (· * _) (show Int.fdiv 6 (3 - 1) = 3 by decide)
    · replace hx : m₂ (Str.ofString "k") = some (.int 2 tI) := hx
      have N9 := N7
      clear N7
      k_steps
      unfold Stop
      refine LCg.CompEnd.intro F7 N9 (((k_segGt.2.2.2.2.2.1.2.2.2), (k_segGt.2.2.2.2.2.2.2.1.2.2.2)) :: (cellLed (k_segGt.2.2.2.1.1) { (k_segGt.2.2.2.1.2.2.2) with oR := oR' } ++ (((k_segGt.2.2.2.2.2.1.2.2.1), listOf (List.toArray (k_segGt.2.2.2.2.2.2.2.2.2.1)) (k_segGt.2.2.2.2.2.2.1.2.1)) :: ((k_segGt.2.2.2.2.2.2.2.2.1) ++ (k_segGt.2.2.2.1.2.2.1))))) (fun p hp => hp) off' trivial ⟨rfl, Mine.int_val ?_⟩
      exact congrArg (· * _) (show Int.fdiv 6 (3 - 2) = 6 by decide)
  · intro ys hv
    unfold LCg.FinE
    intro D h8 tk8 F8 N8 o1
    refine Mine.by_op fun P9 bk9 => ?_
    obtain ⟨v0, e0', w0, rfl⟩ := hv.2 0 (by decide)
    refine bk9 ?_; clear bk9 P9
    refine Mine.by_op fun P9 bk9 => ?_
    obtain ⟨v1, e1', w1', rfl⟩ := hv.2 1 (by decide)
    refine bk9 ?_; clear bk9 P9
    refine Mine.by_op fun P9 bk9 => ?_
    obtain ⟨v2, e2', w2', rfl⟩ := hv.2 2 (by decide)
    refine bk9 ?_; clear bk9 P9
    have eys : ys = [.int (gvv (k_segGt.2.2.2.2.2.2.1.2.2.2) (k_segGt.2.2.2.2.2.2.2.1.1) (k_segGt.2.2.2.2.2.2.1.2.1) 0) w0, .int (gvv (k_segGt.2.2.2.2.2.2.1.2.2.2) (k_segGt.2.2.2.2.2.2.2.1.1) (k_segGt.2.2.2.2.2.2.1.2.1) 1) w1', .int (gvv (k_segGt.2.2.2.2.2.2.1.2.2.2) (k_segGt.2.2.2.2.2.2.2.1.1) (k_segGt.2.2.2.2.2.2.1.2.1) 2) w2'] := list3 hv.1 e0' e1' e2'
    subst eys
    refine Mine.by_op fun P9 bk9 => ?_
    obtain ⟨oI1, o11, o10, o9, o8, o7, o6, o5, o4, o3, o2, o1', oL1, oT1⟩ := id o1
    refine bk9 ?_; clear bk9 P9
    dsimp only at oI1 o11 o10 o9 o8 o7 o6 o5 o4 o3 o2 o1' oL1
    have N9 := N8
    simp only [cellLed, List.cons_append, List.nil_append] at N9
    refine Mine.by_op fun P9 bk9 => ?_
    obtain ⟨p0, p1, p2⟩ := three_bd hkept hi
    refine bk9 ?_; clear bk9 P9
    have sV : (List.toArray (k_segGt.2.2.2.2.2.2.2.2.2.1)).size ≤ sizeLine := by rw [List.size_toArray, hvs.1, sizeLine_eq]; omega
    clear F6 N6 kp6 hr6
    k_with "xG19:call builtin:list.append" => ((try dsimp only [List.cons_append, List.nil_append]); k_dflt (refine' append_K ?zzk1 ?zzk2 ?zzk3 ?_ ?zzz; (case zzk1 => k_asm); (case zzk2 => k_asm); (case zzk3 => k_upd); (case zzz => assumption)); intro h' F' N'; (try k_sweep))
    k_with "xG19:call ref" => ((with_reducible show wpAny _ _ (call (Value.ref 117) _) _ _ _); k_dflt (refine' gives_use (leastI (k_segGt.1.1) (gvv (k_segGt.2.2.2.2.2.2.1.2.2.2) (k_segGt.2.2.2.2.2.2.2.1.1) (k_segGt.2.2.2.2.2.2.1.2.1) 0) (gvv (k_segGt.2.2.2.2.2.2.1.2.2.2) (k_segGt.2.2.2.2.2.2.2.1.1) (k_segGt.2.2.2.2.2.2.1.2.1) 1) (gvv (k_segGt.2.2.2.2.2.2.1.2.2.2) (k_segGt.2.2.2.2.2.2.2.1.1) (k_segGt.2.2.2.2.2.2.1.2.1) 2)) ?zzk1 ?zzk2 ?zzk3 ?zzk4 ?zzk5 ?zzk6 ?zzk7 ?zzk8 ?zzk9 ?_; walk_at "m:give"; (case zzk7 => exact ⟨p0.1, p1.1, p2.1, p0.2, p1.2, p2.2, D, w0, w1', w2', _, rfl, .head _⟩)); refine Mine.ret_nil ?_; intro t9 h9 tk9 F9 N9; (try dsimp only); (try k_fold))
    k_steps
    simp only [List.push_toArray] at N'
    have N'' : News (k_segGt.2.2.1.2.2.2) (k_segGt.2.2.2.1.1) h' ((D, LCg.lst [.int (gvv (k_segGt.2.2.2.2.2.2.1.2.2.2) (k_segGt.2.2.2.2.2.2.2.1.1) (k_segGt.2.2.2.2.2.2.1.2.1) 0) w0, .int (gvv (k_segGt.2.2.2.2.2.2.1.2.2.2) (k_segGt.2.2.2.2.2.2.2.1.1) (k_segGt.2.2.2.2.2.2.1.2.1) 1) w1', .int (gvv (k_segGt.2.2.2.2.2.2.1.2.2.2) (k_segGt.2.2.2.2.2.2.2.1.1) (k_segGt.2.2.2.2.2.2.1.2.1) 2) w2']) :: ((k_segGt.2.2.2.2.2.1.2.2.2), (k_segGt.2.2.2.2.2.2.2.1.2.2.2)) :: (cellLed (k_segGt.2.2.2.1.1) { (k_segGt.2.2.2.1.2.2.2) with oR := oR' } ++ (((k_segGt.2.2.2.2.2.1.2.2.1), listOf (List.toArray ((k_segGt.2.2.2.2.2.2.2.2.2.1) ++ [.int (min (min (gvv (k_segGt.2.2.2.2.2.2.1.2.2.2) (k_segGt.2.2.2.2.2.2.2.1.1) (k_segGt.2.2.2.2.2.2.1.2.1) 0) (gvv (k_segGt.2.2.2.2.2.2.1.2.2.2) (k_segGt.2.2.2.2.2.2.2.1.1) (k_segGt.2.2.2.2.2.2.1.2.1) 1)) (gvv (k_segGt.2.2.2.2.2.2.1.2.2.2) (k_segGt.2.2.2.2.2.2.2.1.1) (k_segGt.2.2.2.2.2.2.1.2.1) 2)) t9])) ((k_segGt.2.2.2.2.2.2.1.2.1) + 1)) :: ((k_segGt.2.2.2.2.2.2.2.2.1) ++ (k_segGt.2.2.2.1.2.2.1))))) := N'
    refine Mine.TurnEnd.intro (cellLed (k_segGt.2.2.2.1.1) { (k_segGt.2.2.2.1.2.2.2) with oR := oR' } ++ (((k_segGt.2.2.2.2.2.1.2.2.1), listOf (List.toArray ((k_segGt.2.2.2.2.2.2.2.2.2.1) ++ [.int (min (min (gvv (k_segGt.2.2.2.2.2.2.1.2.2.2) (k_segGt.2.2.2.2.2.2.2.1.1) (k_segGt.2.2.2.2.2.2.1.2.1) 0) (gvv (k_segGt.2.2.2.2.2.2.1.2.2.2) (k_segGt.2.2.2.2.2.2.2.1.1) (k_segGt.2.2.2.2.2.2.1.2.1) 1)) (gvv (k_segGt.2.2.2.2.2.2.1.2.2.2) (k_segGt.2.2.2.2.2.2.2.1.1) (k_segGt.2.2.2.2.2.2.1.2.1) 2)) t9])) ((k_segGt.2.2.2.2.2.2.1.2.1) + 1)) :: (((D, LCg.lst [.int (gvv (k_segGt.2.2.2.2.2.2.1.2.2.2) (k_segGt.2.2.2.2.2.2.2.1.1) (k_segGt.2.2.2.2.2.2.1.2.1) 0) w0, .int (gvv (k_segGt.2.2.2.2.2.2.1.2.2.2) (k_segGt.2.2.2.2.2.2.2.1.1) (k_segGt.2.2.2.2.2.2.1.2.1) 1) w1', .int (gvv (k_segGt.2.2.2.2.2.2.1.2.2.2) (k_segGt.2.2.2.2.2.2.2.1.1) (k_segGt.2.2.2.2.2.2.1.2.1) 2) w2']) :: (k_segGt.2.2.2.2.2.2.2.2.1)) ++ (k_segGt.2.2.2.1.2.2.1)))) F' N'' ?_ ?_
      ⟨oR', (D, LCg.lst [.int (gvv (k_segGt.2.2.2.2.2.2.1.2.2.2) (k_segGt.2.2.2.2.2.2.2.1.1) (k_segGt.2.2.2.2.2.2.1.2.1) 0) w0, .int (gvv (k_segGt.2.2.2.2.2.2.1.2.2.2) (k_segGt.2.2.2.2.2.2.2.1.1) (k_segGt.2.2.2.2.2.2.1.2.1) 1) w1', .int (gvv (k_segGt.2.2.2.2.2.2.1.2.2.2) (k_segGt.2.2.2.2.2.2.2.1.1) (k_segGt.2.2.2.2.2.2.1.2.1) 2) w2']) :: (k_segGt.2.2.2.2.2.2.2.2.1), _, rfl, ⟨_, dR⟩, ⟨Ne.symm oL1, hLT⟩, young_cons_of o1 hyi, rfl, hvs.snoc ⟨t9, rfl⟩⟩
    · intro p hp
      rcases List.mem_cons.mp hp with hp | hp
      · exact hp ▸ .tail _ (.head _)
      · rcases List.mem_append.mp hp with hp | hp
        · exact .tail _ (.tail _ (List.mem_append_left (((k_segGt.2.2.2.2.2.1.2.2.1), listOf (List.toArray ((k_segGt.2.2.2.2.2.2.2.2.2.1) ++ [.int (min (min (gvv (k_segGt.2.2.2.2.2.2.1.2.2.2) (k_segGt.2.2.2.2.2.2.2.1.1) (k_segGt.2.2.2.2.2.2.1.2.1) 0) (gvv (k_segGt.2.2.2.2.2.2.1.2.2.2) (k_segGt.2.2.2.2.2.2.2.1.1) (k_segGt.2.2.2.2.2.2.1.2.1) 1)) (gvv (k_segGt.2.2.2.2.2.2.1.2.2.2) (k_segGt.2.2.2.2.2.2.2.1.1) (k_segGt.2.2.2.2.2.2.1.2.1) 2)) t9])) ((k_segGt.2.2.2.2.2.2.1.2.1) + 1)) :: ((k_segGt.2.2.2.2.2.2.2.2.1) ++ (k_segGt.2.2.2.1.2.2.1))) hp))
        · rcases List.mem_cons.mp hp with hp | hp
          · exact hp ▸ .tail _ (.tail _ (List.mem_append_right (cellLed (k_segGt.2.2.2.1.1) { (k_segGt.2.2.2.1.2.2.2) with oR := oR' }) (.head _)))
          · rcases List.mem_cons.mp hp with hp | hp
            · exact hp ▸ .head _
            · exact .tail _ (.tail _ (List.mem_append_right (cellLed (k_segGt.2.2.2.1.1) { (k_segGt.2.2.2.1.2.2.2) with oR := oR' }) (.tail _ hp)))
    · have hall : LCg.Off1 (k_segGt.2.2.2.2.2.1.2.2.2) (cellLed (k_segGt.2.2.2.1.1) { (k_segGt.2.2.2.1.2.2.2) with oR := oR' } ++ (((k_segGt.2.2.2.2.2.1.2.2.1), listOf (List.toArray ((k_segGt.2.2.2.2.2.2.2.2.2.1) ++ [.int (min (min (gvv (k_segGt.2.2.2.2.2.2.1.2.2.2) (k_segGt.2.2.2.2.2.2.2.1.1) (k_segGt.2.2.2.2.2.2.1.2.1) 0) (gvv (k_segGt.2.2.2.2.2.2.1.2.2.2) (k_segGt.2.2.2.2.2.2.2.1.1) (k_segGt.2.2.2.2.2.2.1.2.1) 1)) (gvv (k_segGt.2.2.2.2.2.2.1.2.2.2) (k_segGt.2.2.2.2.2.2.2.1.1) (k_segGt.2.2.2.2.2.2.1.2.1) 2)) t9])) ((k_segGt.2.2.2.2.2.2.1.2.1) + 1)) :: (((D, LCg.lst [.int (gvv (k_segGt.2.2.2.2.2.2.1.2.2.2) (k_segGt.2.2.2.2.2.2.2.1.1) (k_segGt.2.2.2.2.2.2.1.2.1) 0) w0, .int (gvv (k_segGt.2.2.2.2.2.2.1.2.2.2) (k_segGt.2.2.2.2.2.2.2.1.1) (k_segGt.2.2.2.2.2.2.1.2.1) 1) w1', .int (gvv (k_segGt.2.2.2.2.2.2.1.2.2.2) (k_segGt.2.2.2.2.2.2.2.1.1) (k_segGt.2.2.2.2.2.2.1.2.1) 2) w2']) :: (k_segGt.2.2.2.2.2.2.2.2.1)) ++ (k_segGt.2.2.2.1.2.2.1)))) := ⟨f11, f10, f9, f8, f7, f6, f5, f4, f3, f2, f1, fL, Ne.symm oI1, fT⟩
      exact off1_mem hall
theorem segGt (w : World) {mean : ExcName → Option Value} {mg mb : Str → Option Value} {A₀ : Around} {dp un : Nat} {gd : Option (List Code)} {fa : Addr} {cd : Value} {base g : Heap} {L : Addr} {m : Str → Option Value} {T : List (Addr × Obj)} {c : LawCells} {s : Shared} {h4 : Heap} {tk4 : Nat} {Q : Flow → Shared → Prop} {E : Value → Shared → Prop} {aS aL I : Addr} {nS i : Nat} {ras : List Addr} {y : Nat → Nat} {ws : Nat → Nat → List Nat} {vR' : Option Value} {oR0 oI : Obj} {Ti : List (Addr × Obj)} {vs : List Value} {ti : Tok}
    (B : Below A₀ base [] g) (X : (Mine.hd.heap_1 w.params).In g) (TT : Top Mine.hd.view_1 (looseW Mine.hd.view_1 []) mean mg mb g) (hd : dp + 40 < recursionLimit) (hu : un + 8 * 40 < cLine)
    (hy : Young L T) (cS : c.oS.data = .cell (some (.ref aS))) (cR' : oR0.data = .cell vR') (hS : (aS, listOf (List.toArray (ras.map Value.ref)) nS) ∈ T) (hras : ras.length = 4) (hst : Stages w y T ras ws) (hkept : Kept y ws 3) (lA : AllLt aL (cellLed L c ++ T)) (oL : LCg.Off1 aL T) (hLT : LCg.Off1 aL Ti) (hyi : Young L Ti) (hvs : ValsF vs i (fun r v => ∃ t, v = .int (lsv y ws r) t)) (hi : i < 3)
    (F4 : Fr g L h4 (fun z => if z = Str.ofString "leasts" then some (.ref aL) else m z)) (N4 : News g L h4 ((I, oI) :: (cellLed L { c with oR := oR0 } ++ ((aL, listOf (List.toArray vs) i) :: (Ti ++ T))))) (off : ∀ p ∈ cellLed L { c with oR := oR0 } ++ ((aL, listOf (List.toArray vs) i) :: (Ti ++ T)), p.1 ≠ I) : wpAny (model PySem.Challenge.rw_zo0012_01.row.prog w) (lawA w.params dp un gd L fa cd) (assign (forAt (lawB w.params) 13).1 (lawEnv w.params L fa cd) (.int ((0 : Int) + (i : Int)) ti)) (fun _ s₃ => wpAny (model PySem.Challenge.rw_zo0012_01.row.prog w) (lawA w.params dp un gd L fa cd) (execs (forAt (lawB w.params) 13).2 (lawEnv w.params L fa cd)) (TurnPost g L I oI (fun m' led' => GInv L m T c y ws aL (i + 1) m' led') { s with heap := h4, toks := tk4 } Q) E s₃) E { s with heap := h4, toks := tk4 } :=
  pick_all k_segGt.eq_1 segGt_c ((w, mean, mg, mb), (A₀, dp, un, gd), (fa, cd, base, g), (L, m, T, c), (s, h4, tk4, Q), (E, aS, aL, I), (nS, i, ras, y), (ws, vR', oR0, oI), (Ti, vs, ti)) B X TT hd hu hy cS cR' hS hras hst hkept lA oL hLT hyi hvs hi F4 N4 off
theorem segG (w : World) {mean : ExcName → Option Value} {mg mb : Str → Option Value} {A₀ : Around} {dp un : Nat} {gd : Option (List Code)} {fa : Addr} {cd : Value} {base g : Heap} {L : Addr} {m : Str → Option Value} {T : List (Addr × Obj)} {c : LawCells} {s : Shared} {h : Heap} {tk : Nat} {Q : Flow → Shared → Prop} {E : Value → Shared → Prop}
    (B : Below A₀ base [] g) (X : (Mine.hd.heap_1 w.params).In g) (TT : Top Mine.hd.view_1 (looseW Mine.hd.view_1 []) mean mg mb g) (hd : dp + 40 < recursionLimit) (hu : un + 8 * 40 < cLine)
    (F : Fr g L h m) (N : News g L h (cellLed L c ++ T)) (hy : Young L T)
    {aS : Addr} {nS : Nat} {ras : List Addr} {y : Nat → Nat} {ws : Nat → Nat → List Nat} {vR : Option Value}
    (hE : PassesOwn (model PySem.Challenge.rw_zo0012_01.row.prog w) (lawA w.params dp un gd L fa cd) (lawEnv w.params L fa cd) E)
    (cS : c.oS.data = .cell (some (.ref aS))) (cR : c.oR.data = .cell vR)
    (hS : (aS, listOf (List.toArray (ras.map Value.ref)) nS) ∈ T) (hras : ras.length = 4) (hst : Stages w y T ras ws) (hkept : Kept y ws 3)
    (ret : ∀ h' tk' m' oR T' aL nL vs, Fr g L h' m' → News g L h' (cellLed L { c with oR := oR } ++ T') → Young L T' → (∀ p ∈ T, p ∈ T') → (∃ v, oR.data = .cell v) → (∀ z, z ≠ Str.ofString "leasts" → m' z = m z) → m' (Str.ofString "leasts") = some (.ref aL) → (aL, listOf (List.toArray vs) nL) ∈ T' →
      ValsF vs 3 (fun r v => ∃ t, v = .int (lsv y ws r) t) → Q .next { s with heap := h', toks := tk' }) :
    wpAny (model PySem.Challenge.rw_zo0012_01.row.prog w) (lawA w.params dp un gd L fa cd) (execs (((lawB w.params).drop 12).take 2) (lawEnv w.params L fa cd)) Q E { s with heap := h, toks := tk } := by
  have hE0 := hE
  have B0 := B
  walk_at "m:fill"
  simp only [cellLed, List.cons_append, List.nil_append] at N
  dsimp only [lawS, lawEnv, lawA, lawParts] at hE B
  walk_at "m:body"
  k_steps
  (walk_at "m:hide"; rename_i aL hA lA hB F0 N0 h1 tk1 u1 u2 u3 hr F1 N1 kp htk1; walk_at "m:bare")
  clear F0 N0
  have hlL := allLt_mem (d := aL) (l := cellLed L c ++ T) lA
  have hLL : @LT.lt Nat _ (L + 11) aL := hlL (L + 11, c.oQ) (.head _)
  have oL : LCg.Off1 aL T := off1_of fun p hp => Nat.ne_of_lt (hlL p (List.mem_append_right _ hp))
  refine iter_rangeT (n := 3) (fun i m' led' => GInv L m T c y ws aL i m' led') (by rfl) hr (by decide) (by decide) F1 (perm_cells (add := [(aL, _)]) (A := cellLed L c) (T := T) N1)
    ⟨c.oR, [], [], rfl, ⟨_, cR⟩, trivial, young_nil, rfl, ValsF.nil⟩ (by intros; exact Expr.noConfusion) (by intros; exact Expr.noConfusion) ?_ ?_
  · intro i ti m₁ led₁ h4 tk4 I oI htk4 hi qz109 F4 N4 off
    refine Mine.by_op fun P9 bk9 => ?_
    obtain ⟨oR, Ti, vs, rfl, ⟨vR', cR'⟩, hLT, hyi, rfl, hvs⟩ := qz109
    refine bk9 ?_; clear bk9 P9
    exact segGt w B0 X TT hd hu hy cS cR' hS hras hst hkept lA oL hLT hyi hvs hi F4 N4 off
  · intro h5 tk5 m5 led5 F5 N5 qz69
    refine Mine.by_op fun P9 bk9 => ?_
    obtain ⟨oR, Ti, vs, rfl, hcR', hLT, hyi, rfl, hvs⟩ := qz69
    refine bk9 ?_; clear bk9 P9
    refine wpAny_execs_nil ?_
    exact ret _ _ _ oR ((aL, listOf (List.toArray vs) 3) :: (Ti ++ T)) aL 3 vs F5 N5 (young_cons hLL fun p hp => (List.mem_append.mp hp).elim (hyi p) (hy p)) (fun p hp => .tail _ (List.mem_append_right _ hp)) hcR' (fun z hz => if_neg hz) (if_pos rfl) (.head _) hvs
end
-- G20
section
local macro_rules | `(tactic| walk_at $s:str) => `(tactic| k_extra $(Lean.Syntax.mkStrLit ("xG20:" ++ s.getString)))
local macro_rules | `(tactic| walk_at $s:str) => `(tactic| k_extra $(Lean.Syntax.mkStrLit ("xG20:" ++ s.getString)))
theorem setup_G20 : True := by
  k_with "xG20:m:hide" => (have qB' := True.intro; have qD' := True.intro; have qF' := True.intro; have qFG' := True.intro; have qL' := True.intro; have qN' := True.intro; have qT' := True.intro; have qX' := True.intro; have qY' := True.intro; have qcells' := True.intro; have qd' := True.intro; have qfF := True.intro; have qg' := True.intro; have qh' := True.intro; have qh0' := True.intro; have qh1' := True.intro; have qhc' := True.intro; have qhd' := True.intro; have qhp := True.intro; have qhv' := True.intro; have qhz := True.intro; have qhz' := True.intro; have qjk' := True.intro; have qkj' := True.intro; have ql1 := True.intro; have ql2 := True.intro; have qlo' := True.intro; have qnE' := True.intro; have qo' := True.intro; have qo1' := True.intro; have qp := True.intro; have qtj' := True.intro; have qtk' := True.intro; have qtv' := True.intro; have qtx' := True.intro; have qvv' := True.intro; have qx' := True.intro; have qzz' := True.intro)
  k_with "xG20:m:bare" => (clear qB' qD' qF' qFG' qL' qN' qT' qX' qY' qcells' qd' qfF qg' qh' qh0' qh1' qhc' qhd' qhp qhv' qhz qhz' qjk' qkj' ql1 ql2 qlo' qnE' qo' qo1' qp qtj' qtk' qtv' qtx' qvv' qx' qzz')
  trivial
theorem ints_cons {vs : List Value} {n m : Nat} {f : Nat → Int} (h : IntsZ vs (n + 1) m f) : ∃ t vs', vs = .int (f 0) t :: vs' ∧ IntsZ vs' n m (fun i => f (i + 1)) := by
  obtain ⟨hl, h⟩ := h
  refine Mine.by_op fun P9 bk9 => ?_
  obtain ⟨_, _, t, e⟩ := h 0 (Nat.succ_pos n)
  refine bk9 ?_; clear bk9 P9
  cases vs with
  | nil => cases e
  | cons a vs =>
    cases e
    exact ⟨t, vs, rfl, Nat.succ.inj hl, fun i hi => h (i + 1) (Nat.succ_lt_succ hi)⟩
theorem ints_nil {vs : List Value} {m : Nat} {f : Nat → Int} (h : IntsZ vs 0 m f) : vs = [] := List.eq_nil_of_length_eq_zero h.1
theorem ints3 {vs : List Value} {n m : Nat} {f : Nat → Int} (h : IntsZ vs (n + 3) m f) : ∃ t0 t1 t2 vs', vs = .int (f 0) t0 :: .int (f 1) t1 :: .int (f 2) t2 :: vs' ∧ IntsZ vs' n m (fun i => f (i + 3)) := by
  refine Mine.by_op fun P9 bk9 => ?_
  obtain ⟨t0, _, rfl, h1⟩ := ints_cons h
  refine bk9 ?_; clear bk9 P9
  refine Mine.by_op fun P9 bk9 => ?_
  obtain ⟨t1, _, rfl, h2⟩ := ints_cons h1
  refine bk9 ?_; clear bk9 P9
  refine Mine.by_op fun P9 bk9 => ?_
  obtain ⟨t2, vs, rfl, h3⟩ := ints_cons h2
  refine bk9 ?_; clear bk9 P9
  exact ⟨t0, t1, t2, vs, rfl, h3⟩
theorem ints9 {vs : List Value} {f : Nat → Int} (h : IntsZ vs 9 18 f) : ∃ t0 t1 t2 t3 t4 t5 t6 t7 t8, vs = [.int (f 0) t0, .int (f 1) t1, .int (f 2) t2, .int (f 3) t3, .int (f 4) t4, .int (f 5) t5, .int (f 6) t6, .int (f 7) t7, .int (f 8) t8] := by
  refine Mine.by_op fun P9 bk9 => ?_
  obtain ⟨t0, t1, t2, _, rfl, h1⟩ := ints3 h
  refine bk9 ?_; clear bk9 P9
  refine Mine.by_op fun P9 bk9 => ?_
  obtain ⟨t3, t4, t5, _, rfl, h2⟩ := ints3 h1
  refine bk9 ?_; clear bk9 P9
  refine Mine.by_op fun P9 bk9 => ?_
  obtain ⟨t6, t7, t8, _, rfl, h3⟩ := ints3 (n := 0) h2
  refine bk9 ?_; clear bk9 P9
  obtain rfl := ints_nil h3
  exact ⟨t0, t1, t2, t3, t4, t5, t6, t7, t8, rfl⟩
theorem vals_cons {vs : List Value} {n : Nat} {P : Nat → Value → Prop} (h : ValsF vs (n + 1) P) : ∃ v vs', vs = v :: vs' ∧ P 0 v ∧ ValsF vs' n (fun i => P (i + 1)) := by
  obtain ⟨hl, h⟩ := h
  refine Mine.by_op fun P9 bk9 => ?_
  obtain ⟨v, e, hv⟩ := h 0 (Nat.succ_pos n)
  refine bk9 ?_; clear bk9 P9
  cases vs with
  | nil => cases e
  | cons a vs =>
    cases e
    exact ⟨v, vs, rfl, hv, Nat.succ.inj hl, fun i hi => h (i + 1) (Nat.succ_lt_succ hi)⟩
theorem vals3 {vs : List Value} {f : Nat → Int} (h : ValsF vs 3 (fun r v => ∃ t, v = .int (f r) t)) : ∃ t0 t1 t2, vs = [.int (f 0) t0, .int (f 1) t1, .int (f 2) t2] := by
  refine Mine.by_op fun P9 bk9 => ?_
  obtain ⟨_, _, rfl, ⟨t0, rfl⟩, h1⟩ := vals_cons h
  refine bk9 ?_; clear bk9 P9
  refine Mine.by_op fun P9 bk9 => ?_
  obtain ⟨_, _, rfl, ⟨t1, rfl⟩, h2⟩ := vals_cons h1
  refine bk9 ?_; clear bk9 P9
  refine Mine.by_op fun P9 bk9 => ?_
  obtain ⟨_, vs, rfl, ⟨t2, rfl⟩, h3⟩ := vals_cons h2
  refine bk9 ?_; clear bk9 P9
  obtain rfl : vs = [] := List.eq_nil_of_length_eq_zero h3.1
  exact ⟨t0, t1, t2, rfl⟩
/-- six times the greatest mean of a ring's marks -/
noncomputable def bestR (y : Nat → Nat) : Nat := ring8 (mu y 0) (mu y 1) (mu y 2) (mu y 3) (mu y 4) (mu y 5) (mu y 6) (mu y 7) (mu y 8)
set_option synthInstance.maxSize 100000 in
set_option synthInstance.maxHeartbeats 800000 in
noncomputable def s_segH (d : (World × (ExcName → Option Value) × (Str → Option Value) × (Str → Option Value)) × (Around × Nat × Nat × (Option (List Code))) × (Addr × Value × Heap × Heap) × (Addr × (Str → Option Value) × (List (Addr × Obj)) × LawCells) × (Shared × Heap × Nat × (Flow → Shared → Prop)) × ((Value → Shared → Prop) × Addr × Addr × Nat) × ((Nat → Nat) × (Nat → Nat → List Nat))) : Prop := ∀ (vs : List Value) (B : Below (d.2.1.1) (d.2.2.1.2.2.1) [] (d.2.2.1.2.2.2)) (X : (Mine.hd.heap_1 (d.1.1).params).In (d.2.2.1.2.2.2)) (TT : Top Mine.hd.view_1 (looseW Mine.hd.view_1 []) (d.1.2.1) (d.1.2.2.1) (d.1.2.2.2) (d.2.2.1.2.2.2)) (hd : (d.2.1.2.1) + 40 < recursionLimit) (hu : (d.2.1.2.2.1) + 8 * 40 < cLine) (F : Fr (d.2.2.1.2.2.2) (d.2.2.2.1.1) (d.2.2.2.2.1.2.1) (d.2.2.2.1.2.1)) (N : News (d.2.2.1.2.2.2) (d.2.2.2.1.1) (d.2.2.2.2.1.2.1) (cellLed (d.2.2.2.1.1) (d.2.2.2.1.2.2.2) ++ (d.2.2.2.1.2.2.1))) (hy : Young (d.2.2.2.1.1) (d.2.2.2.1.2.2.1)) (mL : (d.2.2.2.1.2.1) (Str.ofString "leasts") = some (.ref (d.2.2.2.2.2.1.2.1))) (cM : (d.2.2.2.1.2.2.2).oM.data = .cell (some (.ref (d.2.2.2.2.2.1.2.2.1)))) (hL : ((d.2.2.2.2.2.1.2.1), listOf (List.toArray vs) (d.2.2.2.2.2.1.2.2.2)) ∈ (d.2.2.2.1.2.2.1)) (hvs : ValsF vs 3 (fun r v => ∃ t, v = .int (lsv (d.2.2.2.2.2.2.1) (d.2.2.2.2.2.2.2) r) t)) (hM : Marks (d.2.2.2.1.2.2.1) (d.2.2.2.2.2.1.2.2.1) (d.2.2.2.2.2.2.1)) (hkept : Kept (d.2.2.2.2.2.2.1) (d.2.2.2.2.2.2.2) 3) (karp : max (max (lsv (d.2.2.2.2.2.2.1) (d.2.2.2.2.2.2.2) 0) (lsv (d.2.2.2.2.2.2.1) (d.2.2.2.2.2.2.2) 1)) (lsv (d.2.2.2.2.2.2.1) (d.2.2.2.2.2.2.2) 2) = (bestR (d.2.2.2.2.2.2.1) : Int)) (ret : ∀ h' tk' m' tR tS, 0 < tk' → Fr (d.2.2.1.2.2.2) (d.2.2.2.1.1) h' m' → News (d.2.2.1.2.2.2) (d.2.2.2.1.1) h' (cellLed (d.2.2.2.1.1) (d.2.2.2.1.2.2.2) ++ (d.2.2.2.1.2.2.1)) → (∀ z, z ≠ Str.ofString "rate" → z ≠ Str.ofString "start" → m' z = (d.2.2.2.1.2.1) z) → m' (Str.ofString "rate") = some (.int (bestR (d.2.2.2.2.2.2.1) : Int) tR) → m' (Str.ofString "start") = some (.int ((3 : Nat) : Int) tS) → (d.2.2.2.2.1.2.2.2) .next { (d.2.2.2.2.1.1) with heap := h', toks := tk' }), wpAny (model PySem.Challenge.rw_zo0012_01.row.prog (d.1.1)) (lawA (d.1.1).params (d.2.1.2.1) (d.2.1.2.2.1) (d.2.1.2.2.2) (d.2.2.2.1.1) (d.2.2.1.1) (d.2.2.1.2.1)) (execs (((lawB (d.1.1).params).drop 14).take 3) (lawEnv (d.1.1).params (d.2.2.2.1.1) (d.2.2.1.1) (d.2.2.1.2.1))) (d.2.2.2.2.1.2.2.2) (d.2.2.2.2.2.1.1) { (d.2.2.2.2.1.1) with heap := (d.2.2.2.2.1.2.1), toks := (d.2.2.2.2.1.2.2.1) }
set_option synthInstance.maxSize 100000 in
set_option synthInstance.maxHeartbeats 800000 in
@[irreducible] noncomputable def k_segH : (World × (ExcName → Option Value) × (Str → Option Value) × (Str → Option Value)) × (Around × Nat × Nat × (Option (List Code))) × (Addr × Value × Heap × Heap) × (Addr × (Str → Option Value) × (List (Addr × Obj)) × LawCells) × (Shared × Heap × Nat × (Flow → Shared → Prop)) × ((Value → Shared → Prop) × Addr × Addr × Nat) × ((Nat → Nat) × (Nat → Nat → List Nat)) := pick (by haveI := ne_World; haveI := ne_Around; haveI := ne_Shared; haveI := ne_Cells; exact inferInstance) s_segH
theorem segH_c : s_segH k_segH := by
  delta s_segH
  intro vs B X TT hd hu F N hy mL cM hL hvs hM hkept karp ret
  walk_at "m:fill"
  simp only [cellLed, List.cons_append, List.nil_append] at N
  have F0 := Mine.Fr.know F mL
  refine Mine.by_op fun P9 bk9 => ?_
  obtain ⟨t0, t1, t2, rfl⟩ := vals3 hvs
  refine bk9 ?_; clear bk9 P9
  refine Mine.by_op fun P9 bk9 => ?_
  obtain ⟨mvs, nM, hMm, hMv⟩ := hM
  refine bk9 ?_; clear bk9 P9
  refine Mine.by_op fun P9 bk9 => ?_
  obtain ⟨q0, q1, q2, q3, q4, q5, q6, q7, q8, rfl⟩ := ints9 hMv
  refine bk9 ?_; clear bk9 P9
  have lb : ∀ r, r < 3 → 0 ≤ lsv (k_segH.2.2.2.2.2.2.1) (k_segH.2.2.2.2.2.2.2) r ∧ lsv (k_segH.2.2.2.2.2.2.1) (k_segH.2.2.2.2.2.2.2) r < 600 := fun r hr => by
    refine Mine.by_op fun P9 bk9 => ?_
    obtain ⟨p0, p1, p2⟩ := three_bd hkept hr
    refine bk9 ?_; clear bk9 P9
    unfold lsv
    omega
  have b0 := lb 0 (by decide)
  have b1 := lb 1 (by decide)
  have b2 := lb 2 (by decide)
  clear F
  (try dsimp only [lawS, lawEnv, lawA, lawParts] at B)
  walk_at "m:body"
  k_with "xG20:call ref" => (first
    | ((with_reducible show wpAny _ _ (call (Value.ref 110) _) _ _ _); k_dflt (refine' gives_use (mostI (k_segH.1.1) (lsv (k_segH.2.2.2.2.2.2.1) (k_segH.2.2.2.2.2.2.2) 0) (lsv (k_segH.2.2.2.2.2.2.1) (k_segH.2.2.2.2.2.2.2) 1) (lsv (k_segH.2.2.2.2.2.2.1) (k_segH.2.2.2.2.2.2.2) 2)) ?zzk1 ?zzk2 ?zzk3 ?zzk4 ?zzk5 ?zzk6 ?zzk7 ?zzk8 ?zzk9 ?_; walk_at "m:give"; (case zzk7 => exact ⟨b0.1, b1.1, b2.1, b0.2, b1.2, b2.2, (k_segH.2.2.2.2.2.1.2.1), t0, t1, t2, _, rfl, by walk_at "m:mem"⟩)); intro r9 add9 h9 tk9 F9 N9 lt9 out9; refine Mine.by_op fun P9 bk9 => ?_; obtain ⟨ha9, t9, hr9⟩ := out9; refine bk9 ?_; clear bk9 P9; rw [karp] at hr9; subst hr9; subst ha9; simp only [List.nil_append] at N9; (try dsimp only); (try k_fold))
    | ((with_reducible show wpAny _ _ (call (Value.ref 124) _) _ _ _); k_dflt (refine' gives_use (bring (k_segH.1.1) (mu (k_segH.2.2.2.2.2.2.1) 0) (mu (k_segH.2.2.2.2.2.2.1) 1) (mu (k_segH.2.2.2.2.2.2.1) 2) (mu (k_segH.2.2.2.2.2.2.1) 3) (mu (k_segH.2.2.2.2.2.2.1) 4) (mu (k_segH.2.2.2.2.2.2.1) 5) (mu (k_segH.2.2.2.2.2.2.1) 6) (mu (k_segH.2.2.2.2.2.2.1) 7) (mu (k_segH.2.2.2.2.2.2.1) 8)) ?zzk1 ?zzk2 ?zzk3 ?zzk4 ?zzk5 ?zzk6 ?zzk7 ?zzk8 ?zzk9 ?_; walk_at "m:give"; (case zzk7 => exact ⟨(k_segH.2.2.2.2.2.1.2.2.1), _, q0, q1, q2, q3, q4, q5, q6, q7, q8, rfl, by walk_at "m:mem"⟩)); refine Mine.ret_nil ?_; intro t9 h9 tk9 F9 N9; (try dsimp only); (try k_fold)))
  k_steps
  · exfalso
    (walk_at "m:hide"; rename_i hne; walk_at "m:bare")
    exact hne rfl
  · (walk_at "m:hide"; rename_i h8 F8 N8; walk_at "m:bare")
    refine ret _ _ _ _ _ (by first | exact Nat.succ_pos _ | omega | (dsimp only; exact Nat.succ_pos _)) F8 N8 (fun z z1 z2 => ?_) rfl rfl
    (try dsimp only)
    rw [if_neg z2, if_neg z1]
    exact know_ite mL (fun _ => rfl) z
theorem segH (w : World) {mean : ExcName → Option Value} {mg mb : Str → Option Value} {A₀ : Around} {dp un : Nat} {gd : Option (List Code)} {fa : Addr} {cd : Value} {base g : Heap} {L : Addr} {m : Str → Option Value} {T : List (Addr × Obj)} {c : LawCells} {s : Shared} {h : Heap} {tk : Nat} {Q : Flow → Shared → Prop} {E : Value → Shared → Prop}
    (B : Below A₀ base [] g) (X : (Mine.hd.heap_1 w.params).In g) (TT : Top Mine.hd.view_1 (looseW Mine.hd.view_1 []) mean mg mb g) (hd : dp + 40 < recursionLimit) (hu : un + 8 * 40 < cLine)
    (F : Fr g L h m) (N : News g L h (cellLed L c ++ T)) (hy : Young L T)
    {aL aM : Addr} {nL : Nat} {vs : List Value} {y : Nat → Nat} {ws : Nat → Nat → List Nat}
    (mL : m (Str.ofString "leasts") = some (.ref aL)) (cM : c.oM.data = .cell (some (.ref aM))) (hL : (aL, listOf (List.toArray vs) nL) ∈ T) (hvs : ValsF vs 3 (fun r v => ∃ t, v = .int (lsv y ws r) t)) (hM : Marks T aM y) (hkept : Kept y ws 3)
    (karp : max (max (lsv y ws 0) (lsv y ws 1)) (lsv y ws 2) = (bestR y : Int))
    (ret : ∀ h' tk' m' tR tS, 0 < tk' → Fr g L h' m' → News g L h' (cellLed L c ++ T) → (∀ z, z ≠ Str.ofString "rate" → z ≠ Str.ofString "start" → m' z = m z) → m' (Str.ofString "rate") = some (.int (bestR y : Int) tR) → m' (Str.ofString "start") = some (.int ((3 : Nat) : Int) tS) → Q .next { s with heap := h', toks := tk' }) : wpAny (model PySem.Challenge.rw_zo0012_01.row.prog w) (lawA w.params dp un gd L fa cd) (execs (((lawB w.params).drop 14).take 3) (lawEnv w.params L fa cd)) Q E { s with heap := h, toks := tk } :=
  pick_all k_segH.eq_1 segH_c ((w, mean, mg, mb), (A₀, dp, un, gd), (fa, cd, base, g), (L, m, T, c), (s, h, tk, Q), (E, aL, aM, nL), (y, ws)) vs B X TT hd hu F N hy mL cM hL hvs hM hkept karp ret
end
-- P2
section
theorem three {u : Nat} (h : u < 3) : u = 0 ∨ u = 1 ∨ u = 2 := three_cases h
set_option genSizeOf false in
set_option genInjectivity false in
/-- the marks of the best walk of k doors to each room -/
structure Grows (μ : Nat → Nat) (D : Nat → Nat → Nat) : Prop where
  zero : ∀ r, D 0 r = 0
  step : ∀ k, k < 3 → ∀ r, r < 3 → D (k + 1) r = max (max (μ r + D k 0) (μ (3 + r) + D k 1)) (μ (6 + r) + D k 2)
noncomputable def RR (μ : Nat → Nat) : Nat := ring8 (μ 0) (μ 1) (μ 2) (μ 3) (μ 4) (μ 5) (μ 6) (μ 7) (μ 8)
section
variable {μ : Nat → Nat} {D : Nat → Nat → Nat}
theorem Grows.ge (g : Grows μ D) {k r u : Nat} (hk : k < 3) (hr : r < 3) (hu : u < 3) : μ (3 * u + r) + D k u ≤ D (k + 1) r := by
  rw [g.step k hk r hr]
  rcases three hu with rfl | rfl | rfl
  · rw [show 3 * 0 + r = r by lia]; exact max3_ge1 _ _ _
  · rw [show 3 * 1 + r = 3 + r by lia]; exact max3_ge2 _ _ _
  · rw [show 3 * 2 + r = 6 + r by lia]; exact max3_ge3 _ _ _
theorem Grows.ge1 (g : Grows μ D) {u r : Nat} (hr : r < 3) (hu : u < 3) : μ (3 * u + r) ≤ D 1 r := by
  have := g.ge (k := 0) (by decide) hr hu
  rw [g.zero u] at this
  exact this
theorem Grows.ge2 (g : Grows μ D) {u v r : Nat} (hr : r < 3) (hu : u < 3) (hv : v < 3) : μ (3 * u + v) + μ (3 * v + r) ≤ D 2 r := by
  exact Nat.le_trans (Nat.le_of_eq (Nat.add_comm _ _)) (Nat.le_trans (Nat.add_le_add_left (g.ge1 hv hu) _) (g.ge (k := 1) (by decide) hr hv))
theorem rr_all (μ : Nat → Nat) : 6 * μ 0 ≤ RR μ ∧ 6 * μ 4 ≤ RR μ ∧ 6 * μ 8 ≤ RR μ ∧ 3 * (μ 1 + μ 3) ≤ RR μ ∧ 3 * (μ 2 + μ 6) ≤ RR μ ∧ 3 * (μ 5 + μ 7) ≤ RR μ ∧ 2 * (μ 1 + μ 5 + μ 6) ≤ RR μ ∧ 2 * (μ 2 + μ 7 + μ 3) ≤ RR μ := max8_all _ _ _ _ _ _ _ _
theorem rr_some (μ : Nat → Nat) : RR μ = 6 * μ 0 ∨ RR μ = 6 * μ 4 ∨ RR μ = 6 * μ 8 ∨ RR μ = 3 * (μ 1 + μ 3) ∨ RR μ = 3 * (μ 2 + μ 6) ∨ RR μ = 3 * (μ 5 + μ 7) ∨ RR μ = 2 * (μ 1 + μ 5 + μ 6) ∨ RR μ = 2 * (μ 2 + μ 7 + μ 3) := max8_some _ _ _ _ _ _ _ _
theorem rot2 {a b R : Nat} (h : 3 * (a + b) ≤ R) : 3 * (b + a) ≤ R := by rw [Nat.add_comm]; exact h
theorem dup2 {a R : Nat} (h : 6 * a ≤ R) : 3 * (a + a) ≤ R := by lia
theorem dup3 {a R : Nat} (h : 6 * a ≤ R) : 2 * (a + a + a) ≤ R := by lia
theorem rot3 {a b c R : Nat} (h : 2 * (a + b + c) ≤ R) : 2 * (b + c + a) ≤ R := by lia
theorem two3 {a b c R : Nat} (h : 6 * a ≤ R) (h' : 3 * (b + c) ≤ R) : 2 * (a + b + c) ≤ R := by lia
theorem ring1 (μ : Nat → Nat) {u : Nat} (hu : u < 3) : 6 * μ (3 * u + u) ≤ RR μ := by
  obtain ⟨h0, h4, h8, _⟩ := rr_all μ
  rcases three hu with rfl | rfl | rfl <;> assumption
theorem ring2 (μ : Nat → Nat) {u v : Nat} (hu : u < 3) (hv : v < 3) : 3 * (μ (3 * u + v) + μ (3 * v + u)) ≤ RR μ := by
  obtain ⟨h0, h4, h8, h13, h26, h57, _⟩ := rr_all μ
  rcases three hu with rfl | rfl | rfl <;> rcases three hv with rfl | rfl | rfl <;> first | exact dup2 h0 | exact dup2 h4 | exact dup2 h8 | exact h13 | exact h26 | exact h57 | exact rot2 h13 | exact rot2 h26 | exact rot2 h57
theorem ring3 (μ : Nat → Nat) {u v x : Nat} (hu : u < 3) (hv : v < 3) (hx : x < 3) : 2 * (μ (3 * u + v) + μ (3 * v + x) + μ (3 * x + u)) ≤ RR μ := by
  by_cases e1 : u = v
  · subst e1; exact two3 (ring1 μ hu) (ring2 μ hu hx)
  by_cases e2 : v = x
  · subst e2; exact rot3 (rot3 (two3 (ring1 μ hv) (ring2 μ hv hu)))
  by_cases e3 : u = x
  · subst e3; exact rot3 (two3 (ring1 μ hu) (ring2 μ hu hv))
  obtain ⟨_, _, _, _, _, _, h156, h273⟩ := rr_all μ
  rcases three hu with rfl | rfl | rfl <;> rcases three hv with rfl | rfl | rfl <;> rcases three hx with rfl | rfl | rfl <;> first | exact absurd rfl e1 | exact absurd rfl e2 | exact absurd rfl e3 | exact h156 | exact rot3 h156 | exact rot3 (rot3 h156) | exact h273 | exact rot3 h273 | exact rot3 (rot3 h273)
/-- what a walk of three doors has more than a shorter one: by a ring in it -/
theorem cut (g : Grows μ D) {a b c d : Nat} (ha : a < 3) (hb : b < 3) (hc : c < 3) (hd : d < 3) :
    (a = b → μ (3 * b + c) + μ (3 * c + d) ≤ D 2 d) ∧ (b = c → μ (3 * a + b) + μ (3 * c + d) ≤ D 2 d) ∧ (c = d → μ (3 * a + b) + μ (3 * b + c) ≤ D 2 d) ∧
    (a = c → μ (3 * c + d) ≤ D 1 d) ∧ (b = d → μ (3 * a + b) ≤ D 1 d) := by
  refine ⟨fun _ => g.ge2 hd hb hc, fun h => ?_, fun h => ?_, fun _ => g.ge1 hd hc, fun h => ?_⟩
  · subst h; exact g.ge2 hd ha hb
  · subst h; exact g.ge2 hc ha hb
  · subst h; exact g.ge1 hb ha
theorem up1 {z x y E d R : Nat} (e : E = z + x + y) (c : x + y ≤ d) (r : 6 * z ≤ R) : 6 * E ≤ R + 6 * d := by lia
theorem up2 {z x y E d R : Nat} (e : E = x + z + y) (c : x + y ≤ d) (r : 6 * z ≤ R) : 6 * E ≤ R + 6 * d := by lia
theorem up3 {z x y E d R : Nat} (e : E = x + y + z) (c : x + y ≤ d) (r : 6 * z ≤ R) : 6 * E ≤ R + 6 * d := by lia
theorem up4 {z x y E d R : Nat} (e : E = z + x + y) (c : y ≤ d) (r : 3 * (z + x) ≤ R) : 3 * E ≤ R + 3 * d := by lia
theorem up5 {z x y E d R : Nat} (e : E = y + z + x) (c : y ≤ d) (r : 3 * (z + x) ≤ R) : 3 * E ≤ R + 3 * d := by lia
theorem last3_all : ∀ a b c d : Fin 3, ¬a = b → ¬b = c → ¬c = d → ¬a = c → ¬b = d → a = d := by decide +kernel
theorem last3 {a b c d : Nat} (ha : a < 3) (hb : b < 3) (hc : c < 3) (hd : d < 3) (h1 : ¬a = b) (h2 : ¬b = c) (h3 : ¬c = d) (h4 : ¬a = c) (h5 : ¬b = d) : a = d :=
  congrArg Fin.val (last3_all ⟨a, ha⟩ ⟨b, hb⟩ ⟨c, hc⟩ ⟨d, hd⟩ (fun e => h1 (congrArg Fin.val e)) (fun e => h2 (congrArg Fin.val e)) (fun e => h3 (congrArg Fin.val e)) (fun e => h4 (congrArg Fin.val e)) (fun e => h5 (congrArg Fin.val e)))
/-- 6(D3 - Dk) against the rate -/
theorem upper (g : Grows μ D) {a b c d : Nat} (ha : a < 3) (hb : b < 3) (hc : c < 3) (hd : d < 3) (e : D 3 d = μ (3 * a + b) + μ (3 * b + c) + μ (3 * c + d)) :
    2 * D 3 d ≤ RR μ ∨ 3 * D 3 d ≤ RR μ + 3 * D 1 d ∨ 6 * D 3 d ≤ RR μ + 6 * D 2 d := by
  obtain ⟨c1, c2, c3, c4, c5⟩ := cut g ha hb hc hd
  by_cases h1 : a = b
  · have := c1 h1; subst h1; exact .inr (.inr (up1 e this (ring1 μ ha)))
  by_cases h2 : b = c
  · have := c2 h2; subst h2; exact .inr (.inr (up2 e this (ring1 μ hb)))
  by_cases h3 : c = d
  · have := c3 h3; subst h3; exact .inr (.inr (up3 e this (ring1 μ hc)))
  by_cases h4 : a = c
  · have := c4 h4; subst h4; exact .inr (.inl (up4 e this (ring2 μ ha hb)))
  by_cases h5 : b = d
  · have := c5 h5; subst h5; exact .inr (.inl (up5 e this (ring2 μ hb hc)))
  · have h6 : a = d := last3 ha hb hc hd h1 h2 h3 h4 h5
    subst h6
    exact .inl (e ▸ ring3 μ ha hb hc)
end
end
-- P3
section
section
variable {μ : Nat → Nat} {D : Nat → Nat → Nat}
/-- six times the marks beyond the rate -/
noncomputable def X (μ : Nat → Nat) (D : Nat → Nat → Nat) (k r : Nat) : Int := 6 * (D k r : Int) - (k : Int) * RR μ
noncomputable def ar (μ : Nat → Nat) (u r : Nat) : Int := 6 * (μ (3 * u + r) : Int) - RR μ
noncomputable def pot (μ : Nat → Nat) (D : Nat → Nat → Nat) (r : Nat) : Int := max (max (X μ D 0 r) (X μ D 1 r)) (X μ D 2 r)
theorem xstep {a b m R k : Int} (h : m + a ≤ b) : 6 * a - k * R + (6 * m - R) ≤ 6 * b - (k + 1) * R := by rw [Int.add_mul]; lia
theorem X_step (g : Grows μ D) {k r u : Nat} (hk : k < 3) (hr : r < 3) (hu : u < 3) : X μ D k u + ar μ u r ≤ X μ D (k + 1) r := xstep (by exact_mod_cast g.ge hk hr hu)
/-- every room's best walk of three doors is a walk -/
noncomputable def Walked (μ : Nat → Nat) (D : Nat → Nat → Nat) : Prop := ∀ d, d < 3 → ∃ a b c, a < 3 ∧ b < 3 ∧ c < 3 ∧ D 3 d = μ (3 * a + b) + μ (3 * b + c) + μ (3 * c + d)
theorem xc0 {E R z : Nat} (hz : z = 0) (h : 2 * E ≤ R) : 6 * (E : Int) - ((3 : Nat) : Int) * R ≤ 6 * (z : Int) - ((0 : Nat) : Int) * R := by lia
theorem xc1 {E R d : Nat} (h : 3 * E ≤ R + 3 * d) : 6 * (E : Int) - ((3 : Nat) : Int) * R ≤ 6 * (d : Int) - ((1 : Nat) : Int) * R := by lia
theorem xc2 {E R d : Nat} (h : 6 * E ≤ R + 6 * d) : 6 * (E : Int) - ((3 : Nat) : Int) * R ≤ 6 * (d : Int) - ((2 : Nat) : Int) * R := by lia
theorem X_close (g : Grows μ D) (hw : Walked μ D) {r : Nat} (hr : r < 3) : X μ D 3 r ≤ pot μ D r := by
  obtain ⟨a, b, c, ha, hb, hc, e⟩ := hw r hr
  rcases upper g ha hb hc hr e with h | h | h
  · exact Int.le_trans (xc0 (g.zero r) h) (imax3_ge1 _ _ _)
  · exact Int.le_trans (xc1 h) (imax3_ge2 _ _ _)
  · exact Int.le_trans (xc2 h) (imax3_ge3 _ _ _)
theorem pot_some (r : Nat) : pot μ D r = X μ D 0 r ∨ pot μ D r = X μ D 1 r ∨ pot μ D r = X μ D 2 r := imax3_some _ _ _
theorem pot_step (g : Grows μ D) (hw : Walked μ D) {r u : Nat} (hr : r < 3) (hu : u < 3) : pot μ D u + ar μ u r ≤ pot μ D r := by
  rcases pot_some (μ := μ) (D := D) u with q | q | q
  · rw [q]; exact Int.le_trans (X_step g (k := 0) (by decide) hr hu) (imax3_ge2 _ _ _)
  · rw [q]; exact Int.le_trans (X_step g (k := 1) (by decide) hr hu) (imax3_ge3 _ _ _)
  · rw [q]; exact Int.le_trans (X_step g (k := 2) (by decide) hr hu) (X_close g hw hr)
/-- along a ring of weight nought some room's potential is that of three doors -/
theorem lower1 (g : Grows μ D) {u : Nat} (hu : u < 3) (h : ar μ u u = 0) : pot μ D u ≤ X μ D 3 u := by
  have s : ∀ k, k < 3 → X μ D k u ≤ X μ D (k + 1) u := fun k hk => by
    have := X_step g hk hu hu
    rwa [h, Int.add_zero] at this
  have h2 := s 2 (by decide)
  have h1 := Int.le_trans (s 1 (by decide)) h2
  exact imax3_le (Int.le_trans (s 0 (by decide)) h1) h1 h2
theorem l2a {x y z t p q a b : Int} (h : a + b = 0) (e : p = x) (h1 : x + a ≤ y) (h2 : y + b ≤ z) (h3 : z + a ≤ t) (h4 : q + b ≤ p) : q ≤ t := by lia
theorem l2b {x y z p a b : Int} (h : a + b = 0) (e : p = x) (h1 : x + a ≤ y) (h2 : y + b ≤ z) : p ≤ z := by lia
theorem l2c {x t p q a b : Int} (h : a + b = 0) (e : p = x) (h1 : x + a ≤ t) (h4 : q + b ≤ p) : q ≤ t := by lia
theorem lower2 (g : Grows μ D) (hw : Walked μ D) {u v : Nat} (hu : u < 3) (hv : v < 3) (h : ar μ u v + ar μ v u = 0) : pot μ D u ≤ X μ D 3 u ∨ pot μ D v ≤ X μ D 3 v := by
  rcases pot_some (μ := μ) (D := D) u with q | q | q
  · exact .inr (l2a h q (X_step g (k := 0) (by decide) hv hu) (X_step g (k := 1) (by decide) hu hv) (X_step g (k := 2) (by decide) hv hu) (pot_step g hw hu hv))
  · exact .inl (l2b h q (X_step g (k := 1) (by decide) hv hu) (X_step g (k := 2) (by decide) hu hv))
  · exact .inr (l2c h q (X_step g (k := 2) (by decide) hv hu) (pot_step g hw hu hv))
theorem l3a {x y z t p a b c : Int} (h : a + b + c = 0) (e : p = x) (h1 : x + a ≤ y) (h2 : y + b ≤ z) (h3 : z + c ≤ t) : p ≤ t := by lia
theorem l3b {x y z p q a b c : Int} (h : a + b + c = 0) (e : p = x) (h1 : x + a ≤ y) (h2 : y + b ≤ z) (h3 : q + c ≤ p) : q ≤ z := by lia
theorem l3c {x y p q t a b c : Int} (h : a + b + c = 0) (e : p = x) (h1 : x + a ≤ y) (h2 : t + b ≤ q) (h3 : q + c ≤ p) : t ≤ y := by lia
theorem lower3 (g : Grows μ D) (hw : Walked μ D) {u v x : Nat} (hu : u < 3) (hv : v < 3) (hx : x < 3) (h : ar μ u v + ar μ v x + ar μ x u = 0) : pot μ D u ≤ X μ D 3 u ∨ pot μ D v ≤ X μ D 3 v ∨ pot μ D x ≤ X μ D 3 x := by
  rcases pot_some (μ := μ) (D := D) u with q | q | q
  · exact .inl (l3a h q (X_step g (k := 0) (by decide) hv hu) (X_step g (k := 1) (by decide) hx hv) (X_step g (k := 2) (by decide) hu hx))
  · exact .inr (.inr (l3b h q (X_step g (k := 1) (by decide) hv hu) (X_step g (k := 2) (by decide) hx hv) (pot_step g hw hu hx)))
  · exact .inr (.inl (l3c h q (X_step g (k := 2) (by decide) hv hu) (pot_step g hw hx hv) (pot_step g hw hu hx)))
theorem ar1 {a R : Nat} (e : R = 6 * a) : 6 * (a : Int) - R = 0 := by lia
theorem ar2 {a b R : Nat} (e : R = 3 * (a + b)) : 6 * (a : Int) - R + (6 * (b : Int) - R) = 0 := by lia
theorem ar3 {a b c R : Nat} (e : R = 2 * (a + b + c)) : 6 * (a : Int) - R + (6 * (b : Int) - R) + (6 * (c : Int) - R) = 0 := by lia
theorem lower (g : Grows μ D) (hw : Walked μ D) : ∃ r, r < 3 ∧ pot μ D r ≤ X μ D 3 r := by
  have h1 : ∀ u, u < 3 → RR μ = 6 * μ (3 * u + u) → ∃ r, r < 3 ∧ pot μ D r ≤ X μ D 3 r := fun u hu e => ⟨u, hu, lower1 g hu (ar1 e)⟩
  have h2 : ∀ u v, u < 3 → v < 3 → RR μ = 3 * (μ (3 * u + v) + μ (3 * v + u)) → ∃ r, r < 3 ∧ pot μ D r ≤ X μ D 3 r := fun u v hu hv e => by
    rcases lower2 g hw hu hv (ar2 e) with q | q
    · exact ⟨u, hu, q⟩
    · exact ⟨v, hv, q⟩
  have h3 : ∀ u v x, u < 3 → v < 3 → x < 3 → RR μ = 2 * (μ (3 * u + v) + μ (3 * v + x) + μ (3 * x + u)) → ∃ r, r < 3 ∧ pot μ D r ≤ X μ D 3 r := fun u v x hu hv hx e => by
    rcases lower3 g hw hu hv hx (ar3 e) with q | q | q
    · exact ⟨u, hu, q⟩
    · exact ⟨v, hv, q⟩
    · exact ⟨x, hx, q⟩
  rcases rr_some μ with e | e | e | e | e | e | e | e
  · exact h1 0 (by decide) e
  · exact h1 1 (by decide) e
  · exact h1 2 (by decide) e
  · exact h2 0 1 (by decide) (by decide) e
  · exact h2 0 2 (by decide) (by decide) e
  · exact h2 1 2 (by decide) (by decide) e
  · exact h3 0 1 2 (by decide) (by decide) (by decide) e
  · exact h3 0 2 1 (by decide) (by decide) (by decide) e
noncomputable def ls (D : Nat → Nat → Nat) (r : Nat) : Int := min (min (2 * ((D 3 r : Int) - D 0 r)) (3 * ((D 3 r : Int) - D 1 r))) (6 * ((D 3 r : Int) - D 2 r))
theorem ll0 {E R z : Nat} (hz : z = 0) (h : 2 * E ≤ R) : 2 * ((E : Int) - z) ≤ R := by lia
theorem ll1 {E R d : Nat} (h : 3 * E ≤ R + 3 * d) : 3 * ((E : Int) - d) ≤ R := by lia
theorem ll2 {E R d : Nat} (h : 6 * E ≤ R + 6 * d) : 6 * ((E : Int) - d) ≤ R := by lia
theorem ls_le (g : Grows μ D) (hw : Walked μ D) {r : Nat} (hr : r < 3) : ls D r ≤ RR μ := by
  obtain ⟨a, b, c, ha, hb, hc, e⟩ := hw r hr
  rcases upper g ha hb hc hr e with h | h | h
  · exact Int.le_trans (imin3_le1 _ _ _) (ll0 (g.zero r) h)
  · exact Int.le_trans (imin3_le2 _ _ _) (ll1 h)
  · exact Int.le_trans (imin3_le3 _ _ _) (ll2 h)
theorem kk0 {E R z : Nat} (hz : z = 0) (h : 6 * (z : Int) - ((0 : Nat) : Int) * R ≤ 6 * (E : Int) - ((3 : Nat) : Int) * R) : (R : Int) ≤ 2 * ((E : Int) - z) := by lia
theorem kk1 {E R d : Nat} (h : 6 * (d : Int) - ((1 : Nat) : Int) * R ≤ 6 * (E : Int) - ((3 : Nat) : Int) * R) : (R : Int) ≤ 3 * ((E : Int) - d) := by lia
theorem kk2 {E R d : Nat} (h : 6 * (d : Int) - ((2 : Nat) : Int) * R ≤ 6 * (E : Int) - ((3 : Nat) : Int) * R) : (R : Int) ≤ 6 * ((E : Int) - d) := by lia
/-- Karp's rate, three rooms -/
theorem karp (g : Grows μ D) (hw : Walked μ D) : max (max (ls D 0) (ls D 1)) (ls D 2) = (RR μ : Int) := by
  obtain ⟨r, hr, h⟩ := lower g hw
  have : (RR μ : Int) ≤ ls D r := le_imin3 (kk0 (g.zero r) (Int.le_trans (imax3_ge1 _ _ _) h)) (kk1 (Int.le_trans (imax3_ge2 _ _ _) h)) (kk2 (Int.le_trans (imax3_ge3 _ _ _) h))
  refine imax3_of (ls_le g hw (by decide)) (ls_le g hw (by decide)) (ls_le g hw (by decide)) ?_
  rcases three hr with rfl | rfl | rfl
  · exact .inl this
  · exact .inr (.inl this)
  · exact .inr (.inr this)
theorem q1 {m x y E d R : Nat} (e : E = m + x + y) (c : x + y ≤ d) (r : 6 * m ≤ R) (l : (R : Int) ≤ 6 * ((E : Int) - d)) : 6 * m = R := by lia
theorem q2 {m x y E d R : Nat} (e : E = x + m + y) (c : x + y ≤ d) (r : 6 * m ≤ R) (l : (R : Int) ≤ 6 * ((E : Int) - d)) : 6 * m = R := by lia
theorem q3 {m x y E d R : Nat} (e : E = x + y + m) (c : x + y ≤ d) (r : 6 * m ≤ R) (l : (R : Int) ≤ 6 * ((E : Int) - d)) : 6 * m = R := by lia
theorem q4 {m n y E d R : Nat} (e : E = m + n + y) (c : y ≤ d) (r : 3 * (m + n) ≤ R) (l : (R : Int) ≤ 3 * ((E : Int) - d)) : 6 * (m + n) = 2 * R := by lia
theorem q5 {m n y E d R : Nat} (e : E = y + m + n) (c : y ≤ d) (r : 3 * (m + n) ≤ R) (l : (R : Int) ≤ 3 * ((E : Int) - d)) : 6 * (m + n) = 2 * R := by lia
theorem q6 {m n k E z R : Nat} (e : E = m + n + k) (hz : z = 0) (r : 2 * (m + n + k) ≤ R) (l : (R : Int) ≤ 2 * ((E : Int) - z)) : 6 * (m + n + k) = 3 * R := by lia
/-- where a room's least is the rate each stretch of its walk that comes back has it -/
theorem ring_rate (g : Grows μ D) {a b c d : Nat} (ha : a < 3) (hb : b < 3) (hc : c < 3) (hd : d < 3) (e : D 3 d = μ (3 * a + b) + μ (3 * b + c) + μ (3 * c + d)) (h : ls D d = RR μ) :
    (a = b → 6 * μ (3 * a + b) = RR μ) ∧ (b = c → 6 * μ (3 * b + c) = RR μ) ∧ (c = d → 6 * μ (3 * c + d) = RR μ) ∧ (a = c → 6 * (μ (3 * a + b) + μ (3 * b + c)) = 2 * RR μ) ∧ (b = d → 6 * (μ (3 * b + c) + μ (3 * c + d)) = 2 * RR μ) ∧
      (a = d → 6 * (μ (3 * a + b) + μ (3 * b + c) + μ (3 * c + d)) = 3 * RR μ) := by
  obtain ⟨c1, c2, c3, c4, c5⟩ := cut g ha hb hc hd
  have l1 : (RR μ : Int) ≤ _ := Int.le_trans (Int.le_of_eq h.symm) (imin3_le1 _ _ _)
  have l2 : (RR μ : Int) ≤ _ := Int.le_trans (Int.le_of_eq h.symm) (imin3_le2 _ _ _)
  have l3 : (RR μ : Int) ≤ _ := Int.le_trans (Int.le_of_eq h.symm) (imin3_le3 _ _ _)
  refine ⟨fun q => ?_, fun q => ?_, fun q => ?_, fun q => ?_, fun q => ?_, fun q => ?_⟩
  · have := c1 q; subst q; exact q1 e this (ring1 μ ha) l3
  · have := c2 q; subst q; exact q2 e this (ring1 μ hb) l3
  · have := c3 q; subst q; exact q3 e this (ring1 μ hc) l3
  · have := c4 q; subst q; exact q4 e this (ring2 μ ha hb) l2
  · have := c5 q; subst q; exact q5 e this (ring2 μ hb hc) l2
  · subst q; exact q6 e (g.zero a) (ring3 μ ha hb hc) l1
end
end
-- P4
section
section
variable {μ : Nat → Nat}
/-- a price, beyond 256 -/
noncomputable def pq (μ : Nat → Nat) (st r : Nat) : Int := ppr μ st (RR μ) r - 256
theorem pa1 {m R : Nat} {x : Int} (h : 256 + 6 * (m : Int) - R ≤ x) : 6 * (m : Int) - R ≤ x - 256 := by lia
theorem pa2 {m n R : Nat} {t x : Int} (h : (m : Int) + n ≤ t) (h' : 256 + 6 * t - 2 * (R : Int) ≤ x) : 6 * (m : Int) - R + (6 * (n : Int) - R) ≤ x - 256 := by lia
theorem pe1 {m R : Nat} {x : Int} (h : x = 256 + 6 * (m : Int) - R) : x - 256 = 6 * (m : Int) - R := by lia
theorem pe2 {m n R : Nat} {t x : Int} (h : t = (m : Int) + n) (h' : x = 256 + 6 * t - 2 * (R : Int)) : x - 256 = 6 * (m : Int) - R + (6 * (n : Int) - R) := by lia
theorem ptw_ge (μ : Nat → Nat) (st r : Nat) {v : Nat} (hv : v < 3) : (μ (3 * st + v) : Int) + μ (3 * v + r) ≤ ptw μ st r := by
  rcases three hv with rfl | rfl | rfl
  · rw [show 3 * 0 + r = r by lia]; exact imax3_ge1 _ _ _
  · rw [show 3 * 1 + r = 3 + r by lia]; exact imax3_ge2 _ _ _
  · rw [show 3 * 2 + r = 6 + r by lia]; exact imax3_ge3 _ _ _
theorem ptw_some (μ : Nat → Nat) (st r : Nat) : ∃ v, v < 3 ∧ ptw μ st r = (μ (3 * st + v) : Int) + μ (3 * v + r) := by
  rcases imax3_some ((μ (3 * st) : Int) + μ r) ((μ (3 * st + 1) : Int) + μ (3 + r)) ((μ (3 * st + 2) : Int) + μ (6 + r)) with q | q | q
  · exact ⟨0, by decide, by rw [show 3 * 0 + r = r by lia]; exact q⟩
  · exact ⟨1, by decide, by rw [show 3 * 1 + r = 3 + r by lia]; exact q⟩
  · exact ⟨2, by decide, by rw [show 3 * 2 + r = 6 + r by lia]; exact q⟩
theorem pq_ge1 (μ : Nat → Nat) (st r : Nat) : ar μ st r ≤ pq μ st r := pa1 (Int.le_trans (Int.le_max_right _ _) (Int.le_max_left _ _))
theorem pq_ge2 (μ : Nat → Nat) (st r : Nat) {v : Nat} (hv : v < 3) : ar μ st v + ar μ v r ≤ pq μ st r := pa2 (ptw_ge μ st r hv) (Int.le_max_right _ _)
theorem pq_ge0 (μ : Nat → Nat) (st : Nat) : 0 ≤ pq μ st st := by
  have h : (if st = st then (256 : Int) else p1 μ st (RR μ) st) ≤ ppr μ st (RR μ) st := Int.le_trans (Int.le_max_left _ _) (Int.le_max_left _ _)
  rw [if_pos rfl] at h
  exact Int.sub_nonneg_of_le h
theorem pq_some (μ : Nat → Nat) (st r : Nat) : (r = st ∧ pq μ st r = 0) ∨ pq μ st r = ar μ st r ∨ ∃ v, v < 3 ∧ pq μ st r = ar μ st v + ar μ v r := by
  rcases imax3_some (if r = st then (256 : Int) else p1 μ st (RR μ) r) (p1 μ st (RR μ) r) (256 + 6 * ptw μ st r - 2 * (RR μ : Int)) with q | q | q
  · by_cases h : r = st
    · rw [if_pos h] at q; exact .inl ⟨h, by show ppr μ st (RR μ) r - 256 = 0; rw [show ppr μ st (RR μ) r = 256 by unfold ppr; rw [if_pos h]; exact q]; rfl⟩
    · rw [if_neg h] at q; exact .inr (.inl (pe1 (by unfold ppr; rw [if_neg h]; exact q)))
  · exact .inr (.inl (pe1 q))
  · obtain ⟨v, hv, e⟩ := ptw_some μ st r
    exact .inr (.inr ⟨v, hv, pe2 e q⟩)
theorem aa1 {a R : Nat} (e : 6 * a ≤ R) : 6 * (a : Int) - R ≤ 0 := by lia
theorem aa2 {a b R : Nat} (e : 3 * (a + b) ≤ R) : 6 * (a : Int) - R + (6 * (b : Int) - R) ≤ 0 := by lia
theorem aa3 {a b c R : Nat} (e : 2 * (a + b + c) ≤ R) : 6 * (a : Int) - R + (6 * (b : Int) - R) + (6 * (c : Int) - R) ≤ 0 := by lia
theorem a1 (μ : Nat → Nat) {u : Nat} (hu : u < 3) : ar μ u u ≤ 0 := aa1 (ring1 μ hu)
theorem a2 (μ : Nat → Nat) {u v : Nat} (hu : u < 3) (hv : v < 3) : ar μ u v + ar μ v u ≤ 0 := aa2 (ring2 μ hu hv)
theorem a3 (μ : Nat → Nat) {u v x : Nat} (hu : u < 3) (hv : v < 3) (hx : x < 3) : ar μ u v + ar μ v x + ar μ x u ≤ 0 := aa3 (ring3 μ hu hv hx)
theorem pq_start (μ : Nat → Nat) {st : Nat} (hs : st < 3) : pq μ st st = 0 := by
  have h0 := pq_ge0 μ st
  rcases pq_some μ st st with ⟨_, q⟩ | q | ⟨v, hv, q⟩
  · exact q
  · exact Int.le_antisymm (q ▸ a1 μ hs) h0
  · exact Int.le_antisymm (q ▸ a2 μ hs hv) h0
theorem ps1 {p a b : Int} (e : p = 0) (h : a ≤ b) : p + a ≤ b := by lia
theorem ps2 {p a b x : Int} (e : p = x) (h : x + a ≤ b) : p + a ≤ b := by lia
theorem ps3 {p x y z b : Int} (e : p = x + y) (h : x ≤ 0) (g : y + z ≤ b) : p + z ≤ b := by lia
theorem ps4 {p x y z b : Int} (e : p = x + y) (h : y ≤ 0) (g : x + z ≤ b) : p + z ≤ b := by lia
theorem ps5 {p x y z b : Int} (e : p = x + y) (h : z ≤ 0) (g : x + y ≤ b) : p + z ≤ b := by lia
theorem ps6 {p x y z b : Int} (e : p = x + y) (h : x + y ≤ 0) (g : z ≤ b) : p + z ≤ b := by lia
theorem ps7 {p x y z b : Int} (e : p = x + y) (h : y + z ≤ 0) (g : x ≤ b) : p + z ≤ b := by lia
theorem ps8 {p x y z b : Int} (e : p = x + y) (h : x + y + z ≤ 0) (g : 0 ≤ b) : p + z ≤ b := by lia
theorem pq_step (μ : Nat → Nat) {st u r : Nat} (hs : st < 3) (hu : u < 3) (hr : r < 3) : pq μ st u + ar μ u r ≤ pq μ st r := by
  have g1 := pq_ge1 μ st r
  have g2 := pq_ge2 μ st r hu
  rcases pq_some μ st u with ⟨h, q⟩ | q | ⟨v, hv, q⟩
  · subst h; exact ps1 q g1
  · exact ps2 q g2
  · have g3 := pq_ge2 μ st r hv
    by_cases e1 : st = v
    · subst e1; exact ps3 q (a1 μ hs) g2
    by_cases e2 : v = u
    · subst e2; exact ps4 q (a1 μ hv) g2
    by_cases e3 : u = r
    · subst e3; exact ps5 q (a1 μ hu) g3
    by_cases e4 : st = u
    · subst e4; exact ps6 q (a2 μ hs hv) g1
    by_cases e5 : v = r
    · subst e5; exact ps7 q (a2 μ hv hu) g1
    · have e6 : st = r := last3 hs hv hu hr e1 e2 e3 e4 e5
      subst e6
      exact ps8 q (a3 μ hs hv hu) (pq_ge0 μ st)
/-- a closed walk of the rate itself goes through st -/
noncomputable def Crit (μ : Nat → Nat) (st : Nat) : Prop := ar μ st st = 0 ∨ (∃ u, u < 3 ∧ ar μ st u + ar μ u st = 0) ∨ ∃ u v, u < 3 ∧ v < 3 ∧ ar μ st u + ar μ u v + ar μ v st = 0
theorem pq_best {st r : Nat} (hs : st < 3) (hr : r < 3) (hc : Crit μ st) : ∃ u, u < 3 ∧ pq μ st r ≤ pq μ st u + ar μ u r := by
  by_cases h : r = st
  · subst h
    rw [pq_start μ hr]
    rcases hc with q | ⟨u, hu, q⟩ | ⟨u, v, hu, hv, q⟩
    · exact ⟨r, hr, by rw [pq_start μ hr]; lia⟩
    · have := pq_ge1 μ r u
      exact ⟨u, hu, by lia⟩
    · have := pq_ge2 μ r v hu
      exact ⟨v, hv, by lia⟩
  · rcases pq_some μ st r with ⟨e, _⟩ | q | ⟨v, hv, q⟩
    · exact absurd e h
    · exact ⟨st, hs, by rw [pq_start μ hs]; lia⟩
    · have := pq_ge1 μ st v
      exact ⟨v, hv, by lia⟩
theorem ph1 {x y m R : Int} (h : x - 256 + (6 * m - R) ≤ y - 256) : x + 6 * m ≤ y + R := by lia
theorem ph2 {x y m R : Int} (h : y - 256 ≤ x - 256 + (6 * m - R)) : y + R ≤ x + 6 * m := by lia
theorem prices_hold {st : Nat} (hs : st < 3) (hc : Crit μ st) : PHold μ st (RR μ) := by
  refine ⟨?_, fun r hr => ?_⟩
  · have := pq_start μ hs
    unfold pq at this
    lia
  · have b0 := pq_step μ (st := st) (u := 0) hs (by decide) hr
    have b1 := pq_step μ (st := st) (u := 1) hs (by decide) hr
    have b2 := pq_step μ (st := st) (u := 2) hs (by decide) hr
    obtain ⟨u, hu, hb⟩ := pq_best (μ := μ) hs hr hc
    have e0 : ar μ 0 r = 6 * (μ r : Int) - RR μ := by unfold ar; rw [show 3 * 0 + r = r by lia]
    have e1 : ar μ 1 r = 6 * (μ (3 + r) : Int) - RR μ := by unfold ar; rw [show 3 * 1 + r = 3 + r by lia]
    have e2 : ar μ 2 r = 6 * (μ (6 + r) : Int) - RR μ := by unfold ar; rw [show 3 * 2 + r = 6 + r by lia]
    rw [e0] at b0
    rw [e1] at b1
    rw [e2] at b2
    refine imax3_of (ph1 b0) (ph1 b1) (ph1 b2) ?_
    rcases three hu with rfl | rfl | rfl
    · rw [e0] at hb; exact .inl (ph2 hb)
    · rw [e1] at hb; exact .inr (.inl (ph2 hb))
    · rw [e2] at hb; exact .inr (.inr (ph2 hb))
end
end
-- G21
section
local macro_rules | `(tactic| walk_at $s:str) => `(tactic| k_extra $(Lean.Syntax.mkStrLit ("xG21:" ++ s.getString)))
theorem segJ (w : World) {mean : ExcName → Option Value} {mg mb : Str → Option Value} {A₀ : Around} {dp un : Nat} {gd : Option (List Code)} {fa : Addr} {cd : Value} {base g : Heap} {L : Addr} {m : Str → Option Value} {T : List (Addr × Obj)} {c : LawCells} {s : Shared} {h : Heap} {tk : Nat} {Q : Flow → Shared → Prop} {E : Value → Shared → Prop}
    (B : Below A₀ base [] g) (X : (Mine.hd.heap_1 w.params).In g) (TT : Top Mine.hd.view_1 (looseW Mine.hd.view_1 []) mean mg mb g) (hd : dp + 40 < recursionLimit) (hu : un + 8 * 40 < cLine)
    (F : Fr g L h m) (N : News g L h (cellLed L c ++ T)) (hy : Young L T)
    {aM : Addr} {y : Nat → Nat} {st R : Nat} {tS tR : Tok}
    (mS : m (Str.ofString "start") = some (.int (st : Int) tS)) (mR : m (Str.ofString "rate") = some (.int (R : Int) tR)) (hst : st < 3) (hR : R ≤ 108) (cM : c.oM.data = .cell (some (.ref aM))) (hM : Marks T aM y)
    (hold : PHold (mu y) st R)
    (ret : ∀ h' tk', Fr g L h' m → News g L h' (cellLed L c ++ T) → Q (.ret (.bool true)) { s with heap := h', toks := tk' }) :
    wpAny (model PySem.Challenge.rw_zo0012_01.row.prog w) (lawA w.params dp un gd L fa cd) (execs ((lawB w.params).drop 18) (lawEnv w.params L fa cd)) Q E { s with heap := h, toks := tk } := by
  walk_at "m:fill"
  simp only [cellLed, List.cons_append, List.nil_append] at N
  have F0 := Mine.Fr.know2 F mS mR
  refine Mine.by_op fun P9 bk9 => ?_
  obtain ⟨mvs, nM, hMm, hMv⟩ := hM
  refine bk9 ?_; clear bk9 P9
  clear F
  (try dsimp only [lawS, lawEnv, lawA, lawParts] at B)
  walk_at "m:body"
  k_with "xG21:call ref" => ((with_reducible show wpAny _ _ (call (Value.ref 129) _) _ _ _); k_dflt (refine' gives_use (prices w (mu y) st R) ?zzk1 ?zzk2 ?zzk3 ?zzk4 ?zzk5 ?zzk6 ?zzk7 ?zzk8 ?zzk9 ?_; walk_at "m:give"; (case zzk7 => exact ⟨fun _ => mu_le, hst, hR, hold, aM, _, _, _, mvs, rfl, hMv, by walk_at "m:mem"⟩)); intro r9 add9 h9 tk9 F9 N9 lt9 out9; refine Mine.by_op fun P9 bk9 => ?_; obtain ⟨ha9, hr9⟩ := out9; refine bk9 ?_; clear bk9 P9; subst hr9; subst ha9; simp only [List.nil_append] at N9; (try dsimp only); (try k_fold))
  k_steps
  exact ret _ _ (Mine.Fr.alike F9 fun z => (know_ite mS (know_ite mR fun _ => rfl) z).symm) N9
end
-- G8
section
local macro_rules | `(tactic| walk_at $s:str) => `(tactic| k_extra $(Lean.Syntax.mkStrLit ("xG8:" ++ s.getString)))
local macro_rules | `(tactic| walk_at $s:str) => `(tactic| k_extra $(Lean.Syntax.mkStrLit ("xG8:" ++ s.getString)))
theorem setup_G8 : True := by
  k_with "xG8:CompSrc" => (refine Mine.stop ?_)
  k_with "xG8:m:hide" => (have qB' := True.intro; have qD' := True.intro; have qF' := True.intro; have qFG' := True.intro; have qL' := True.intro; have qN' := True.intro; have qT' := True.intro; have qX' := True.intro; have qY' := True.intro; have qcells' := True.intro; have qd' := True.intro; have qfF := True.intro; have qg' := True.intro; have qh' := True.intro; have qh0' := True.intro; have qh1' := True.intro; have qhc' := True.intro; have qhd' := True.intro; have qhp := True.intro; have qhv' := True.intro; have qhz := True.intro; have qhz' := True.intro; have qjk' := True.intro; have qkj' := True.intro; have ql1 := True.intro; have ql2 := True.intro; have qlo' := True.intro; have qnE' := True.intro; have qo' := True.intro; have qo1' := True.intro; have qp := True.intro; have qtj' := True.intro; have qtk' := True.intro; have qtv' := True.intro; have qtx' := True.intro; have qvv' := True.intro; have qx' := True.intro; have qzz' := True.intro)
  k_with "xG8:m:bare" => (clear qB' qD' qF' qFG' qL' qN' qT' qX' qY' qcells' qd' qfF qg' qh' qh0' qh1' qhc' qhd' qhp qhv' qhz qhz' qjk' qkj' ql1 ql2 qlo' qnE' qo' qo1' qp qtj' qtk' qtv' qtx' qvv' qx' qzz')
  trivial
noncomputable def s_segE3 (d : (World × (ExcName → Option Value) × (Str → Option Value) × (Str → Option Value)) × (Around × Nat × Nat × (Option (List Code))) × (Addr × Value × Heap × Heap) × (Addr × (Str → Option Value) × (List (Addr × Obj)) × LawCells) × (Shared × Heap × Nat × (Flow → Shared → Prop)) × ((Value → Shared → Prop))) : Prop := ∀ (B : Below (d.2.1.1) (d.2.2.1.2.2.1) [] (d.2.2.1.2.2.2)) (X : (Mine.hd.heap_1 (d.1.1).params).In (d.2.2.1.2.2.2)) (TT : Top Mine.hd.view_1 (looseW Mine.hd.view_1 []) (d.1.2.1) (d.1.2.2.1) (d.1.2.2.2) (d.2.2.1.2.2.2)) (hd : (d.2.1.2.1) + 40 < recursionLimit) (hu : (d.2.1.2.2.1) + 8 * 40 < cLine) (F : Fr (d.2.2.1.2.2.2) (d.2.2.2.1.1) (d.2.2.2.2.1.2.1) (d.2.2.2.1.2.1)) (N : News (d.2.2.1.2.2.2) (d.2.2.2.1.1) (d.2.2.2.2.1.2.1) (cellLed (d.2.2.2.1.1) (d.2.2.2.1.2.2.2) ++ (d.2.2.2.1.2.2.1))) (hy : Young (d.2.2.2.1.1) (d.2.2.2.1.2.2.1)) (ret : ∀ h' tk' aW oW, Fr (d.2.2.1.2.2.2) (d.2.2.2.1.1) h' (fun z => if z = Str.ofString "ways" then some (.ref aW) else (d.2.2.2.1.2.1) z) → News (d.2.2.1.2.2.2) (d.2.2.2.1.1) h' (cellLed (d.2.2.2.1.1) (d.2.2.2.1.2.2.2) ++ ((aW, oW) :: (d.2.2.2.1.2.2.1))) → Young (d.2.2.2.1.1) ((aW, oW) :: (d.2.2.2.1.2.2.1)) → (∀ p ∈ (d.2.2.2.1.2.2.1), p.1 ≠ aW) → Ways ((aW, oW) :: (d.2.2.2.1.2.2.1)) aW (fun r => [r]) → (d.2.2.2.2.1.2.2.2) .next { (d.2.2.2.2.1.1) with heap := h', toks := tk' }), wpAny (model PySem.Challenge.rw_zo0012_01.row.prog (d.1.1)) (lawA (d.1.1).params (d.2.1.2.1) (d.2.1.2.2.1) (d.2.1.2.2.2) (d.2.2.2.1.1) (d.2.2.1.1) (d.2.2.1.2.1)) (execs (((lawB (d.1.1).params).drop 10).take 1) (lawEnv (d.1.1).params (d.2.2.2.1.1) (d.2.2.1.1) (d.2.2.1.2.1))) (d.2.2.2.2.1.2.2.2) (d.2.2.2.2.2) { (d.2.2.2.2.1.1) with heap := (d.2.2.2.2.1.2.1), toks := (d.2.2.2.2.1.2.2.1) }
@[irreducible] noncomputable def k_segE3 : (World × (ExcName → Option Value) × (Str → Option Value) × (Str → Option Value)) × (Around × Nat × Nat × (Option (List Code))) × (Addr × Value × Heap × Heap) × (Addr × (Str → Option Value) × (List (Addr × Obj)) × LawCells) × (Shared × Heap × Nat × (Flow → Shared → Prop)) × ((Value → Shared → Prop)) := pick (by haveI := ne_World; haveI := ne_Around; haveI := ne_Shared; haveI := ne_Cells; exact inferInstance) s_segE3
theorem segE3_c : s_segE3 k_segE3 := by
  delta s_segE3
  intro B X TT hd hu F N hy ret
  walk_at "m:fill"
  simp only [cellLed, List.cons_append, List.nil_append] at N
  walk_at "m:body"
  k_steps
  (walk_at "m:hide"; rename_i h1 tk1 u1 u2 u3 hr F1 N1 kp; walk_at "m:bare")
  unfold Stop
  refine LCg.CompSrc.range (n := 3) (by rfl) F1 (news := cellLed (k_segE3.2.2.2.1.1) (k_segE3.2.2.2.1.2.2.2) ++ (k_segE3.2.2.2.1.2.2.1)) N1 hr (by decide) (by decide) (by decide) ?_
  intro g'
  refine comp_all (fun i v => ∃ t, v = .bytes (wb [i]).toArray t) ?_ ?_
  · rintro i v ys I oI C oC D m₂ h2 tk2 E' hi ⟨t, rfl⟩ hyl hC hx F2 N2 off ne
    have N3 := N2
    simp only [cellLed, List.cons_append, List.nil_append] at N3
    clear F1 N1 hr kp N2
    rw [Int.zero_add] at hx
    k_steps
    with_reducible rename News _ _ _ _ => nE'
    refine LCg.CompEnd.intro (by assumption) (Mine.news_tl nE') _ (fun p hp => hp) (by first | assumption | (simp only [LCg.Off3, and_true]; assumption)) trivial ?_
    exact ⟨rfl, _, rfl⟩
  · intro ys hv
    unfold LCg.FinA
    intro D h2 tk2 F2 N2 o1
    refine wpAny_execs_nil ?_
    refine ret h2 tk2 D (LCg.lst ys) F2 (perm_cells (add := [(D, _)]) (A := cellLed (k_segE3.2.2.2.1.1) (k_segE3.2.2.2.1.2.2.2)) (T := (k_segE3.2.2.2.1.2.2.1)) N2) (young_off (c := (k_segE3.2.2.2.1.2.2.2)) o1 hy) (fun p hp => off1_mem (l := cellLed (k_segE3.2.2.2.1.1) (k_segE3.2.2.2.1.2.2.2) ++ (k_segE3.2.2.2.1.2.2.1)) o1 p (List.mem_append_right _ hp)) ⟨ys, _, .head _, hv⟩
theorem segE3 (w : World) {mean : ExcName → Option Value} {mg mb : Str → Option Value} {A₀ : Around} {dp un : Nat} {gd : Option (List Code)} {fa : Addr} {cd : Value} {base g : Heap} {L : Addr} {m : Str → Option Value} {T : List (Addr × Obj)} {c : LawCells} {s : Shared} {h : Heap} {tk : Nat} {Q : Flow → Shared → Prop} {E : Value → Shared → Prop}
    (B : Below A₀ base [] g) (X : (Mine.hd.heap_1 w.params).In g) (TT : Top Mine.hd.view_1 (looseW Mine.hd.view_1 []) mean mg mb g) (hd : dp + 40 < recursionLimit) (hu : un + 8 * 40 < cLine)
    (F : Fr g L h m) (N : News g L h (cellLed L c ++ T)) (hy : Young L T)
    (ret : ∀ h' tk' aW oW, Fr g L h' (fun z => if z = Str.ofString "ways" then some (.ref aW) else m z) → News g L h' (cellLed L c ++ ((aW, oW) :: T)) → Young L ((aW, oW) :: T) → (∀ p ∈ T, p.1 ≠ aW) → Ways ((aW, oW) :: T) aW (fun r => [r]) → Q .next { s with heap := h', toks := tk' }) : wpAny (model PySem.Challenge.rw_zo0012_01.row.prog w) (lawA w.params dp un gd L fa cd) (execs (((lawB w.params).drop 10).take 1) (lawEnv w.params L fa cd)) Q E { s with heap := h, toks := tk } :=
  pick_all k_segE3.eq_1 segE3_c ((w, mean, mg, mb), (A₀, dp, un, gd), (fa, cd, base, g), (L, m, T, c), (s, h, tk, Q), (E)) B X TT hd hu F N hy ret
end
end
end
end
-- C4
section
theorem setup_C4 : True := by
  k_with_none
  k_with "x:execs cons" => (refine Mine.any_tk ?_; (try clear qtk); intro qtk; (with_reducible refine wpAny_execs_cons ?_); (try dsimp only))
  k_with "x:m:mem" => (first | assumption | exact List.Mem.head _ | (refine List.Mem.tail _ ?_; walk_at "m:mem"))
  k_with "x:m:give" => ((
  (case zzk1 => k_asm); (case zzk2 => k_asm); (case zzk3 => k_asm); (case zzk4 => k_asm); (case zzk5 => k_asm); (case zzk6 => first | exact rfl | assumption); (case zzk8 => ktr_room); (case zzk9 => ktr_units)))
  k_with "x:subscriptTail Name Constant ref int" => ((k_here; (with_reducible show wpAny _ _ (subscriptTail _ _ (Value.ref _) (Value.int _ _)) _ _ _); (with_unfolding_all refine' sub_listN ?zzk1 ?zzk2 ?zzk3 ?zzk4 ?zzk5 ?_ ?zzk6; (case zzk1 => k_asm); (case zzk2 => walk_at "m:mem"); (case zzk3 => decide); (case zzk4 => decide); (case zzk5 => rfl); (case zzk6 => with_unfolding_all rfl); k_whole)))
  k_with "x:m:hide" => (have qB' := True.intro; have qF' := True.intro; have qFG' := True.intro; have qL' := True.intro; have qN' := True.intro; have qT' := True.intro; have qX' := True.intro; have qY' := True.intro; have qcells' := True.intro; have qfE' := True.intro; have qg' := True.intro; have qh' := True.intro; have qhc' := True.intro; have ql1 := True.intro; have qnE' := True.intro; have qtk' := True.intro)
  k_with "x:m:bare" => (clear qB' qF' qFG' qL' qN' qT' qX' qY' qcells' qfE' qg' qh' qhc' ql1 qnE' qtk')
  k_with "x:m:parts" => (w_on; (have qhz : PySem.Challenge.rw_zo0012_01 = PySem.Challenge.rw_zo0012_01 ∧ Mine.hd.heap_1 = Mine.hd.heap_1 := by (k_fill; exact ⟨rfl, rfl⟩)); clear qhz; refine Eq.trans rfl ?_; k_is)
  k_with "x:m:begin" => (w_on; (have qhz : PySem.Challenge.rw_zo0012_01 = PySem.Challenge.rw_zo0012_01 ∧ Mine.hd.heap_1 = Mine.hd.heap_1 := by (k_fill; exact ⟨rfl, rfl⟩)); clear qhz)
  trivial

noncomputable def GivesP (w : World) (n : Nat) (f : Addr) (pre : List (Addr × Obj) → List Value → Prop) (out : List (Addr × Obj) → List (Addr × Obj) → Value → Prop) : Prop :=
  ∀ (mean : ExcName → Option Value) (mg mb : Str → Option Value) (dp un : Nat) (cn : Str) (cs : Scope) (a : Addr) (ccd : Value) (cl : List (Str × Addr)) (outer : List Env) (A₀ : Around) (base h₀ : Heap) (L : Addr) (m : Str → Option Value) (news : List (Addr × Obj)) (s : Shared) (vs : List Value)
    (Q E : Value → Shared → Prop),
    Below A₀ base outer h₀ → Fr h₀ L s.heap m → (Mine.hd.heap_1 w.params).In h₀ → News h₀ L s.heap news → Top Mine.hd.view_1 (looseW Mine.hd.view_1 []) mean mg mb h₀ → cs.kind = .function → pre news vs → dp + n < recursionLimit → un + 8 * n < cLine →
    (∀ r add h' tk', Fr h₀ L h' m → News h₀ L h' (add ++ news) → (∀ q ∈ news, ∀ p ∈ add, q.1 < p.1) → out news add r → Q r { s with heap := h', toks := tk' }) →
    wpP (model PySem.Challenge.rw_zo0012_01.row.prog w) (ktrTop dp un (some []) cn cs L a ccd cl outer) (call (.ref f) vs) Q E s
local macro_rules | `(tactic| k_all) => `(tactic| assumption)
local macro_rules | `(tactic| k_all) => `(tactic| exact Mine.allLt_ne (by assumption))
theorem setup_C4_1 : True := by
  k_with "x:m:enterP" => ((refine' code_defCP ?zzk1 ?zzk2 ?zzk3 ?zzk4 ?zzk5 ?zzkA ?zzkF ?zzkK ?zzk6 ?zzk7 ?zzk8 ?zzk9 ?zzkB ?zzkD ?_ ?zzc2 ?zzc3 ?zzc4; (case zzkA => exact rfl); (case zzkF => exact rfl); (case zzkK => assumption); (case zzk1 => k_asm); (case zzk2 => k_asm); (case zzk3 => k_asm); (case zzk4 => k_asm); (case zzk5 => k_asm); (case zzk6 => k_is); (case zzk7 => k_is); (case zzk8 => ktr_room); (case zzk9 => exact BindsTo.of_eq rfl); (case zzkB => exact rfl); (case zzkD => decide +kernel); (case zzc2 => exact rfl); (case zzc3 => exact rfl); (case zzc4 => exact rfl); k_whole; intro qg' qL' qh' qtk' qcells' qFG' qF' qN' qY' qB' qX' qT' ql1; (try k_lt ql1); k_cells qY'; (try simp only [List.cons_append, List.nil_append] at qN'); (try dsimp only); (try k_fold)))
  k_with "x:m:split" => ((refine Mine.by_op fun qP9 qk9 => ?_; (repeat (with_reducible rename (_ ∧ _) => qhc'; obtain ⟨_, _⟩ := qhc')); refine qk9 ?_; clear qk9 qP9))
  k_with "x:UnrEnd" => ((walk_at "m:split"; (with_reducible rename News _ _ _ _ => qnE'); (with_reducible rename Fr _ _ _ _ => qfE'); (refine UnrEnd.intro qfE' qnE' _ (fun p hp => hp) (by k_all) ?_)))
  trivial
theorem setItem_baN {prog : Program} {w : World} {A : Around} {E : Value → Shared → Prop} {s : Shared} {h₀ : Heap} {L D : Addr} {m : Str → Option Value} {news news' : List (Addr × Obj)} {b : Array UInt8} {k v : Int} {x : UInt8} {t u : Tok} {Q : Unit → Shared → Prop} (F : Fr h₀ L s.heap m) (N : News h₀ L s.heap news) (hx : v = ((x.toNat : Nat) : Int))
    (U : Upd D (baObj b) (baObj (b.setIfInBounds k.toNat x)) news news') (h0 : 0 ≤ k) (h1 : k < 4) (hb : b.size = 4)
    (h : ∀ h', Fr h₀ L h' m → News h₀ L h' news' → Q () { s with heap := h' }) : wpAny (model prog w) A (setItem (.ref D) (.int k t) (.int v u)) Q E s := by
  refine Mine.by_op fun P9 bk9 => ?_
  obtain ⟨pre, post, rfl, rfl, a, c⟩ := U.split
  refine bk9 ?_; clear bk9 P9
  have z := N (D, baObj b) (List.mem_append.mpr (.inr (.head _)))
  have e : v.toNat.toUInt8 = x := by rw [hx, Int.toNat_natCast]; exact UInt8.ofNat_toNat
  refine setItem_ba z.1 h0 (by rw [hb]; exact h1) (by rw [hb]; decide) (by rw [hx]; omega) (by have := x.toNat_lt; rw [hx]; omega) fun h' ho' hs => h h' (F.change hs z.2.1 z.2.2) (news_set N a c hs ?_)
  rw [e] at ho'
  exact ho'
theorem len4 {prog : Program} {w : World} {A : Around} {E : Value → Shared → Prop} {s : Shared} {b0 b1 b2 b3 : UInt8} {t : Tok} {Q : Value → Shared → Prop} (h : Q (.int 4 (s.toks + 1)) { s with toks := s.toks + 1 + 1 }) :
    wpAny (model prog w) A (call (.builtin "len") [.bytes [b0, b1, b2, b3].toArray t]) Q E s := len_bytes (by exact Nat.le_of_ble_eq_true rfl) h
theorem setup_C4_2 : True := by
  k_with "x:call builtin:len" => (refine Mine.len4 ?_)
  trivial
@[irreducible] noncomputable def InBodyP (n : Nat) (f : Addr) (P : ∀ p, FnParts p f) (mf : Str → Option Value) (led : List (Addr × Obj)) (out : List (Addr × Obj) → Value → Prop) (z : Spot) : Prop :=
  Below (ktrTop z.dp z.un (some []) z.cn z.cs z.L₀ z.a z.ccd z.cl z.outer) z.base (envX z.cn z.cs z.L₀ z.a z.ccd z.cl :: z.outer) z.g → Fr z.h₀ z.L₀ z.g z.m₀ → (Mine.hd.heap_1 z.w.params).In z.h₀ → Fr z.g z.L z.h mf → (Mine.hd.heap_1 z.w.params).In z.g → News z.g z.L z.h led →
  Top Mine.hd.view_1 (looseW Mine.hd.view_1 []) z.mean z.mg z.mb z.g → z.dp + n < recursionLimit → z.un + 8 * n < cLine →
  (∀ r add h' tk', Fr z.h₀ z.L₀ h' z.m₀ → News z.h₀ z.L₀ h' (add ++ z.news) → (∀ q ∈ z.news, ∀ p ∈ add, q.1 < p.1) → out add r → z.Q r { z.s with heap := h', toks := tk' }) →
  wpP (model PySem.Challenge.rw_zo0012_01.row.prog z.w) ((ktrTop z.dp z.un (some []) z.cn z.cs z.L₀ z.a z.ccd z.cl z.outer).deeper (envOfC (P z.w.params).qual (P z.w.params).scope z.L f (P z.w.params).cdv)) (execs (P z.w.params).body (envOfC (P z.w.params).qual (P z.w.params).scope z.L f (P z.w.params).cdv))
    (fun fl s' => LeaveK z.h₀ z.L₀ z.m₀ z.g (fun r s' => match r with | .ok (.ret v) => z.Q v s' | .ok _ => False | .error e => z.E e s') (match fl with | .ret v => v | _ => .none) s')
    (fun e s' => wpAny (model PySem.Challenge.rw_zo0012_01.row.prog z.w) ((ktrTop z.dp z.un (some []) z.cn z.cs z.L₀ z.a z.ccd z.cl z.outer).deeper (envOfC (P z.w.params).qual (P z.w.params).scope z.L f (P z.w.params).cdv)) (leaving (envOfC (P z.w.params).qual (P z.w.params).scope z.L f (P z.w.params).cdv) e) (fun _ s'' => z.E e s'') (fun e' s'' => z.E e' s'') s')
    { z.s with heap := z.h, toks := z.tk }
theorem in_bodyP {n : Nat} {f : Addr} {P : ∀ p, FnParts p f} {mf : Str → Option Value} {led : List (Addr × Obj)} {out : List (Addr × Obj) → Value → Prop} {z : Spot} {G : Prop} (H : InBodyP n f P mf led out z) :
  Below (ktrTop z.dp z.un (some []) z.cn z.cs z.L₀ z.a z.ccd z.cl z.outer) z.base (envX z.cn z.cs z.L₀ z.a z.ccd z.cl :: z.outer) z.g → Fr z.h₀ z.L₀ z.g z.m₀ → (Mine.hd.heap_1 z.w.params).In z.h₀ → Fr z.g z.L z.h mf → (Mine.hd.heap_1 z.w.params).In z.g → News z.g z.L z.h led →
  Top Mine.hd.view_1 (looseW Mine.hd.view_1 []) z.mean z.mg z.mb z.g → z.dp + n < recursionLimit → z.un + 8 * n < cLine →
  (∀ r add h' tk', Fr z.h₀ z.L₀ h' z.m₀ → News z.h₀ z.L₀ h' (add ++ z.news) → (∀ q ∈ z.news, ∀ p ∈ add, q.1 < p.1) → out add r → z.Q r { z.s with heap := h', toks := tk' }) →
  (wpP (model PySem.Challenge.rw_zo0012_01.row.prog z.w) ((ktrTop z.dp z.un (some []) z.cn z.cs z.L₀ z.a z.ccd z.cl z.outer).deeper (envOfC (P z.w.params).qual (P z.w.params).scope z.L f (P z.w.params).cdv)) (execs (P z.w.params).body (envOfC (P z.w.params).qual (P z.w.params).scope z.L f (P z.w.params).cdv))
    (fun fl s' => LeaveK z.h₀ z.L₀ z.m₀ z.g (fun r s' => match r with | .ok (.ret v) => z.Q v s' | .ok _ => False | .error e => z.E e s') (match fl with | .ret v => v | _ => .none) s')
    (fun e s' => wpAny (model PySem.Challenge.rw_zo0012_01.row.prog z.w) ((ktrTop z.dp z.un (some []) z.cn z.cs z.L₀ z.a z.ccd z.cl z.outer).deeper (envOfC (P z.w.params).qual (P z.w.params).scope z.L f (P z.w.params).cdv)) (leaving (envOfC (P z.w.params).qual (P z.w.params).scope z.L f (P z.w.params).cdv) e) (fun _ s'' => z.E e s'') (fun e' s'' => z.E e' s'') s')
    { z.s with heap := z.h, toks := z.tk }) = G → G := by
  intro B FG X₀ F X N T hd hu hret e
  unfold InBodyP at H
  exact e ▸ H B FG X₀ F X N T hd hu hret
noncomputable def bswapP (p : Params) : FnParts p 77 := ⟨_, _, _, _, _, _, _, _, _, _, _, _, _, _, _, by walk_at "m:parts"⟩
noncomputable def s_bswap (d : Spot × (UInt8 × UInt8 × UInt8 × UInt8) × (Tok × Tok)) : Prop := InBodyP 10 77 bswapP (fun yy => if yy = Str.ofString "width" then some (.int 4 (d.2.2.2)) else if yy = Str.ofString "data" then some (.bytes [(d.2.1.1), (d.2.1.2.1), (d.2.1.2.2.1), (d.2.1.2.2.2)].toArray (d.2.2.1)) else none) ((d.1.news)) (fun add r => ∃ tt, r = .bytes [(d.2.1.2.2.2), (d.2.1.2.2.1), (d.2.1.2.1), (d.2.1.1)].toArray tt) d.1
@[irreducible] noncomputable def k_bswap : Spot × (UInt8 × UInt8 × UInt8 × UInt8) × (Tok × Tok) := pick (by haveI := ne_Spot; exact inferInstance) s_bswap
theorem bswap_c : s_bswap k_bswap := by
  delta s_bswap
  unfold InBodyP
  intro B FG X₀ F X N T hd hu hret
  walk_at "m:begin"
  dsimp only [bswapP]
  (try k_unmd)
  (try k_fold)
  refine wpP_execs_first 1 (wpP_execs_one (wpP_Assign (wpP_Call rfl ?_) (by rfl)))
  k_steps
  refine wpAny_of_eq (a := .machine) rfl ?_
  (walk_at "m:hide"; rename_i kF0; walk_at "m:bare")
  refine call_ba (m := _) rfl kF0 N fun D h1 F1 N1 lD => ?_
  have nD : ∀ p ∈ (k_bswap.1.news), p.1 ≠ D := fun p hp => Nat.ne_of_lt (lD p hp)
  clear kF0 N
  (try dsimp only)
  k_steps
  refine wpP_of ?_
  k_with "x:setItem ref int" => (k_here; k_dflt (refine' Mine.setItem_baN ?zzkF ?zzkN ?zzkx ?zzkU ?zzk0 ?zzk1 ?zzkb ?_; (case zzkF => k_asm); (case zzkN => k_asm); (case zzkx => exact rfl); (case zzkU => k_upd); (case zzk0 => decide); (case zzk1 => decide); (case zzkb => ((try simp only [Array.size_setIfInBounds]); rfl))); intro h' F' N'; (try dsimp only at N'))
  k_steps
  (walk_at "m:hide"; rename_i h9 tk9 F9 N9; walk_at "m:bare")
  refine bytes_of_ba (N9 _ (.head _)).1 (by (simp only [Array.size_setIfInBounds]; decide)) fun tb kb => ?_
  (try dsimp only)
  k_steps
  (walk_at "m:hide"; rename_i kF kN _; walk_at "m:bare")
  exact hret (.bytes [(k_bswap.2.1.2.2.2), (k_bswap.2.1.2.2.1), (k_bswap.2.1.2.1), (k_bswap.2.1.1)].toArray tb) [] h9 kb kF (news_tl kN) none_lt ⟨tb, rfl⟩
theorem bswap (w : World) (b0 b1 b2 b3 : UInt8) : GivesP w 10 77 (fun _ vs => ∃ t u, vs = [.bytes [b0, b1, b2, b3].toArray t, .int 4 u]) (fun _ add r => ∃ t, r = .bytes [b3, b2, b1, b0].toArray t) := by
  w_on
  unfold GivesP
  k_fill
  intro mean mg mb dp un cn cs aa ccd cl outer A₀ base h₀ L m news s vs Q E B F X N T₀ hk hR hd hu hret
  refine Mine.by_op fun P9 bk9 => ?_
  obtain ⟨t, u, rfl⟩ := hR
  refine bk9 ?_; clear bk9 P9
  refine wpP_call ?_
  k_dflt (refine' code_defCP ?zzk1 ?zzk2 ?zzk3 ?zzk4 ?zzk5 ?zzkA ?zzkF ?zzkK ?zzk6 ?zzk7 ?zzk8 ?zzk9 ?zzkB ?zzkD ?_ ?zzc2 ?zzc3 ?zzc4)
  (case zzkA => exact rfl); (case zzkF => exact rfl); (case zzkK => assumption); (case zzk1 => k_asm); (case zzk2 => k_asm); (case zzk3 => k_asm); (case zzk4 => k_asm); (case zzk5 => k_asm)
  (case zzk6 => k_is); (case zzk7 => k_is); (case zzk8 => ktr_room); (case zzk9 => exact BindsTo.of_eq rfl); (case zzkB => exact rfl); (case zzkD => decide +kernel); (case zzc2 => exact rfl); (case zzc3 => exact rfl); (case zzc4 => exact rfl)
  intro g' L' h' tk' cells' FG' F' N' Y' B' X' T' l1
  replace Y' : CellsAre _ [] cells' := Y'
  obtain rfl : cells' = [] := by cases Y'; rfl
  clear Y'
  simp only [List.nil_append] at N'
  (try dsimp only)
  exact in_bodyP (pick_all k_bswap.eq_1 bswap_c (⟨w, mean, mg, mb, dp, un, none, cn, cs, aa, ccd, cl, outer, base, h₀, L, m, news, s, Q, E, g', L', h', _⟩, (b0, b1, b2, b3), (t, u))) B' FG' X (Mine.Fr.alike F' fun _ => rfl) X' N' T' hd hu hret rfl
end
section
local macro_rules | `(tactic| k_all) => `(tactic| exact allLt_ne (by assumption))
local macro_rules | `(tactic| k_all) => `(tactic| exact fun p hp => Nat.ne_of_lt (Nat.lt_of_lt_of_le (Mine.low_mem (by assumption) p hp) (by omega)))
local macro_rules | `(tactic| k_all) => `(tactic| exact Mine.off1_mem (by assumption))
local macro_rules | `(tactic| k_all) => `(tactic| assumption)
local macro_rules | `(tactic| k_all) => `(tactic| exact fun p hp => Mine.young_ne (by assumption) hp (by omega) (by omega))
-- G22
section
local macro_rules | `(tactic| walk_at $s:str) => `(tactic| k_extra $(Lean.Syntax.mkStrLit ("xG22:" ++ s.getString)))
theorem setup_base_2 : True := by
  k_with_none
  k_with "x:m:mem" => (first | assumption | exact List.Mem.head _ | (refine List.Mem.tail _ ?_; walk_at "m:mem"))
  k_with "x:m:give" => ((
  (case zzk1 => k_asm); (case zzk2 => k_asm); (case zzk3 => k_asm); (case zzk4 => k_asm); (case zzk5 => k_asm); (case zzk6 => first | exact rfl | assumption); (case zzk8 => ktr_room); (case zzk9 => ktr_units)))
  k_with "x:subscriptTail Name Constant ref int" => ((k_here; (with_reducible show wpAny _ _ (subscriptTail _ _ (Value.ref _) (Value.int _ _)) _ _ _); (with_unfolding_all refine' sub_listN ?zzk1 ?zzk2 ?zzk3 ?zzk4 ?zzk5 ?_ ?zzk6; (case zzk1 => k_asm); (case zzk2 => walk_at "m:mem"); (case zzk3 => decide); (case zzk4 => decide); (case zzk5 => rfl); (case zzk6 => with_unfolding_all rfl); k_whole)))
  k_with "x:TurnPost" => ((dsimp only [TurnPost]))
  k_with "x:m:enterC" => ((refine' code_defC ?zzk1 ?zzk2 ?zzk3 ?zzk4 ?zzk5 ?zzkA ?zzkF ?zzkK ?zzk6 ?zzk7 ?zzk8 ?zzk9 ?zzkB ?zzkD ?_ ?zzc2 ?zzc3 ?zzc4; (case zzkA => exact rfl); (case zzkF => exact rfl); (case zzkK => assumption); (case zzk1 => k_asm); (case zzk2 => k_asm); (case zzk3 => k_asm); (case zzk4 => k_asm); (case zzk5 => k_asm); (case zzk6 => k_is); (case zzk7 => k_is); (case zzk8 => ktr_room); (case zzk9 => exact BindsTo.of_eq rfl); (case zzkB => exact rfl); (case zzkD => decide +kernel); (case zzc2 => exact rfl); (case zzc3 => exact rfl); (case zzc4 => exact rfl); k_whole; intro qg' qL' qh' qtk' qcells' qFG' qF' qN' qY' qB' qX' qT' ql1; (try k_lt ql1); k_cells qY'; (try simp only [List.cons_append, List.nil_append] at qN'); (try dsimp only); (try k_fold)))
  k_with "x:spliced" => (((dsimp only); walk_at "spliced"))
  k_with "x:eval ListComp" => ((k_here; k_dflt (refine LCg.ListComp_U (F₀ := by k_asm) (by with_unfolding_all rfl) (by decide) (by rfl) (by decide) (by rfl) ?_); k_dflt lcg_toSrc))
  k_with "x:CompEnd" => ((refine LCg.CompEnd.intro (by assumption) (by assumption) _ (fun p hp => hp) (by first | assumption | (simp only [LCg.Off3, and_true]; assumption)) (by first | exact trivial | exact Or.inr ⟨_, by walk_at "m:mem", rfl, _, rfl⟩ | exact Or.inl (by assumption)) ?_))
  k_with "x:m:idx" => (first | ((with_reducible refine' Mine.idx_add ?_ ?_) <;> try walk_at "m:idx") | ((with_reducible refine' Mine.idx_mul ?_ ?_) <;> try walk_at "m:idx") | (with_reducible exact rfl) | (with_reducible_and_instances exact Int.cast_ofNat_Int))
  k_with "x:m:sub" => ((k_here; (with_unfolding_all refine' sub_z ?zzk1 ?zzk2 ?zzk3 ?zzk4 ?zzk5 ?zzk7 ?_ ?zzk6; (case zzk2 => k_asm); (case zzk3 => walk_at "m:mem"); (case zzk1 => assumption); (case zzk4 => walk_at "m:idx"); (case zzk5 => omega); (case zzk7 => decide); (case zzk6 => with_unfolding_all rfl)); intro qzz' qtx' qhz' qh0' qh1'; (try simp only [Nat.zero_add, Nat.add_zero, Nat.mul_zero, Nat.reduceAdd, Nat.reduceMul] at qhz')))
  k_with "x:subscriptTail Name BinOp ref int" => (walk_at "m:sub")
  k_with "x:subscriptTail Name Name ref int" => (walk_at "m:sub")
  k_with "x:exec For Name Call cons nil" => ((with_reducible rename Fr _ _ _ _ => qfF; refine Mine.for_wordTF qfF ?_ (fun _ => rfl) (by first | assumption | passes_own)))
  k_with "x:CompSrc" => ((k_here; k_dflt (first
  | (refine LCg.CompSrc.ledger (by rfl) (by k_asm) (by k_asm) (by walk_at "m:mem") (by first | size_fits | exact Nat.le_of_ble_eq_true rfl) ?_; intro qg'; lcg_lit)
  | (refine LCg.CompSrc.range (by rfl) (by k_asm) (by k_asm) (by assumption) (by first | decide | rfl) (by first | rfl | decide) (by first | size_fits | exact Nat.le_of_ble_eq_true rfl) ?_; intro qg'; lcg_lit))))
  k_with "x:call builtin:list.append" => (((try dsimp only [List.cons_append, List.nil_append]); k_dflt (refine' append_K ?zzk1 ?zzk2 ?zzk3 ?_ ?zzz; (case zzk1 => k_asm); (case zzk2 => k_asm); (case zzk3 => k_upd); (case zzz => exact Mine.IntsZ.size (by assumption) (by omega))); intro qh' qF' qN'; (try k_sweep)))
  k_with "x:storeName" => (((dsimp only); walk_at "storeName"))
  k_with "x:newList" => (((dsimp only); walk_at "newList"))
  k_with "x:m:split" => ((refine Mine.by_op fun qP9 qk9 => ?_; (repeat (with_reducible rename (_ ∧ _) => qhc'; obtain ⟨_, _⟩ := qhc')); refine qk9 ?_; clear qk9 qP9))
  k_with "x:m:junk" => (((repeat (with_reducible rename LCg.NsObj _ _ => qjk'; clear qjk')); (repeat (with_reducible rename ((_ ≠ _ ∧ _ ≠ _ ∧ _ ≠ _) ∧ _) => qjk'; clear qjk')); (repeat (with_reducible rename (_ ≠ _ ∧ _ ≠ _ ∧ _ ≠ _) => qjk'; clear qjk'))))
  k_with "x:FinE" => (((unfold LCg.FinE); walk_at "m:junk"; intro qD' qh' qtk' qF' qN' qo1'; (try simp only [LCg.Off1, and_true] at qo1'); (try simp only [List.nil_append, List.cons_append] at qN'); walk_at "m:split"; (try dsimp only)))
  k_with "x:m:subs" => (first | (refine List.forall_mem_cons.mpr ⟨?_, ?_⟩; (focus walk_at "m:mem"); walk_at "m:subs") | (intro qp qhp; walk_at "m:mem"))
  k_with "x:m:body" => ((dsimp only [lawB, lawS, lawEnv, lawA, lawParts, List.take, List.drop]))
  k_with "x:m:led" => ((simp only [cellLed, List.cons_append, List.nil_append] at *))
  k_with "x:m:fill" => ((w_on; (have qhz : PySem.Challenge.rw_zo0012_01 = PySem.Challenge.rw_zo0012_01 ∧ Mine.hd.heap_1 = Mine.hd.heap_1 := by (k_fill; exact ⟨rfl, rfl⟩)); clear qhz))
  k_with "x:m:give" => ((
  (case zzk1 => k_asm); (case zzk2 => k_asm); (case zzk3 => k_asm); (case zzk4 => k_asm); (case zzk5 => k_asm); (case zzk6 => first | exact rfl | assumption); (case zzk8 => omega); (case zzk9 => omega)))
  k_with "x:CompSrc" => (first
  | (k_here; k_dflt (first
    | (refine LCg.CompSrc.ledger (by rfl) (by k_asm) (by k_asm) (by walk_at "m:mem") (by first | size_fits | exact Nat.le_of_ble_eq_true rfl) ?_; intro qg'; lcg_lit)
    | (refine LCg.CompSrc.range (by rfl) (by k_asm) (by k_asm) (by assumption) (by first | decide | rfl) (by first | rfl | decide) (by first | size_fits | exact Nat.le_of_ble_eq_true rfl) ?_; intro qg'; lcg_lit)))
  | refine Mine.stop ?_)
  k_with "x:m:cend" => ((with_reducible rename News _ _ _ _ => qnE'; first
  | refine LCg.CompEnd.intro (by assumption) qnE' _ (fun p hp => hp) (by first | assumption | (simp only [LCg.Off3, and_true]; assumption)) (by first | exact trivial | exact Or.inr ⟨_, by walk_at "m:mem", rfl, _, rfl⟩ | exact Or.inl (by assumption)) ?_
  | refine LCg.CompEnd.intro (by assumption) (Mine.news_tl qnE') _ (fun p hp => hp) (by first | assumption | (simp only [LCg.Off3, and_true]; assumption)) (by first | exact trivial | exact Or.inr ⟨_, by walk_at "m:mem", rfl, _, rfl⟩ | exact Or.inl (by assumption)) ?_
  | refine LCg.CompEnd.intro (by assumption) (Mine.news_tl (Mine.news_tl qnE')) _ (fun p hp => hp) (by first | assumption | (simp only [LCg.Off3, and_true]; assumption)) (by first | exact trivial | exact Or.inr ⟨_, by walk_at "m:mem", rfl, _, rfl⟩ | exact Or.inl (by assumption)) ?_))
  k_with "x:CompEnd" => (walk_at "m:cend")
  k_with "x:m:subp" => ((k_here; (with_unfolding_all refine' Mine.sub_pieces ?zzk1 ?zzk2 ?zzk3 ?zzk4 ?_ ?zzk6; (case zzk1 => k_asm); (case zzk2 => assumption); (case zzk3 => (intro qp qhp; walk_at "m:mem")); (case zzk4 => omega); (case zzk6 => with_unfolding_all rfl)); intro qtx'))
  k_with "x:subscriptTail Name Name ref int" => (first | walk_at "m:subp" | walk_at "m:sub")
  k_with "x:call builtin:str.join" => (((try dsimp only [List.cons_append, List.nil_append]); k_dflt (refine' Mine.join_L ?zzk1 ?zzk2 ?zzk3 ?zzk4 ?zzk5 ?_; (case zzk1 => k_asm); (case zzk2 => walk_at "m:mem"); (case zzk3 => exact .cons _ _ (.cons _ _ (.cons _ _ .nil))); (case zzk4 => decide +kernel); (case zzk5 => exact Mine.pk3)); intro qtj' qkj'; (try dsimp only)))
  k_with "x:m:subw" => ((k_here; (with_unfolding_all refine' Mine.sub_worth ?zzk1 ?zzk2 ?zzk3 ?zzk4 ?_ ?zzk6; (case zzk1 => k_asm); (case zzk2 => assumption); (case zzk3 => (intro qp qhp; walk_at "m:mem")); (case zzk4 => omega); (case zzk6 => with_unfolding_all rfl)); intro qtx'))
  k_with "x:subscriptTail Name Name ref int" => (first | walk_at "m:subp" | walk_at "m:subw" | walk_at "m:sub")
  k_with "x:m:ints" => (first | exact IntsAre.nil | (refine IntsAre.cons _ _ ?_; walk_at "m:ints"))
  k_with "x:call builtin:sum" => (((try dsimp only [List.cons_append, List.nil_append]); k_dflt (refine' Mine.sum_L ?zzk1 ?zzk2 ?zzk3 ?zzk4 ?zzk5 ?_; (case zzk1 => rfl); (case zzk2 => k_asm); (case zzk3 => k_asm); (case zzk4 => walk_at "m:mem"); (case zzk5 => walk_at "m:ints")); intro qh' qtj' qkj' qF' qN'; (try dsimp only)))
  k_with "x:m:subv" => ((k_here; (with_unfolding_all refine' Mine.sub_vals ?zzk1 ?zzk2 ?zzk3 ?zzk4 ?zzk5 ?zzk7 ?_ ?zzk6; (case zzk2 => k_asm); (case zzk3 => walk_at "m:mem"); (case zzk1 => assumption); (case zzk4 => walk_at "m:idx"); (case zzk5 => omega); (case zzk7 => decide); (case zzk6 => with_unfolding_all rfl)); rintro qvv' ⟨qtv', qhv'⟩; cases qhv'))
  k_with "x:subscriptTail Name Name ref int" => (first | walk_at "m:subp" | walk_at "m:subw" | walk_at "m:subv" | walk_at "m:sub")
  k_with "x:execs cons" => (((with_reducible refine wpAny_execs_cons ?_); try dsimp only))
  k_with "x:execs nil" => (refine wpAny_execs_nil ?_)
  k_with "x:call builtin:len" => (((try dsimp only [List.cons_append, List.nil_append]); first | refine P.len_str Mine.lt_txt ?_ | refine P.len_str Mine.lt_esc ?_))
  k_with "x:eval Dict" => ((k_here; k_dflt (refine' kdn_eval (knd := PySem.strKind _ _) ?zzF ?zzN ?zzb ?zza ?zzl ?zze ?zzn ?_; (case zzF => k_asm); (case zzN => k_asm); (case zzb => exact Top.nolimit (by k_asm)); (case zza => rfl); (case zzl => rfl); (case zze => exact List.cons_ne_nil _ _); (case zzn => exact Nat.le_of_ble_eq_true rfl)); intro qd' qh' qo' qF' qN' ql1 qlo' qhd'; (try k_lt ql1); (try dsimp only)))
  k_with "x:m:room" => (first | omega | ((simp only [depth_under_make, depth_under_kw, depth_in1, depth_deeper, depth_caller]); (try dsimp only [ktrTop]); omega))
  k_with "x:m:order" => ((k_dflt (refine' call_cls ?zzk1 ?zzk2 ?zzk3 ?zzk4 ?zzk5 ?zzk6 ?_; (case zzk1 => k_asm); (case zzk2 => k_asm); (case zzk3 => k_asm); (case zzk4 => k_is); (case zzk5 => k_is); (case zzk6 => k_is)); intro qx' qd' qh' qF' qN' ql1 ql2; (try k_lt ql1); (try k_lt2 ql2); k_dflt (refine' code_def ?zzk1 ?zzk2 ?zzk3 ?zzk4 ?zzk5 ?zzkA ?zzkF ?zzkK ?zzk6 ?zzk7 ?zzk8 ?zzk9 ?zzkB ?_ ?zzc2 ?zzc3 ?zzc4 ?zzc5; (case zzkA => exact rfl); (case zzkF => exact rfl); (case zzkK => exact rfl); (case zzk1 => k_asm); (case zzk2 => k_asm); (case zzk3 => k_asm); (case zzk4 => k_asm); (case zzk5 => k_asm); (case zzk6 => k_is); (case zzk7 => k_is); (case zzk8 => walk_at "m:room"); (case zzk9 => exact BindsTo.of_eq rfl); (case zzc5 => decide); (case zzkB => exact locs rfl); (case zzc2 => exact rfl); (case zzc3 => exact rfl); (case zzc4 => exact rfl); k_whole; intro qg' qL' qh' qFG' qF' qN' qB' qX' qT'; (try dsimp only); (try k_fold))))
  trivial
theorem setup_G22 : True := by
  k_with "xG22:CompEnd" => (refine Mine.stop ?_)
  k_with "xG22:m:subb" => ((k_here; (with_unfolding_all refine' Mine.sub_vals ?zzk1 ?zzk2 ?zzk3 ?zzk4 ?zzk5 ?zzk7 ?_ ?zzk6; (case zzk2 => k_asm); (case zzk3 => walk_at "m:mem"); (case zzk1 => assumption); (case zzk4 => walk_at "m:idx"); (case zzk5 => omega); (case zzk7 => decide); (case zzk6 => with_unfolding_all rfl)); rintro qvb' ⟨qtb', qhb'⟩; cases qhb'))
  k_with "xG22:subscriptTail Name Name ref int" => (walk_at "m:subb")
  k_with "xG22:m:hide" => (have qB' := True.intro; have qD' := True.intro; have qF' := True.intro; have qFG' := True.intro; have qL' := True.intro; have qN' := True.intro; have qT' := True.intro; have qX' := True.intro; have qY' := True.intro; have qcells' := True.intro; have qd' := True.intro; have qfF := True.intro; have qg' := True.intro; have qh' := True.intro; have qh0' := True.intro; have qh1' := True.intro; have qhb' := True.intro; have qhc' := True.intro; have qhd' := True.intro; have qhp := True.intro; have qhv' := True.intro; have qhz := True.intro; have qhz' := True.intro; have qjk' := True.intro; have qkj' := True.intro; have ql1 := True.intro; have ql2 := True.intro; have qlo' := True.intro; have qnE' := True.intro; have qo' := True.intro; have qo1' := True.intro; have qp := True.intro; have qtb' := True.intro; have qtj' := True.intro; have qtk' := True.intro; have qtv' := True.intro; have qtx' := True.intro; have qvb' := True.intro; have qvv' := True.intro; have qx' := True.intro; have qzz' := True.intro)
  k_with "xG22:m:bare" => (clear qB' qD' qF' qFG' qL' qN' qT' qX' qY' qcells' qd' qfF qg' qh' qh0' qh1' qhb' qhc' qhd' qhp qhv' qhz qhz' qjk' qkj' ql1 ql2 qlo' qnE' qo' qo1' qp qtb' qtj' qtk' qtv' qtx' qvb' qvv' qx' qzz')
  trivial
theorem givesP_use {w : World} {n : Nat} {f : Addr} {pre : List (Addr × Obj) → List Value → Prop} {out : List (Addr × Obj) → List (Addr × Obj) → Value → Prop} (G : GivesP w n f pre out)
  {mean : ExcName → Option Value} {mg mb : Str → Option Value} {dp un : Nat} {cn : Str} {cs : Scope} {a : Addr} {ccd : Value} {cl : List (Str × Addr)} {outer : List Env} {A₀ : Around} {base h₀ : Heap} {L : Addr} {m : Str → Option Value} {news : List (Addr × Obj)} {s : Shared} {vs : List Value}
    {Q E : Value → Shared → Prop} (B : Below A₀ base outer h₀) (F : Fr h₀ L s.heap m) (X : (Mine.hd.heap_1 w.params).In h₀) (N : News h₀ L s.heap news) (T : Top Mine.hd.view_1 (looseW Mine.hd.view_1 []) mean mg mb h₀) (hk : cs.kind = .function) (R : pre news vs) (hd : dp + n < recursionLimit) (hu : un + 8 * n < cLine)
    (ret : ∀ r add h' tk', Fr h₀ L h' m → News h₀ L h' (add ++ news) → (∀ q ∈ news, ∀ p ∈ add, q.1 < p.1) → out news add r → Q r { s with heap := h', toks := tk' }) :
    wpP (model PySem.Challenge.rw_zo0012_01.row.prog w) (ktrTop dp un (some []) cn cs L a ccd cl outer) (call (.ref f) vs) Q E s := by unfold GivesP at G; apply G <;> first | assumption | exact B | exact T
theorem keeper_fn {prog : Program} {w : World} {A : Around} {E : Value → Shared → Prop} {s : Shared} {K : Frag} {h₀ : Heap} {L f : Addr} {m : Str → Option Value} {oc : Value} {od : Option Addr} {fd : FuncData} {osl : Array (Option Value)} {Q : Keeper → Shared → Prop}
    (F : Fr h₀ L s.heap m) (X : K.In h₀) (ho : K.lookup f = some ⟨oc, od, .func fd, osl⟩) (h : Q .frame s) : wpAny (model prog w) A (keeperOf (.ref f)) Q E s := by
  unfold keeperOf
  exact wpAny_bind (wpAny_load ((X.keeps F.keep) _ _ ho) (wpAny_pure h))
noncomputable def lawK (P : Params) : List Stmt := fBs (lawB P) 17
set_option synthInstance.maxSize 100000 in
set_option synthInstance.maxHeartbeats 800000 in
noncomputable def s_segK1 (d : (World × (ExcName → Option Value) × (Str → Option Value) × (Str → Option Value)) × (Around × Nat × Nat × Addr) × (Value × Heap × Heap × Addr) × ((Str → Option Value) × (List (Addr × Obj)) × LawCells × Shared) × (Heap × Nat × (Flow → Shared → Prop) × (Value → Shared → Prop)) × (Addr × Nat × Tok × (Nat → List Nat)) × ((Nat → Nat) × (Option Value))) : Prop := ∀ (B : Below (d.2.1.1) (d.2.2.1.2.1) [] (d.2.2.1.2.2.1)) (X : (Mine.hd.heap_1 (d.1.1).params).In (d.2.2.1.2.2.1)) (TT : Top Mine.hd.view_1 (looseW Mine.hd.view_1 []) (d.1.2.1) (d.1.2.2.1) (d.1.2.2.2) (d.2.2.1.2.2.1)) (hd : (d.2.1.2.1) + 40 < recursionLimit) (hu : (d.2.1.2.2.1) + 8 * 40 < cLine) (F : Fr (d.2.2.1.2.2.1) (d.2.2.1.2.2.2) (d.2.2.2.2.1.1) (d.2.2.2.1.1)) (N : News (d.2.2.1.2.2.1) (d.2.2.1.2.2.2) (d.2.2.2.2.1.1) (cellLed (d.2.2.1.2.2.2) (d.2.2.2.1.2.2.1) ++ (d.2.2.2.1.2.1))) (hy : Young (d.2.2.1.2.2.2) (d.2.2.2.1.2.1)) (mW : (d.2.2.2.1.1) (Str.ofString "ways") = some (.ref (d.2.2.2.2.2.1.1))) (hW : Ways (d.2.2.2.1.2.1) (d.2.2.2.2.2.1.1) (d.2.2.2.2.2.1.2.2.2)) (cR : (d.2.2.2.1.2.2.1).oR.data = .cell (some (.int ((d.2.2.2.2.2.1.2.1) : Int) (d.2.2.2.2.2.1.2.2.1)))) (hr3 : (d.2.2.2.2.2.1.2.1) < 3) (cQ : (d.2.2.2.1.2.2.1).oQ.data = .cell (d.2.2.2.2.2.2.2)) (hWr : (d.2.2.2.2.2.1.2.2.2) (d.2.2.2.2.2.1.2.1) = [(d.2.2.2.2.2.2.1) 3, (d.2.2.2.2.2.2.1) 2, (d.2.2.2.2.2.2.1) 1, (d.2.2.2.2.2.2.1) 0]) (hrm : ∀ i, i < 4 → (d.2.2.2.2.2.2.1) i < 3) (ret : ∀ h' tk' oQ add aQ vs nQ, (d.2.2.2.2.1.2.1) ≤ tk' → Fr (d.2.2.1.2.2.1) (d.2.2.1.2.2.2) h' (d.2.2.2.1.1) → News (d.2.2.1.2.2.1) (d.2.2.1.2.2.2) h' (cellLed (d.2.2.1.2.2.2) { (d.2.2.2.1.2.2.1) with oQ := oQ } ++ (add ++ (d.2.2.2.1.2.1))) → Young (d.2.2.1.2.2.2) add → Apart add (d.2.2.2.1.2.1) → oQ.data = .cell (some (.ref aQ)) → (aQ, listOf (List.toArray vs) nQ) ∈ add → ValsF vs 4 (fun i v => ∃ t, v = .int ((d.2.2.2.2.2.2.1) i : Int) t) → (d.2.2.2.2.1.2.2.1) .next { (d.2.2.2.1.2.2.2) with heap := h', toks := tk' }), wpP (model PySem.Challenge.rw_zo0012_01.row.prog (d.1.1)) (lawA (d.1.1).params (d.2.1.2.1) (d.2.1.2.2.1) (some []) (d.2.2.1.2.2.2) (d.2.1.2.2.2) (d.2.2.1.1)) (execs (((lawK (d.1.1).params).drop 1).take 1) (lawEnv (d.1.1).params (d.2.2.1.2.2.2) (d.2.1.2.2.2) (d.2.2.1.1))) (d.2.2.2.2.1.2.2.1) (d.2.2.2.2.1.2.2.2) { (d.2.2.2.1.2.2.2) with heap := (d.2.2.2.2.1.1), toks := (d.2.2.2.2.1.2.1) }
set_option synthInstance.maxSize 100000 in
set_option synthInstance.maxHeartbeats 800000 in
@[irreducible] noncomputable def k_segK1 : (World × (ExcName → Option Value) × (Str → Option Value) × (Str → Option Value)) × (Around × Nat × Nat × Addr) × (Value × Heap × Heap × Addr) × ((Str → Option Value) × (List (Addr × Obj)) × LawCells × Shared) × (Heap × Nat × (Flow → Shared → Prop) × (Value → Shared → Prop)) × (Addr × Nat × Tok × (Nat → List Nat)) × ((Nat → Nat) × (Option Value)) := pick (by haveI := ne_World; haveI := ne_Around; haveI := ne_Shared; haveI := ne_Cells; exact inferInstance) s_segK1
theorem segK1_c : s_segK1 k_segK1 := by
  delta s_segK1
  intro B X TT hd hu F N hy mW hW cR hr3 cQ hWr hrm ret
  have B0 := B
  walk_at "m:fill"
  simp only [cellLed, List.cons_append, List.nil_append] at N
  have F0 := Mine.Fr.know F mW
  refine Mine.by_op fun P9 bk9 => ?_
  obtain ⟨wvs, nW, hWm, hWv⟩ := hW
  refine bk9 ?_; clear bk9 P9
  dsimp only [lawK, fBs]
  (try dsimp only [lawS, lawEnv, lawA, lawParts] at B)
  walk_at "m:body"
  refine wpP_mono (wpP_toks_of (n := (k_segK1.2.2.2.2.1.2.1)) (Nat.le_refl _) (wpP_execs_one (Q := fun f s' => (k_segK1.2.2.2.2.1.2.1) ≤ s'.toks → (k_segK1.2.2.2.2.1.2.2.1) f s') (wpP_Assign (ListComp_bytes (h₀ := (k_segK1.2.2.1.2.2.1)) (L := (k_segK1.2.2.1.2.2.2)) (m := fun y => if y = Str.ofString "ways" then some (.ref (k_segK1.2.2.2.2.2.1.1)) else (k_segK1.2.2.2.1.1) y) (by with_unfolding_all rfl) (by decide) (by rfl) (by decide) (by rfl) rfl (wpP_Call rfl ?_) (fun _ => rfl)) (by rfl)))) (fun _ _ q => q.2 q.1) fun _ _ e => e.2
  clear F
  k_steps
  (walk_at "m:hide"; rename_i tb; walk_at "m:bare")
  refine keeper_fn F0 X (by k_is) ?_
  refine givesP_use (bswap (k_segK1.1.1) ((k_segK1.2.2.2.2.2.2.1) 3).toUInt8 ((k_segK1.2.2.2.2.2.2.1) 2).toUInt8 ((k_segK1.2.2.2.2.2.2.1) 1).toUInt8 ((k_segK1.2.2.2.2.2.2.1) 0).toUInt8) B0 F0 X N TT rfl ⟨tb, _, by rw [hWr]; rfl⟩ (by omega) (by omega) ?_
  rintro r9 add9 h9 tk9 F9 N9 lt9 ⟨t9, hr9⟩
  subst hr9
  replace N9 : News (k_segK1.2.2.1.2.2.1) (k_segK1.2.2.1.2.2.2) h9 (add9 ++ (cellLed (k_segK1.2.2.1.2.2.2) (k_segK1.2.2.2.1.2.2.1) ++ (k_segK1.2.2.2.1.2.1))) := N9
  replace lt9 : ∀ q ∈ cellLed (k_segK1.2.2.1.2.2.2) (k_segK1.2.2.2.1.2.2.1) ++ (k_segK1.2.2.2.1.2.1), ∀ p ∈ add9, q.1 < p.1 := lt9
  refine ⟨_, _, add9 ++ (cellLed (k_segK1.2.2.1.2.2.2) (k_segK1.2.2.2.1.2.2.1) ++ (k_segK1.2.2.2.1.2.1)), rfl, (show 4 ≤ 100 by decide), F9, N9, ?_⟩
  rintro s₂ ⟨h2, rfl⟩
  show LCg.CompRest _ _ _ _ _ _ _ _ _ _ _ _ _ _ _ 4 0 [] _
  refine comp_all (fun i v => ∃ t, v = .int ((k_segK1.2.2.2.2.2.2.1) i : Int) t) ?_ ?_
  · intro i v ys I oI C oC D m₂ h3 tk3 E' hi qz139 hyl hC hx F3 N3 off ne
    refine Mine.by_op fun P9 bk9 => ?_
    obtain ⟨u, t, hu, rfl⟩ := qz139
    refine bk9 ?_; clear bk9 P9
    have hu' : ((u.toNat : Nat) : Int) = ((k_segK1.2.2.2.2.2.2.1) i : Int) := by
      have key : ∀ j, j < 4 → (((k_segK1.2.2.2.2.2.2.1) j).toUInt8).toNat = (k_segK1.2.2.2.2.2.2.1) j := fun j hj => by
        have := hrm j hj
        show (k_segK1.2.2.2.2.2.2.1) j % 256 = (k_segK1.2.2.2.2.2.2.1) j
        omega
      have hi4 : i = 0 ∨ i = 1 ∨ i = 2 ∨ i = 3 := by omega
      rcases hi4 with rfl | rfl | rfl | rfl
      · refine Mine.by_op fun P9 bk9 => ?_
        obtain rfl : u = ((k_segK1.2.2.2.2.2.2.1) 0).toUInt8 := (Option.some.inj hu).symm
        refine bk9 ?_; clear bk9 P9
        rw [key 0 (by decide)]
      · refine Mine.by_op fun P9 bk9 => ?_
        obtain rfl : u = ((k_segK1.2.2.2.2.2.2.1) 1).toUInt8 := (Option.some.inj hu).symm
        refine bk9 ?_; clear bk9 P9
        rw [key 1 (by decide)]
      · refine Mine.by_op fun P9 bk9 => ?_
        obtain rfl : u = ((k_segK1.2.2.2.2.2.2.1) 2).toUInt8 := (Option.some.inj hu).symm
        refine bk9 ?_; clear bk9 P9
        rw [key 2 (by decide)]
      · refine Mine.by_op fun P9 bk9 => ?_
        obtain rfl : u = ((k_segK1.2.2.2.2.2.2.1) 3).toUInt8 := (Option.some.inj hu).symm
        refine bk9 ?_; clear bk9 P9
        rw [key 3 (by decide)]
    rw [hu'] at hx
    k_steps
    unfold Stop
    exact LCg.CompEnd.intro (by assumption) (by assumption) (add9 ++ (cellLed (k_segK1.2.2.1.2.2.2) (k_segK1.2.2.2.1.2.2.1) ++ (k_segK1.2.2.2.1.2.1))) (fun p hp => hp) off trivial ⟨rfl, _, rfl⟩
  · intro ys hv
    unfold LCg.FinE
    intro D h3 tk3 F3 N3 o1
    have o2 : LCg.Off1 D (cellLed (k_segK1.2.2.1.2.2.2) (k_segK1.2.2.2.1.2.2.1) ++ (k_segK1.2.2.2.1.2.1)) := off1_of fun p hp => off1_mem o1 p (List.mem_append_right _ hp)
    have yA : Young (k_segK1.2.2.1.2.2.2) ((D, LCg.lst ys) :: add9) := young_off (c := (k_segK1.2.2.2.1.2.2.1)) (R := (k_segK1.2.2.2.1.2.1)) o2 fun p hp => .inr (lt9 ((k_segK1.2.2.1.2.2.2) + 11, (k_segK1.2.2.2.1.2.2.1).oQ) (.head _) p hp)
    have yT : Young (k_segK1.2.2.1.2.2.2) (((D, LCg.lst ys) :: add9) ++ (k_segK1.2.2.2.1.2.1)) := fun p hp => (List.mem_append.mp hp).elim (yA p) (hy p)
    have N4 := perm_cells (add := (D, LCg.lst ys) :: add9) (A := cellLed (k_segK1.2.2.1.2.2.2) (k_segK1.2.2.2.1.2.2.1)) (T := (k_segK1.2.2.2.1.2.1)) N3
    simp only [cellLed, List.cons_append, List.nil_append] at N4 yT
    clear N3
    (try dsimp only)
    k_steps
    (walk_at "m:hide"; rename_i h8 oQ F8 N8 dQ htk; walk_at "m:bare")
    refine ret h8 _ oQ ((D, LCg.lst ys) :: add9) D ys _ htk (Mine.Fr.alike F8 fun z => (know_ite mW (fun _ => rfl) z).symm) N8 yA (fun p hp q hq => ?_) dQ (.head _) hv
    rcases List.mem_cons.mp hp with hp | hp
    · rw [hp]; exact off1_mem o2 q (List.mem_append_right _ hq)
    · exact Nat.ne_of_lt (lt9 q (List.mem_append_right _ hq) p hp)
theorem segK1 (w : World) {mean : ExcName → Option Value} {mg mb : Str → Option Value} {A₀ : Around} {dp un : Nat} {fa : Addr} {cd : Value} {base g : Heap} {L : Addr} {m : Str → Option Value} {T : List (Addr × Obj)} {c : LawCells} {s : Shared} {h : Heap} {tk : Nat} {Q : Flow → Shared → Prop} {E : Value → Shared → Prop}
    (B : Below A₀ base [] g) (X : (Mine.hd.heap_1 w.params).In g) (TT : Top Mine.hd.view_1 (looseW Mine.hd.view_1 []) mean mg mb g) (hd : dp + 40 < recursionLimit) (hu : un + 8 * 40 < cLine)
    (F : Fr g L h m) (N : News g L h (cellLed L c ++ T)) (hy : Young L T)
    {aW : Addr} {r : Nat} {tR : Tok} {W : Nat → List Nat} {rm : Nat → Nat} {vQ : Option Value}
    (mW : m (Str.ofString "ways") = some (.ref aW)) (hW : Ways T aW W) (cR : c.oR.data = .cell (some (.int (r : Int) tR))) (hr3 : r < 3) (cQ : c.oQ.data = .cell vQ) (hWr : W r = [rm 3, rm 2, rm 1, rm 0]) (hrm : ∀ i, i < 4 → rm i < 3)
    (ret : ∀ h' tk' oQ add aQ vs nQ, tk ≤ tk' → Fr g L h' m → News g L h' (cellLed L { c with oQ := oQ } ++ (add ++ T)) → Young L add → Apart add T → oQ.data = .cell (some (.ref aQ)) → (aQ, listOf (List.toArray vs) nQ) ∈ add → ValsF vs 4 (fun i v => ∃ t, v = .int (rm i : Int) t) → Q .next { s with heap := h', toks := tk' }) : wpP (model PySem.Challenge.rw_zo0012_01.row.prog w) (lawA w.params dp un (some []) L fa cd) (execs (((lawK w.params).drop 1).take 1) (lawEnv w.params L fa cd)) Q E { s with heap := h, toks := tk } :=
  pick_all k_segK1.eq_1 segK1_c ((w, mean, mg, mb), (A₀, dp, un, fa), (cd, base, g, L), (m, T, c, s), (h, tk, Q, E), (aW, r, tR, W), (rm, vQ)) B X TT hd hu F N hy mW hW cR hr3 cQ hWr hrm ret
end
-- G23
section
local macro_rules | `(tactic| walk_at $s:str) => `(tactic| k_extra $(Lean.Syntax.mkStrLit ("xG23:" ++ s.getString)))
local macro_rules | `(tactic| walk_at $s:str) => `(tactic| k_extra $(Lean.Syntax.mkStrLit ("xG23:" ++ s.getString)))
theorem setup_G23 : True := by
  k_with "xG23:CompSrc" => (refine Mine.stop ?_)
  k_with "xG23:CompEnd" => (refine Mine.stop ?_)
  k_with "xG23:m:subb" => ((k_here; (with_unfolding_all refine' Mine.sub_vals ?zzk1 ?zzk2 ?zzk3 ?zzk4 ?zzk5 ?zzk7 ?_ ?zzk6; (case zzk2 => k_asm); (case zzk3 => walk_at "m:mem"); (case zzk1 => assumption); (case zzk4 => walk_at "m:idx"); (case zzk5 => omega); (case zzk7 => decide); (case zzk6 => with_unfolding_all rfl)); rintro qvb' ⟨qtb', qhb'⟩; cases qhb'))
  k_with "xG23:subscriptTail Name Name ref int" => (walk_at "m:subb")
  k_with "xG23:subscriptTail Name BinOp ref int" => (walk_at "m:subb")
  k_with "xG23:m:hide" => (have qB' := True.intro; have qD' := True.intro; have qF' := True.intro; have qFG' := True.intro; have qL' := True.intro; have qN' := True.intro; have qT' := True.intro; have qX' := True.intro; have qY' := True.intro; have qcells' := True.intro; have qd' := True.intro; have qfF := True.intro; have qg' := True.intro; have qh' := True.intro; have qh0' := True.intro; have qh1' := True.intro; have qhb' := True.intro; have qhc' := True.intro; have qhd' := True.intro; have qhp := True.intro; have qhv' := True.intro; have qhz := True.intro; have qhz' := True.intro; have qjk' := True.intro; have qkj' := True.intro; have ql1 := True.intro; have ql2 := True.intro; have qlo' := True.intro; have qnE' := True.intro; have qo' := True.intro; have qo1' := True.intro; have qp := True.intro; have qtb' := True.intro; have qtj' := True.intro; have qtk' := True.intro; have qtv' := True.intro; have qtx' := True.intro; have qvb' := True.intro; have qvv' := True.intro; have qx' := True.intro; have qzz' := True.intro)
  k_with "xG23:m:bare" => (clear qB' qD' qF' qFG' qL' qN' qT' qX' qY' qcells' qd' qfF qg' qh' qh0' qh1' qhb' qhc' qhd' qhp qhv' qhz qhz' qjk' qkj' ql1 ql2 qlo' qnE' qo' qo1' qp qtb' qtj' qtk' qtv' qtx' qvb' qvv' qx' qzz')
  trivial
set_option synthInstance.maxSize 100000 in
set_option synthInstance.maxHeartbeats 800000 in
noncomputable def s_segK2 (d : (World × (ExcName → Option Value) × (Str → Option Value) × (Str → Option Value)) × (Around × Nat × Nat × (Option (List Code))) × (Addr × Value × Heap × Heap) × (Addr × (Str → Option Value) × (List (Addr × Obj)) × LawCells) × (Shared × Heap × Nat × (Flow → Shared → Prop)) × ((Value → Shared → Prop) × Addr × Nat × (List Value)) × ((Nat → Nat))) : Prop := ∀ (B : Below (d.2.1.1) (d.2.2.1.2.2.1) [] (d.2.2.1.2.2.2)) (X : (Mine.hd.heap_1 (d.1.1).params).In (d.2.2.1.2.2.2)) (TT : Top Mine.hd.view_1 (looseW Mine.hd.view_1 []) (d.1.2.1) (d.1.2.2.1) (d.1.2.2.2) (d.2.2.1.2.2.2)) (hd : (d.2.1.2.1) + 40 < recursionLimit) (hu : (d.2.1.2.2.1) + 8 * 40 < cLine) (F : Fr (d.2.2.1.2.2.2) (d.2.2.2.1.1) (d.2.2.2.2.1.2.1) (d.2.2.2.1.2.1)) (N : News (d.2.2.1.2.2.2) (d.2.2.2.1.1) (d.2.2.2.2.1.2.1) (cellLed (d.2.2.2.1.1) (d.2.2.2.1.2.2.2) ++ (d.2.2.2.1.2.2.1))) (hy : Young (d.2.2.2.1.1) (d.2.2.2.1.2.2.1)) (cQ : (d.2.2.2.1.2.2.2).oQ.data = .cell (some (.ref (d.2.2.2.2.2.1.2.1)))) (hQ : ((d.2.2.2.2.2.1.2.1), listOf (List.toArray (d.2.2.2.2.2.1.2.2.2)) (d.2.2.2.2.2.1.2.2.1)) ∈ (d.2.2.2.1.2.2.1)) (hq : ValsF (d.2.2.2.2.2.1.2.2.2) 4 (fun i v => ∃ t, v = .int ((d.2.2.2.2.2.2) i : Int) t)) (hrm : ∀ i, i < 4 → (d.2.2.2.2.2.2) i < 3) (ret : ∀ h' tk' aN vs add, Fr (d.2.2.1.2.2.2) (d.2.2.2.1.1) h' (fun z => if z = Str.ofString "went" then some (.ref aN) else (d.2.2.2.1.2.1) z) → News (d.2.2.1.2.2.2) (d.2.2.2.1.1) h' (cellLed (d.2.2.2.1.1) (d.2.2.2.1.2.2.2) ++ (add ++ (d.2.2.2.1.2.2.1))) → Young (d.2.2.2.1.1) add → Apart add (d.2.2.2.1.2.2.1) → (aN, listOf (List.toArray vs) 3) ∈ add → ValsF vs 3 (fun j v => ∃ t, v = .int ((3 * (d.2.2.2.2.2.2) j + (d.2.2.2.2.2.2) (j + 1) : Nat) : Int) t) → (d.2.2.2.2.1.2.2.2) .next { (d.2.2.2.2.1.1) with heap := h', toks := tk' }), wpAny (model PySem.Challenge.rw_zo0012_01.row.prog (d.1.1)) (lawA (d.1.1).params (d.2.1.2.1) (d.2.1.2.2.1) (d.2.1.2.2.2) (d.2.2.2.1.1) (d.2.2.1.1) (d.2.2.1.2.1)) (execs (((lawK (d.1.1).params).drop 2).take 1) (lawEnv (d.1.1).params (d.2.2.2.1.1) (d.2.2.1.1) (d.2.2.1.2.1))) (d.2.2.2.2.1.2.2.2) (d.2.2.2.2.2.1.1) { (d.2.2.2.2.1.1) with heap := (d.2.2.2.2.1.2.1), toks := (d.2.2.2.2.1.2.2.1) }
set_option synthInstance.maxSize 100000 in
set_option synthInstance.maxHeartbeats 800000 in
@[irreducible] noncomputable def k_segK2 : (World × (ExcName → Option Value) × (Str → Option Value) × (Str → Option Value)) × (Around × Nat × Nat × (Option (List Code))) × (Addr × Value × Heap × Heap) × (Addr × (Str → Option Value) × (List (Addr × Obj)) × LawCells) × (Shared × Heap × Nat × (Flow → Shared → Prop)) × ((Value → Shared → Prop) × Addr × Nat × (List Value)) × ((Nat → Nat)) := pick (by haveI := ne_World; haveI := ne_Around; haveI := ne_Shared; haveI := ne_Cells; exact inferInstance) s_segK2
theorem segK2_c : s_segK2 k_segK2 := by
  delta s_segK2
  intro B X TT hd hu F N hy cQ hQ hq hrm ret
  walk_at "m:fill"
  simp only [cellLed, List.cons_append, List.nil_append] at N
  dsimp only [lawK, fBs]
  walk_at "m:body"
  k_steps
  (walk_at "m:hide"; rename_i h1 tk1 u1 u2 u3 hr F1 N1 kp; walk_at "m:bare")
  unfold Stop
  refine LCg.CompSrc.range (n := 3) (by rfl) F1 (news := cellLed (k_segK2.2.2.2.1.1) (k_segK2.2.2.2.1.2.2.2) ++ (k_segK2.2.2.2.1.2.2.1)) N1 hr (by decide) (by decide) (by decide) ?_
  intro g'
  refine comp_all (fun j v => ∃ t, v = .int ((3 * (k_segK2.2.2.2.2.2.2) j + (k_segK2.2.2.2.2.2.2) (j + 1) : Nat) : Int) t) ?_ ?_
  · rintro i v ys I oI C oC D m₂ h2 tk2 E' hi ⟨t, rfl⟩ hyl hC hx F2 N2 off ne
    have N3 := N2
    simp only [cellLed, List.cons_append, List.nil_append] at N3
    clear F1 N1 hr kp N2
    rw [Int.zero_add] at hx
    have b0 := hrm i (by omega)
    have b1 := hrm (i + 1) (by omega)
    k_steps
    unfold Stop
    refine LCg.CompEnd.intro (by assumption) (by assumption) (cellLed (k_segK2.2.2.2.1.1) (k_segK2.2.2.2.1.2.2.2) ++ (k_segK2.2.2.2.1.2.2.1)) (fun p hp => hp) off trivial ⟨rfl, Mine.int_val ?_⟩
    omega
  · intro ys hv
    unfold LCg.FinA
    intro D h2 tk2 F2 N2 o1
    refine wpAny_execs_nil ?_
    refine ret h2 tk2 D ys [(D, LCg.lst ys)] F2 (perm_cells (add := [(D, LCg.lst ys)]) (A := cellLed (k_segK2.2.2.2.1.1) (k_segK2.2.2.2.1.2.2.2)) (T := (k_segK2.2.2.2.1.2.2.1)) N2) (young_off (c := (k_segK2.2.2.2.1.2.2.2)) o1 young_nil) (apart_cons (fun q hq => off1_mem o1 q (List.mem_append_right _ hq)) apart_nil) ?_ hv
    rw [lst3 hv.1]; exact .head _
theorem segK2 (w : World) {mean : ExcName → Option Value} {mg mb : Str → Option Value} {A₀ : Around} {dp un : Nat} {gd : Option (List Code)} {fa : Addr} {cd : Value} {base g : Heap} {L : Addr} {m : Str → Option Value} {T : List (Addr × Obj)} {c : LawCells} {s : Shared} {h : Heap} {tk : Nat} {Q : Flow → Shared → Prop} {E : Value → Shared → Prop}
    (B : Below A₀ base [] g) (X : (Mine.hd.heap_1 w.params).In g) (TT : Top Mine.hd.view_1 (looseW Mine.hd.view_1 []) mean mg mb g) (hd : dp + 40 < recursionLimit) (hu : un + 8 * 40 < cLine)
    (F : Fr g L h m) (N : News g L h (cellLed L c ++ T)) (hy : Young L T)
    {aQ : Addr} {nQ : Nat} {qs : List Value} {rm : Nat → Nat}
    (cQ : c.oQ.data = .cell (some (.ref aQ))) (hQ : (aQ, listOf (List.toArray qs) nQ) ∈ T) (hq : ValsF qs 4 (fun i v => ∃ t, v = .int (rm i : Int) t)) (hrm : ∀ i, i < 4 → rm i < 3)
    (ret : ∀ h' tk' aN vs add, Fr g L h' (fun z => if z = Str.ofString "went" then some (.ref aN) else m z) → News g L h' (cellLed L c ++ (add ++ T)) → Young L add → Apart add T → (aN, listOf (List.toArray vs) 3) ∈ add → ValsF vs 3 (fun j v => ∃ t, v = .int ((3 * rm j + rm (j + 1) : Nat) : Int) t) → Q .next { s with heap := h', toks := tk' }) : wpAny (model PySem.Challenge.rw_zo0012_01.row.prog w) (lawA w.params dp un gd L fa cd) (execs (((lawK w.params).drop 2).take 1) (lawEnv w.params L fa cd)) Q E { s with heap := h, toks := tk } :=
  pick_all k_segK2.eq_1 segK2_c ((w, mean, mg, mb), (A₀, dp, un, gd), (fa, cd, base, g), (L, m, T, c), (s, h, tk, Q), (E, aQ, nQ, qs), (rm)) B X TT hd hu F N hy cQ hQ hq hrm ret
set_option synthInstance.maxSize 100000 in
set_option synthInstance.maxHeartbeats 800000 in
noncomputable def s_segK3 (d : (World × (ExcName → Option Value) × (Str → Option Value) × (Str → Option Value)) × (Around × Nat × Nat × (Option (List Code))) × (Addr × Value × Heap × Heap) × (Addr × (Str → Option Value) × (List (Addr × Obj)) × Shared) × (Heap × Nat × (Flow → Shared → Prop) × (Value → Shared → Prop)) × (Addr × Addr × Nat × (List Value)) × ((Nat → Nat) × (Nat → Nat))) : Prop := ∀ (c : LawCells) (B : Below (d.2.1.1) (d.2.2.1.2.2.1) [] (d.2.2.1.2.2.2)) (X : (Mine.hd.heap_1 (d.1.1).params).In (d.2.2.1.2.2.2)) (TT : Top Mine.hd.view_1 (looseW Mine.hd.view_1 []) (d.1.2.1) (d.1.2.2.1) (d.1.2.2.2) (d.2.2.1.2.2.2)) (hd : (d.2.1.2.1) + 40 < recursionLimit) (hu : (d.2.1.2.2.1) + 8 * 40 < cLine) (F : Fr (d.2.2.1.2.2.2) (d.2.2.2.1.1) (d.2.2.2.2.1.1) (d.2.2.2.1.2.1)) (N : News (d.2.2.1.2.2.2) (d.2.2.2.1.1) (d.2.2.2.2.1.1) (cellLed (d.2.2.2.1.1) c ++ (d.2.2.2.1.2.2.1))) (hy : Young (d.2.2.2.1.1) (d.2.2.2.1.2.2.1)) (mN : (d.2.2.2.1.2.1) (Str.ofString "went") = some (.ref (d.2.2.2.2.2.1.1))) (cX : c.oX.data = .cell (some (.ref (d.2.2.2.2.2.1.2.1)))) (hN : ((d.2.2.2.2.2.1.1), listOf (List.toArray (d.2.2.2.2.2.1.2.2.2)) (d.2.2.2.2.2.1.2.2.1)) ∈ (d.2.2.2.1.2.2.1)) (hv : ValsF (d.2.2.2.2.2.1.2.2.2) 3 (fun j v => ∃ t, v = .int ((d.2.2.2.2.2.2.1) j : Int) t)) (hdr : ∀ j, j < 3 → (d.2.2.2.2.2.2.1) j < 9) (hX : Texts (d.2.2.2.1.2.2.1) (d.2.2.2.2.2.1.2.1) (d.2.2.2.2.2.2.2)) (ret : ∀ h' tk' tx, Fr (d.2.2.1.2.2.2) (d.2.2.2.1.1) h' (fun z => if z = Str.ofString "text" then some (.str (Txt.join (Str.ofString "") [txt ((d.2.2.2.2.2.2.2) ((d.2.2.2.2.2.2.1) 0)), txt ((d.2.2.2.2.2.2.2) ((d.2.2.2.2.2.2.1) 1)), txt ((d.2.2.2.2.2.2.2) ((d.2.2.2.2.2.2.1) 2))]) tx) else (d.2.2.2.1.2.1) z) → News (d.2.2.1.2.2.2) (d.2.2.2.1.1) h' (cellLed (d.2.2.2.1.1) c ++ (d.2.2.2.1.2.2.1)) → (d.2.2.2.2.1.2.2.1) .next { (d.2.2.2.1.2.2.2) with heap := h', toks := tk' }), wpAny (model PySem.Challenge.rw_zo0012_01.row.prog (d.1.1)) (lawA (d.1.1).params (d.2.1.2.1) (d.2.1.2.2.1) (d.2.1.2.2.2) (d.2.2.2.1.1) (d.2.2.1.1) (d.2.2.1.2.1)) (execs (((lawK (d.1.1).params).drop 3).take 1) (lawEnv (d.1.1).params (d.2.2.2.1.1) (d.2.2.1.1) (d.2.2.1.2.1))) (d.2.2.2.2.1.2.2.1) (d.2.2.2.2.1.2.2.2) { (d.2.2.2.1.2.2.2) with heap := (d.2.2.2.2.1.1), toks := (d.2.2.2.2.1.2.1) }
set_option synthInstance.maxSize 100000 in
set_option synthInstance.maxHeartbeats 800000 in
@[irreducible] noncomputable def k_segK3 : (World × (ExcName → Option Value) × (Str → Option Value) × (Str → Option Value)) × (Around × Nat × Nat × (Option (List Code))) × (Addr × Value × Heap × Heap) × (Addr × (Str → Option Value) × (List (Addr × Obj)) × Shared) × (Heap × Nat × (Flow → Shared → Prop) × (Value → Shared → Prop)) × (Addr × Addr × Nat × (List Value)) × ((Nat → Nat) × (Nat → Nat)) := pick (by haveI := ne_World; haveI := ne_Around; haveI := ne_Shared; exact inferInstance) s_segK3
theorem segK3_c : s_segK3 k_segK3 := by
  delta s_segK3
  intro c B X TT hd hu F N hy mN cX hN hv hdr hX ret
  walk_at "m:fill"
  simp only [cellLed, List.cons_append, List.nil_append] at N
  have F0 := Mine.Fr.know F mN
  refine Mine.by_op fun P9 bk9 => ?_
  obtain ⟨xvs, nX, hXm, hXv⟩ := hX
  refine bk9 ?_; clear bk9 P9
  clear F
  dsimp only [lawK, fBs]
  walk_at "m:body"
  k_steps
  unfold Stop
  have hsz : (List.toArray (k_segK3.2.2.2.2.2.1.2.2.2)).size = 3 := by rw [List.size_toArray, hv.1]
  refine LCg.CompSrc.ledger (by rfl) F0 (news := cellLed (k_segK3.2.2.2.1.1) c ++ (k_segK3.2.2.2.1.2.2.1)) N (List.mem_append_right _ hN) (by rw [hsz]; decide) ?_
  intro g'
  rw [hsz]
  refine comp_all (fun j v => ∃ t, v = .str (txt ((k_segK3.2.2.2.2.2.2.2) ((k_segK3.2.2.2.2.2.2.1) j))) t) ?_ ?_
  · rintro i v ys I oI C oC D m₂ h2 tk2 E' hi hP hyl hC hx F2 N2 off ne
    refine Mine.by_op fun P9 bk9 => ?_
    obtain ⟨v', e', t', rfl⟩ := hv.2 i hi
    refine bk9 ?_; clear bk9 P9
    have ev : v = .int ((k_segK3.2.2.2.2.2.2.1) i : Int) t' := by
      rw [List.getElem?_toArray, e'] at hP
      exact (Option.some.inj hP).symm
    subst ev
    have N3 := N2
    simp only [cellLed, List.cons_append, List.nil_append] at N3
    have bd := hdr i hi
    clear F0 N N2
    k_steps
    unfold Stop
    exact LCg.CompEnd.intro (by assumption) (by assumption) (cellLed (k_segK3.2.2.2.1.1) c ++ (k_segK3.2.2.2.1.2.2.1)) (fun p hp => hp) off (Or.inr ⟨_, List.mem_append_right _ hN, rfl, _, rfl⟩) ⟨rfl, _, rfl⟩
  · intro ys hv2
    unfold LCg.FinE
    intro D h2 tk2 F2 N2 o1
    refine Mine.by_op fun P9 bk9 => ?_
    obtain ⟨q0, e0, w0, rfl⟩ := hv2.2 0 (by decide)
    refine bk9 ?_; clear bk9 P9
    refine Mine.by_op fun P9 bk9 => ?_
    obtain ⟨q1, e1, w1, rfl⟩ := hv2.2 1 (by decide)
    refine bk9 ?_; clear bk9 P9
    refine Mine.by_op fun P9 bk9 => ?_
    obtain ⟨q2, e2, w2, rfl⟩ := hv2.2 2 (by decide)
    refine bk9 ?_; clear bk9 P9
    have eys : ys = [.str (txt ((k_segK3.2.2.2.2.2.2.2) ((k_segK3.2.2.2.2.2.2.1) 0))) w0, .str (txt ((k_segK3.2.2.2.2.2.2.2) ((k_segK3.2.2.2.2.2.2.1) 1))) w1, .str (txt ((k_segK3.2.2.2.2.2.2.2) ((k_segK3.2.2.2.2.2.2.1) 2))) w2] := list3 hv2.1 e0 e1 e2
    subst eys
    have N3 := N2
    simp only [cellLed, List.cons_append, List.nil_append] at N3
    clear F0 N
    have hlen : (([txt ((k_segK3.2.2.2.2.2.2.2) ((k_segK3.2.2.2.2.2.2.1) 0)), txt ((k_segK3.2.2.2.2.2.2.2) ((k_segK3.2.2.2.2.2.2.1) 1)), txt ((k_segK3.2.2.2.2.2.2.2) ((k_segK3.2.2.2.2.2.2.1) 2))] : List Str).map (·.length)).sum + ([txt ((k_segK3.2.2.2.2.2.2.2) ((k_segK3.2.2.2.2.2.2.1) 0)), txt ((k_segK3.2.2.2.2.2.2.2) ((k_segK3.2.2.2.2.2.2.1) 1)), txt ((k_segK3.2.2.2.2.2.2.2) ((k_segK3.2.2.2.2.2.2.1) 2))] : List Str).length ≤ 1048576 := by
      have h1 := txt_len ((k_segK3.2.2.2.2.2.2.2) ((k_segK3.2.2.2.2.2.2.1) 0))
      have h2 := txt_len ((k_segK3.2.2.2.2.2.2.2) ((k_segK3.2.2.2.2.2.2.1) 1))
      have h3 := txt_len ((k_segK3.2.2.2.2.2.2.2) ((k_segK3.2.2.2.2.2.2.1) 2))
      simp only [List.map_cons, List.map_nil, List.sum_cons, List.sum_nil, List.length_cons, List.length_nil]
      omega
    k_with "xG23:call builtin:str.join" => ((try dsimp only [List.cons_append, List.nil_append]); k_dflt (refine' Mine.join_L ?zzk1 ?zzk2 ?zzk3 ?zzk4 ?zzk5 ?_; (case zzk1 => k_asm); (case zzk2 => walk_at "m:mem"); (case zzk3 => exact .cons _ _ (.cons _ _ (.cons _ _ .nil))); (case zzk4 => decide +kernel); (case zzk5 => assumption)); intro tj' kj'; (try dsimp only))
    k_steps
    (walk_at "m:hide"; rename_i h8 F8 N8; walk_at "m:bare")
    refine wpAny_execs_nil ?_
    exact ret _ _ _ (Mine.Fr.alike F8 fun z => (know_under (know_ite mN fun _ => rfl) z).symm) (news_tl N8)
theorem segK3 (w : World) {mean : ExcName → Option Value} {mg mb : Str → Option Value} {A₀ : Around} {dp un : Nat} {gd : Option (List Code)} {fa : Addr} {cd : Value} {base g : Heap} {L : Addr} {m : Str → Option Value} {T : List (Addr × Obj)} {c : LawCells} {s : Shared} {h : Heap} {tk : Nat} {Q : Flow → Shared → Prop} {E : Value → Shared → Prop}
    (B : Below A₀ base [] g) (X : (Mine.hd.heap_1 w.params).In g) (TT : Top Mine.hd.view_1 (looseW Mine.hd.view_1 []) mean mg mb g) (hd : dp + 40 < recursionLimit) (hu : un + 8 * 40 < cLine)
    (F : Fr g L h m) (N : News g L h (cellLed L c ++ T)) (hy : Young L T)
    {aN aX : Addr} {nN : Nat} {vs : List Value} {dr : Nat → Nat} {y : Nat → Nat}
    (mN : m (Str.ofString "went") = some (.ref aN)) (cX : c.oX.data = .cell (some (.ref aX))) (hN : (aN, listOf (List.toArray vs) nN) ∈ T) (hv : ValsF vs 3 (fun j v => ∃ t, v = .int (dr j : Int) t)) (hdr : ∀ j, j < 3 → dr j < 9) (hX : Texts T aX y)
    (ret : ∀ h' tk' tx, Fr g L h' (fun z => if z = Str.ofString "text" then some (.str (Txt.join (Str.ofString "") [txt (y (dr 0)), txt (y (dr 1)), txt (y (dr 2))]) tx) else m z) → News g L h' (cellLed L c ++ T) → Q .next { s with heap := h', toks := tk' }) : wpAny (model PySem.Challenge.rw_zo0012_01.row.prog w) (lawA w.params dp un gd L fa cd) (execs (((lawK w.params).drop 3).take 1) (lawEnv w.params L fa cd)) Q E { s with heap := h, toks := tk } :=
  pick_all k_segK3.eq_1 segK3_c ((w, mean, mg, mb), (A₀, dp, un, gd), (fa, cd, base, g), (L, m, T, s), (h, tk, Q, E), (aN, aX, nN, vs), (dr, y)) c B X TT hd hu F N hy mN cX hN hv hdr hX ret
set_option synthInstance.maxSize 100000 in
set_option synthInstance.maxHeartbeats 800000 in
noncomputable def s_segK6 (d : (World × (ExcName → Option Value) × (Str → Option Value) × (Str → Option Value)) × (Around × Nat × Nat × (Option (List Code))) × (Addr × Value × Heap × Heap) × (Addr × (Str → Option Value) × (List (Addr × Obj)) × LawCells) × (Shared × Heap × Nat × (Flow → Shared → Prop)) × ((Value → Shared → Prop) × Addr × Addr × Nat) × ((List Value) × (Nat → Nat) × (Nat → Nat))) : Prop := ∀ (B : Below (d.2.1.1) (d.2.2.1.2.2.1) [] (d.2.2.1.2.2.2)) (X : (Mine.hd.heap_1 (d.1.1).params).In (d.2.2.1.2.2.2)) (TT : Top Mine.hd.view_1 (looseW Mine.hd.view_1 []) (d.1.2.1) (d.1.2.2.1) (d.1.2.2.2) (d.2.2.1.2.2.2)) (hd : (d.2.1.2.1) + 40 < recursionLimit) (hu : (d.2.1.2.2.1) + 8 * 40 < cLine) (F : Fr (d.2.2.1.2.2.2) (d.2.2.2.1.1) (d.2.2.2.2.1.2.1) (d.2.2.2.1.2.1)) (N : News (d.2.2.1.2.2.2) (d.2.2.2.1.1) (d.2.2.2.2.1.2.1) (cellLed (d.2.2.2.1.1) (d.2.2.2.1.2.2.2) ++ (d.2.2.2.1.2.2.1))) (hy : Young (d.2.2.2.1.1) (d.2.2.2.1.2.2.1)) (mN : (d.2.2.2.1.2.1) (Str.ofString "went") = some (.ref (d.2.2.2.2.2.1.2.1))) (cM : (d.2.2.2.1.2.2.2).oM.data = .cell (some (.ref (d.2.2.2.2.2.1.2.2.1)))) (hN : ((d.2.2.2.2.2.1.2.1), listOf (List.toArray (d.2.2.2.2.2.2.1)) (d.2.2.2.2.2.1.2.2.2)) ∈ (d.2.2.2.1.2.2.1)) (hv : ValsF (d.2.2.2.2.2.2.1) 3 (fun j v => ∃ t, v = .int ((d.2.2.2.2.2.2.2.1) j : Int) t)) (hdr : ∀ j, j < 3 → (d.2.2.2.2.2.2.2.1) j < 9) (hM : Marks (d.2.2.2.1.2.2.1) (d.2.2.2.2.2.1.2.2.1) (d.2.2.2.2.2.2.2.2)) (ret : ∀ h' tk' tx, Fr (d.2.2.1.2.2.2) (d.2.2.2.1.1) h' (fun z => if z = Str.ofString "total" then some (.int ((mu (d.2.2.2.2.2.2.2.2) ((d.2.2.2.2.2.2.2.1) 0) + mu (d.2.2.2.2.2.2.2.2) ((d.2.2.2.2.2.2.2.1) 1) + mu (d.2.2.2.2.2.2.2.2) ((d.2.2.2.2.2.2.2.1) 2) : Nat) : Int) tx) else (d.2.2.2.1.2.1) z) → News (d.2.2.1.2.2.2) (d.2.2.2.1.1) h' (cellLed (d.2.2.2.1.1) (d.2.2.2.1.2.2.2) ++ (d.2.2.2.1.2.2.1)) → (d.2.2.2.2.1.2.2.2) .next { (d.2.2.2.2.1.1) with heap := h', toks := tk' }), wpAny (model PySem.Challenge.rw_zo0012_01.row.prog (d.1.1)) (lawA (d.1.1).params (d.2.1.2.1) (d.2.1.2.2.1) (d.2.1.2.2.2) (d.2.2.2.1.1) (d.2.2.1.1) (d.2.2.1.2.1)) (execs (((lawK (d.1.1).params).drop 7).take 1) (lawEnv (d.1.1).params (d.2.2.2.1.1) (d.2.2.1.1) (d.2.2.1.2.1))) (d.2.2.2.2.1.2.2.2) (d.2.2.2.2.2.1.1) { (d.2.2.2.2.1.1) with heap := (d.2.2.2.2.1.2.1), toks := (d.2.2.2.2.1.2.2.1) }
set_option synthInstance.maxSize 100000 in
set_option synthInstance.maxHeartbeats 800000 in
@[irreducible] noncomputable def k_segK6 : (World × (ExcName → Option Value) × (Str → Option Value) × (Str → Option Value)) × (Around × Nat × Nat × (Option (List Code))) × (Addr × Value × Heap × Heap) × (Addr × (Str → Option Value) × (List (Addr × Obj)) × LawCells) × (Shared × Heap × Nat × (Flow → Shared → Prop)) × ((Value → Shared → Prop) × Addr × Addr × Nat) × ((List Value) × (Nat → Nat) × (Nat → Nat)) := pick (by haveI := ne_World; haveI := ne_Around; haveI := ne_Shared; haveI := ne_Cells; exact inferInstance) s_segK6
theorem segK6_c : s_segK6 k_segK6 := by
  delta s_segK6
  intro B X TT hd hu F N hy mN cM hN hv hdr hM ret
  walk_at "m:fill"
  simp only [cellLed, List.cons_append, List.nil_append] at N
  have F0 := Mine.Fr.know F mN
  refine Mine.by_op fun P9 bk9 => ?_
  obtain ⟨xvs, nX, hXm, hXv⟩ := hM
  refine bk9 ?_; clear bk9 P9
  have hXv' : ValsF xvs 9 (fun i v => ∃ t, v = .int (mu (k_segK6.2.2.2.2.2.2.2.2) i : Int) t) := ⟨hXv.1, fun i hi => by
    refine Mine.by_op fun P9 bk9 => ?_
    obtain ⟨_, _, t, e⟩ := hXv.2 i hi
    refine bk9 ?_; clear bk9 P9
    exact ⟨_, e, t, rfl⟩⟩
  clear F
  dsimp only [lawK, fBs]
  walk_at "m:body"
  k_steps
  unfold Stop
  have hsz : (List.toArray (k_segK6.2.2.2.2.2.2.1)).size = 3 := by rw [List.size_toArray, hv.1]
  refine LCg.CompSrc.ledger (by rfl) F0 (news := cellLed (k_segK6.2.2.2.1.1) (k_segK6.2.2.2.1.2.2.2) ++ (k_segK6.2.2.2.1.2.2.1)) N (List.mem_append_right _ hN) (by rw [hsz]; decide) ?_
  intro g'
  rw [hsz]
  refine comp_all (fun j v => ∃ t, v = .int (mu (k_segK6.2.2.2.2.2.2.2.2) ((k_segK6.2.2.2.2.2.2.2.1) j) : Int) t) ?_ ?_
  · rintro i v ys I oI C oC D m₂ h2 tk2 E' hi hP hyl hC hx F2 N2 off ne
    refine Mine.by_op fun P9 bk9 => ?_
    obtain ⟨v', e', t', rfl⟩ := hv.2 i hi
    refine bk9 ?_; clear bk9 P9
    have ev : v = .int ((k_segK6.2.2.2.2.2.2.2.1) i : Int) t' := by
      rw [List.getElem?_toArray, e'] at hP
      exact (Option.some.inj hP).symm
    subst ev
    have N3 := N2
    simp only [cellLed, List.cons_append, List.nil_append] at N3
    have bd := hdr i hi
    clear F0 N N2 hXv
    k_steps
    unfold Stop
    exact LCg.CompEnd.intro (by assumption) (by assumption) (cellLed (k_segK6.2.2.2.1.1) (k_segK6.2.2.2.1.2.2.2) ++ (k_segK6.2.2.2.1.2.2.1)) (fun p hp => hp) off (Or.inr ⟨_, List.mem_append_right _ hN, rfl, _, rfl⟩) ⟨rfl, _, rfl⟩
  · intro ys hv2
    unfold LCg.FinE
    intro D h2 tk2 F2 N2 o1
    refine Mine.by_op fun P9 bk9 => ?_
    obtain ⟨w0, w1, w2, rfl⟩ := vals3 hv2
    refine bk9 ?_; clear bk9 P9
    have N3 := N2
    simp only [cellLed, List.cons_append, List.nil_append] at N3
    clear F0 N
    k_steps
    (walk_at "m:hide"; rename_i F8 N8; walk_at "m:bare")
    refine wpAny_execs_nil ?_
    rw [show (mu (k_segK6.2.2.2.2.2.2.2.2) ((k_segK6.2.2.2.2.2.2.2.1) 0) : Int) + ((mu (k_segK6.2.2.2.2.2.2.2.2) ((k_segK6.2.2.2.2.2.2.2.1) 1) : Int) + ((mu (k_segK6.2.2.2.2.2.2.2.2) ((k_segK6.2.2.2.2.2.2.2.1) 2) : Int) + 0)) = ((mu (k_segK6.2.2.2.2.2.2.2.2) ((k_segK6.2.2.2.2.2.2.2.1) 0) + mu (k_segK6.2.2.2.2.2.2.2.2) ((k_segK6.2.2.2.2.2.2.2.1) 1) + mu (k_segK6.2.2.2.2.2.2.2.2) ((k_segK6.2.2.2.2.2.2.2.1) 2) : Nat) : Int) by omega] at F8
    exact ret _ _ _ (Mine.Fr.alike F8 fun z => (know_under (know_ite mN fun _ => rfl) z).symm) (news_tl N8)
theorem segK6 (w : World) {mean : ExcName → Option Value} {mg mb : Str → Option Value} {A₀ : Around} {dp un : Nat} {gd : Option (List Code)} {fa : Addr} {cd : Value} {base g : Heap} {L : Addr} {m : Str → Option Value} {T : List (Addr × Obj)} {c : LawCells} {s : Shared} {h : Heap} {tk : Nat} {Q : Flow → Shared → Prop} {E : Value → Shared → Prop}
    (B : Below A₀ base [] g) (X : (Mine.hd.heap_1 w.params).In g) (TT : Top Mine.hd.view_1 (looseW Mine.hd.view_1 []) mean mg mb g) (hd : dp + 40 < recursionLimit) (hu : un + 8 * 40 < cLine)
    (F : Fr g L h m) (N : News g L h (cellLed L c ++ T)) (hy : Young L T)
    {aN aM : Addr} {nN : Nat} {vs : List Value} {dr : Nat → Nat} {y : Nat → Nat}
    (mN : m (Str.ofString "went") = some (.ref aN)) (cM : c.oM.data = .cell (some (.ref aM))) (hN : (aN, listOf (List.toArray vs) nN) ∈ T) (hv : ValsF vs 3 (fun j v => ∃ t, v = .int (dr j : Int) t)) (hdr : ∀ j, j < 3 → dr j < 9) (hM : Marks T aM y)
    (ret : ∀ h' tk' tx, Fr g L h' (fun z => if z = Str.ofString "total" then some (.int ((mu y (dr 0) + mu y (dr 1) + mu y (dr 2) : Nat) : Int) tx) else m z) → News g L h' (cellLed L c ++ T) → Q .next { s with heap := h', toks := tk' }) : wpAny (model PySem.Challenge.rw_zo0012_01.row.prog w) (lawA w.params dp un gd L fa cd) (execs (((lawK w.params).drop 7).take 1) (lawEnv w.params L fa cd)) Q E { s with heap := h, toks := tk } :=
  pick_all k_segK6.eq_1 segK6_c ((w, mean, mg, mb), (A₀, dp, un, gd), (fa, cd, base, g), (L, m, T, c), (s, h, tk, Q), (E, aN, aM, nN), (vs, dr, y)) B X TT hd hu F N hy mN cM hN hv hdr hM ret
end
-- G24
section
local macro_rules | `(tactic| walk_at $s:str) => `(tactic| k_extra $(Lean.Syntax.mkStrLit ("xG24:" ++ s.getString)))
theorem setup_G24 : True := by
  k_with "xG24:m:hide" => (have qB' := True.intro; have qD' := True.intro; have qF' := True.intro; have qFG' := True.intro; have qL' := True.intro; have qN' := True.intro; have qT' := True.intro; have qX' := True.intro; have qY' := True.intro; have qcells' := True.intro; have qd' := True.intro; have qfF := True.intro; have qg' := True.intro; have qh' := True.intro; have qh0' := True.intro; have qh1' := True.intro; have qhc' := True.intro; have qhd' := True.intro; have qhp := True.intro; have qhv' := True.intro; have qhz := True.intro; have qhz' := True.intro; have qjk' := True.intro; have qkj' := True.intro; have ql1 := True.intro; have ql2 := True.intro; have qlo' := True.intro; have qnE' := True.intro; have qo' := True.intro; have qo1' := True.intro; have qp := True.intro; have qtj' := True.intro; have qtk' := True.intro; have qtv' := True.intro; have qtx' := True.intro; have qvv' := True.intro; have qx' := True.intro; have qzz' := True.intro)
  k_with "xG24:m:bare" => (clear qB' qD' qF' qFG' qL' qN' qT' qX' qY' qcells' qd' qfF qg' qh' qh0' qh1' qhc' qhd' qhp qhv' qhz qhz' qjk' qkj' ql1 ql2 qlo' qnE' qo' qo1' qp qtj' qtk' qtv' qtx' qvv' qx' qzz')
  trivial
/-- the doors' count as the law makes it -/
noncomputable def cnt (dr : Nat → Nat) : Nat → List (Str × Int)
  | 0 => []
  | i + 1 => bump (cnt dr i) (nm (dr i)) 1
theorem cnt_len (dr : Nat → Nat) : ∀ i, (cnt dr i).length ≤ i
  | 0 => Nat.le_refl _
  | i + 1 => by
    have := kdpPut_len (cnt dr i) (nm (dr i)) (kdpLook (cnt dr i) (nm (dr i)) 0 + 1)
    have ih := cnt_len dr i
    show (kdpPut _ _ _).length ≤ _
    omega
set_option synthInstance.maxSize 100000 in
set_option synthInstance.maxHeartbeats 800000 in
noncomputable def s_segK5 (d : (World × (ExcName → Option Value) × (Str → Option Value) × (Str → Option Value)) × (Around × Nat × Nat × (Option (List Code))) × (Addr × Value × Heap × Heap) × (Addr × (Str → Option Value) × (List (Addr × Obj)) × LawCells) × (Shared × Heap × Nat × (Flow → Shared → Prop)) × ((Value → Shared → Prop) × Addr × Nat × (List Value)) × ((Nat → Nat))) : Prop := ∀ (B : Below (d.2.1.1) (d.2.2.1.2.2.1) [] (d.2.2.1.2.2.2)) (X : (Mine.hd.heap_1 (d.1.1).params).In (d.2.2.1.2.2.2)) (TT : Top Mine.hd.view_1 (looseW Mine.hd.view_1 []) (d.1.2.1) (d.1.2.2.1) (d.1.2.2.2) (d.2.2.1.2.2.2)) (hd : (d.2.1.2.1) + 40 < recursionLimit) (hu : (d.2.1.2.2.1) + 8 * 40 < cLine) (F : Fr (d.2.2.1.2.2.2) (d.2.2.2.1.1) (d.2.2.2.2.1.2.1) (d.2.2.2.1.2.1)) (N : News (d.2.2.1.2.2.2) (d.2.2.2.1.1) (d.2.2.2.2.1.2.1) (cellLed (d.2.2.2.1.1) (d.2.2.2.1.2.2.2) ++ (d.2.2.2.1.2.2.1))) (hy : Young (d.2.2.2.1.1) (d.2.2.2.1.2.2.1)) (hE : PassesOwn (model PySem.Challenge.rw_zo0012_01.row.prog (d.1.1)) (lawA (d.1.1).params (d.2.1.2.1) (d.2.1.2.2.1) (d.2.1.2.2.2) (d.2.2.2.1.1) (d.2.2.1.1) (d.2.2.1.2.1)) (lawEnv (d.1.1).params (d.2.2.2.1.1) (d.2.2.1.1) (d.2.2.1.2.1)) (d.2.2.2.2.2.1.1)) (mN : (d.2.2.2.1.2.1) (Str.ofString "went") = some (.ref (d.2.2.2.2.2.1.2.1))) (hN : ((d.2.2.2.2.2.1.2.1), listOf (List.toArray (d.2.2.2.2.2.1.2.2.2)) (d.2.2.2.2.2.1.2.2.1)) ∈ (d.2.2.2.1.2.2.1)) (hv : ValsF (d.2.2.2.2.2.1.2.2.2) 3 (fun j v => ∃ t, v = .int ((d.2.2.2.2.2.2) j : Int) t)) (hdr : ∀ j, j < 3 → (d.2.2.2.2.2.2) j < 9) (ret : ∀ h' tk' m' aD oD, Fr (d.2.2.1.2.2.2) (d.2.2.2.1.1) h' m' → News (d.2.2.1.2.2.2) (d.2.2.2.1.1) h' (cellLed (d.2.2.2.1.1) (d.2.2.2.1.2.2.2) ++ ((aD, oD) :: (d.2.2.2.1.2.2.1))) → @LT.lt Nat _ ((d.2.2.2.1.1) + 11) aD → (∀ q ∈ (d.2.2.2.1.2.2.1), q.1 ≠ aD) → (∀ z, z ≠ Str.ofString "names" → z ≠ Str.ofString "door" → m' z = (d.2.2.2.1.2.1) z) → m' (Str.ofString "names") = some (.ref aD) → IsTab (d.1.1) oD (cnt (d.2.2.2.2.2.2) 3) → (aD == sysModules) = false → (d.2.2.2.2.1.2.2.2) .next { (d.2.2.2.2.1.1) with heap := h', toks := tk' }), wpAny (model PySem.Challenge.rw_zo0012_01.row.prog (d.1.1)) (lawA (d.1.1).params (d.2.1.2.1) (d.2.1.2.2.1) (d.2.1.2.2.2) (d.2.2.2.1.1) (d.2.2.1.1) (d.2.2.1.2.1)) (execs (((lawK (d.1.1).params).drop 5).take 2) (lawEnv (d.1.1).params (d.2.2.2.1.1) (d.2.2.1.1) (d.2.2.1.2.1))) (d.2.2.2.2.1.2.2.2) (d.2.2.2.2.2.1.1) { (d.2.2.2.2.1.1) with heap := (d.2.2.2.2.1.2.1), toks := (d.2.2.2.2.1.2.2.1) }
set_option synthInstance.maxSize 100000 in
set_option synthInstance.maxHeartbeats 800000 in
@[irreducible] noncomputable def k_segK5 : (World × (ExcName → Option Value) × (Str → Option Value) × (Str → Option Value)) × (Around × Nat × Nat × (Option (List Code))) × (Addr × Value × Heap × Heap) × (Addr × (Str → Option Value) × (List (Addr × Obj)) × LawCells) × (Shared × Heap × Nat × (Flow → Shared → Prop)) × ((Value → Shared → Prop) × Addr × Nat × (List Value)) × ((Nat → Nat)) := pick (by haveI := ne_World; haveI := ne_Around; haveI := ne_Shared; haveI := ne_Cells; exact inferInstance) s_segK5
theorem segK5_c : s_segK5 k_segK5 := by
  delta s_segK5
  intro B X TT hd hu F N hy hE mN hN hv hdr ret
  walk_at "m:fill"
  simp only [cellLed, List.cons_append, List.nil_append] at N
  have F0 := Mine.Fr.know F mN
  clear F
  dsimp only [lawK, fBs]
  dsimp only [lawS, lawEnv, lawA, lawParts] at hE B
  walk_at "m:body"
  k_with "xG24:exec For Name Name cons nil" => (with_reducible rename Fr _ _ _ _ => fF; refine Mine.for_wordF fF ?_ (fun _ => rfl) (by first | assumption | passes_own))
  k_steps
  (walk_at "m:hide"; rename_i aD h1 oD loD hsD fsD hiD fiD lD h2 N2; walk_at "m:bare")
  have hlD := allLt_mem (d := aD) (l := cellLed (k_segK5.2.2.2.1.1) (k_segK5.2.2.2.1.2.2.2) ++ (k_segK5.2.2.2.1.2.2.1)) lD
  have hLD : @LT.lt Nat _ ((k_segK5.2.2.2.1.1) + 11) aD := hlD ((k_segK5.2.2.2.1.1) + 11, (k_segK5.2.2.2.1.2.2.2).oQ) (.head _)
  have nD : ∀ q ∈ (k_segK5.2.2.2.1.2.2.1), q.1 ≠ aD := fun q hq => Nat.ne_of_lt (hlD q (List.mem_append_right _ hq))
  have tab0 : IsTab (k_segK5.1.1) oD [] := ⟨_, hsD, fsD⟩
  clear hsD fsD hiD fiD
  refine iter_listW (l := (k_segK5.2.2.2.2.2.1.2.1)) (vs := (k_segK5.2.2.2.2.2.1.2.2.2)) (c := (k_segK5.2.2.2.2.2.1.2.2.1)) (fun i m' led' => ∃ o, led' = cellLed (k_segK5.2.2.2.1.1) (k_segK5.2.2.2.1.2.2.2) ++ ((aD, o) :: (k_segK5.2.2.2.1.2.2.1)) ∧ IsTab (k_segK5.1.1) o (cnt (k_segK5.2.2.2.2.2.2) i) ∧ (∀ z, z ≠ Str.ofString "names" → z ≠ Str.ofString "door" → m' z = (k_segK5.2.2.2.1.2.1) z) ∧ m' (Str.ofString "names") = some (.ref aD)) (by rfl) fF (perm_cells (add := [(aD, oD)]) (A := cellLed (k_segK5.2.2.2.1.1) (k_segK5.2.2.2.1.2.2.2)) (T := (k_segK5.2.2.2.1.2.2.1)) N2) (List.mem_append_right _ (.tail _ hN))
    ⟨oD, rfl, tab0, ?_, rfl⟩ ?_ ?_
  · intro z z1 z2
    (try dsimp only)
    rw [if_neg z1]
    exact know_ite mN (fun _ => rfl) z
  · intro i v m₁ led₁ h4 tk4 I oI hi hvi qz109 hl4 F4 N4 off
    refine Mine.by_op fun P9 bk9 => ?_
    obtain ⟨o, rfl, ⟨ko, hko, hfo⟩, hm1, hmD⟩ := qz109
    refine bk9 ?_; clear bk9 P9
    refine Mine.by_op fun P9 bk9 => ?_
    obtain ⟨v', e', t', rfl⟩ := hv.2 i (by rw [hv.1] at hi; exact hi)
    refine bk9 ?_; clear bk9 P9
    refine Mine.by_op fun P9 bk9 => ?_
    obtain rfl : v = .int ((k_segK5.2.2.2.2.2.2) i : Int) t' := Option.some.inj (hvi.symm.trans e')
    refine bk9 ?_; clear bk9 P9
    have bd := hdr i (by rw [hv.1] at hi; exact hi)
    have hcl : (cnt (k_segK5.2.2.2.2.2.2) i).length ≤ i := cnt_len (k_segK5.2.2.2.2.2.2) i
    have hi3 : i < 3 := by rw [hv.1] at hi; exact hi
    replace N4 : News (k_segK5.2.2.1.2.2.2) (k_segK5.2.2.2.1.1) h4 _ := N4
    replace F4 : Fr (k_segK5.2.2.1.2.2.2) (k_segK5.2.2.2.1.1) h4 _ := F4
    replace F4 := Mine.Fr.know F4 hmD
    have off0 := off1_of off
    simp only [cellLed, List.cons_append, List.nil_append] at N4 off0
    refine Mine.by_op fun P9 bk9 => ?_
    obtain ⟨f11, f10, f9, f8, f7, f6, f5, f4, f3, f2, f1, fD, fT⟩ := off0
    refine bk9 ?_; clear bk9 P9
    dsimp only at f11 f10 f9 f8 f7 f6 f5 f4 f3 f2 f1 fD
    clear fF N2
    k_with "xG24:call ref" => ((with_reducible show wpAny _ _ (call (Value.ref 103) _) _ _ _); k_dflt (refine' gives_use (lname (k_segK5.1.1) ((k_segK5.2.2.2.2.2.2) i)) ?zzk1 ?zzk2 ?zzk3 ?zzk4 ?zzk5 ?zzk6 ?zzk7 ?zzk8 ?zzk9 ?_; walk_at "m:give"; (case zzk7 => exact ⟨bd, _, rfl⟩)); refine Mine.ret_nil ?_; intro t9 h9 tk9 F9 N9; (try dsimp only); (try k_fold))
    k_steps
    (walk_at "m:hide"; rename_i h6 o6 kv6 F6 N6 hd6 hf6; walk_at "m:bare")
    refine Mine.TurnEnd.intro (cellLed (k_segK5.2.2.2.1.1) (k_segK5.2.2.2.1.2.2.2) ++ ((aD, o6) :: (k_segK5.2.2.2.1.2.2.1))) F6 N6 (fun p hp => hp) ?_ ⟨List.mem_append_right _ (.tail _ hN), o6, rfl, ⟨_, hd6, hf6⟩, ?_, rfl⟩
    · have hall : LCg.Off1 I (cellLed (k_segK5.2.2.2.1.1) (k_segK5.2.2.2.1.2.2.2) ++ ((aD, o6) :: (k_segK5.2.2.2.1.2.2.1))) := ⟨f11, f10, f9, f8, f7, f6, f5, f4, f3, f2, f1, fD, fT⟩
      exact off1_mem hall
    · intro z z1 z2
      (try dsimp only)
      rw [if_neg z2]
      exact (know_ite hmD (fun _ => rfl) z).trans (hm1 z z1 z2)
  · intro h5 tk5 m5 led5 F5 N5 hl5 qz79
    refine Mine.by_op fun P9 bk9 => ?_
    obtain ⟨o, rfl, htab, hm1, hmD⟩ := qz79
    refine bk9 ?_; clear bk9 P9
    rw [hv.1] at htab
    refine wpAny_execs_nil ?_
    exact ret _ _ m5 aD o F5 N5 hLD nD hm1 hmD htab loD
theorem segK5 (w : World) {mean : ExcName → Option Value} {mg mb : Str → Option Value} {A₀ : Around} {dp un : Nat} {gd : Option (List Code)} {fa : Addr} {cd : Value} {base g : Heap} {L : Addr} {m : Str → Option Value} {T : List (Addr × Obj)} {c : LawCells} {s : Shared} {h : Heap} {tk : Nat} {Q : Flow → Shared → Prop} {E : Value → Shared → Prop}
    (B : Below A₀ base [] g) (X : (Mine.hd.heap_1 w.params).In g) (TT : Top Mine.hd.view_1 (looseW Mine.hd.view_1 []) mean mg mb g) (hd : dp + 40 < recursionLimit) (hu : un + 8 * 40 < cLine)
    (F : Fr g L h m) (N : News g L h (cellLed L c ++ T)) (hy : Young L T)
    {aN : Addr} {nN : Nat} {vs : List Value} {dr : Nat → Nat} (hE : PassesOwn (model PySem.Challenge.rw_zo0012_01.row.prog w) (lawA w.params dp un gd L fa cd) (lawEnv w.params L fa cd) E)
    (mN : m (Str.ofString "went") = some (.ref aN)) (hN : (aN, listOf (List.toArray vs) nN) ∈ T) (hv : ValsF vs 3 (fun j v => ∃ t, v = .int (dr j : Int) t)) (hdr : ∀ j, j < 3 → dr j < 9)
    (ret : ∀ h' tk' m' aD oD, Fr g L h' m' → News g L h' (cellLed L c ++ ((aD, oD) :: T)) → @LT.lt Nat _ (L + 11) aD → (∀ q ∈ T, q.1 ≠ aD) → (∀ z, z ≠ Str.ofString "names" → z ≠ Str.ofString "door" → m' z = m z) → m' (Str.ofString "names") = some (.ref aD) → IsTab w oD (cnt dr 3) → (aD == sysModules) = false → Q .next { s with heap := h', toks := tk' }) : wpAny (model PySem.Challenge.rw_zo0012_01.row.prog w) (lawA w.params dp un gd L fa cd) (execs (((lawK w.params).drop 5).take 2) (lawEnv w.params L fa cd)) Q E { s with heap := h, toks := tk } :=
  pick_all k_segK5.eq_1 segK5_c ((w, mean, mg, mb), (A₀, dp, un, gd), (fa, cd, base, g), (L, m, T, c), (s, h, tk, Q), (E, aN, nN, vs), (dr)) B X TT hd hu F N hy hE mN hN hv hdr ret
end
-- G25
section
local macro_rules | `(tactic| walk_at $s:str) => `(tactic| k_extra $(Lean.Syntax.mkStrLit ("xG25:" ++ s.getString)))
local macro_rules | `(tactic| walk_at $s:str) => `(tactic| k_extra $(Lean.Syntax.mkStrLit ("xG25:" ++ s.getString)))
theorem setup_G25 : True := by
  k_with "xG25:CompSrc" => (refine Mine.stop ?_)
  k_with "xG25:CompEnd" => (refine Mine.stop ?_)
  k_with "xG25:m:subb" => ((k_here; (with_unfolding_all refine' Mine.sub_vals ?zzk1 ?zzk2 ?zzk3 ?zzk4 ?zzk5 ?zzk7 ?_ ?zzk6; (case zzk2 => k_asm); (case zzk3 => walk_at "m:mem"); (case zzk1 => assumption); (case zzk4 => walk_at "m:idx"); (case zzk5 => omega); (case zzk7 => decide); (case zzk6 => with_unfolding_all rfl)); rintro qvb' ⟨qtb', qhb'⟩; cases qhb'))
  k_with "xG25:subscriptTail Name Name ref int" => (walk_at "m:subb")
  k_with "xG25:m:hide" => (have qB' := True.intro; have qD' := True.intro; have qF' := True.intro; have qFG' := True.intro; have qL' := True.intro; have qN' := True.intro; have qT' := True.intro; have qX' := True.intro; have qY' := True.intro; have qcells' := True.intro; have qd' := True.intro; have qfF := True.intro; have qg' := True.intro; have qh' := True.intro; have qh0' := True.intro; have qh1' := True.intro; have qhb' := True.intro; have qhc' := True.intro; have qhd' := True.intro; have qhp := True.intro; have qhv' := True.intro; have qhz := True.intro; have qhz' := True.intro; have qjk' := True.intro; have qkj' := True.intro; have ql1 := True.intro; have ql2 := True.intro; have qlo' := True.intro; have qnE' := True.intro; have qo' := True.intro; have qo1' := True.intro; have qp := True.intro; have qtb' := True.intro; have qtj' := True.intro; have qtk' := True.intro; have qtv' := True.intro; have qtx' := True.intro; have qvb' := True.intro; have qvv' := True.intro; have qx' := True.intro; have qzz' := True.intro)
  k_with "xG25:m:bare" => (clear qB' qD' qF' qFG' qL' qN' qT' qX' qY' qcells' qd' qfF qg' qh' qh0' qh1' qhb' qhc' qhd' qhp qhv' qhz qhz' qjk' qkj' ql1 ql2 qlo' qnE' qo' qo1' qp qtb' qtj' qtk' qtv' qtx' qvb' qvv' qx' qzz')
  trivial
noncomputable def lawI (P : Params) : List Stmt := fBs (lawK P) 9
noncomputable def lawJ (P : Params) : List Stmt := fBs (lawI P) 0
/-- the marks of the doors from the i-th to the one ahead of the j-th -/
noncomputable def sumR (y : Nat → Nat) (dr : Nat → Nat) (i j : Nat) : Nat := ((List.range (j - i)).map fun t => mu y (dr (i + t))).sum
theorem slice_lit {prog : Program} {w : World} {A : Around} {E : Value → Shared → Prop} {s : Shared} {h₀ : Heap} {L l : Addr} {m : Str → Option Value} {news : List (Addr × Obj)} {value slice : Expr} {vs : List Value} {c : Nat} {vl vu vk : Value} {a b : Nat} {ops : List Value} {Q : Value → Shared → Prop}
    (F : Fr h₀ L s.heap m) (N : News h₀ L s.heap news) (hm : (l, listOf (List.toArray vs) c) ∈ news) (hz : vs.length ≤ 3) (hb : b ≤ vs.length) (hab : a ≤ b) (pl : IsPart vl (some (a : Int))) (pu : IsPart vu (some (b : Int))) (pk : IsPart vk none)
    (h : ∀ D h', Fr h₀ L h' m → News h₀ L h' ((D, listOf (List.toArray ((vs.drop a).take (b - a))) 0) :: news) → (∀ p ∈ news, p.1 < D) → Q (.ref D) { s with heap := h' })
    (hs : subscripted slice false (.ref l) (.ref s.heap.objs.size) = operate ops (getItem (.ref l) (.ref s.heap.objs.size))) (ht : ∀ r, letTemporaryGo value (.ref l) r = pure ()) :
    wpAny (model prog w) A (subscriptTail value slice (.ref l) (.ref s.heap.objs.size)) Q E { s with heap := s.heap.push { cls := .type "slice", data := .fields #[vl, vu, vk] } } := by
  have hsl : vs.toArray.size ≤ sizeLine := Nat.le_trans (by rw [List.size_toArray]; exact hz) (by decide)
  refine slice_list3 F N ⟨_, (N _ hm).1, rfl, c, rfl⟩ pl pu pk (by decide) (fun h' F' N' => h _ h' F' ?_ (fun p hp => Nat.lt_succ_of_lt (Heap.lt_size (N p hp).1))) hs ht hsl
  rw [slicePick_run _ a b (by rw [List.size_toArray]; exact hb) hab] at N'
  exact N'
theorem intsF : ∀ {ys : List Value} {n : Nat} {f : Nat → Nat}, ValsF ys n (fun j v => ∃ t, v = .int (f j : Int) t) → IntsAre ys ((List.range n).map fun t => (f t : Int))
  | [], n, f, h => by
    have := h.1
    subst this
    exact .nil
  | v :: ys, 0, f, h => nomatch h.1
  | v :: ys, n + 1, f, h => by
    refine Mine.by_op fun P9 bk9 => ?_
    obtain ⟨v', e, t, hv⟩ := h.2 0 (Nat.succ_pos n)
    refine bk9 ?_; clear bk9 P9
    cases e
    subst hv
    rw [List.range_succ_eq_map, List.map_cons, List.map_map]
    refine IntsAre.cons _ _ (intsF (f := fun t => f (t + 1)) ⟨Nat.succ.inj h.1, fun i hi => ?_⟩)
    exact h.2 (i + 1) (Nat.succ_lt_succ hi)
theorem range_sum (f : Nat → Nat) : ∀ l : List Nat, (l.map fun t => (f t : Int)).sum = (((l.map f).sum : Nat) : Int)
  | [] => rfl
  | a :: l => by rw [List.map_cons, List.map_cons, List.sum_cons, List.sum_cons, range_sum f l, Int.natCast_add]
theorem runF {vs : List Value} {n a b : Nat} {G : Nat → Value → Prop} (hv : ValsF vs n G) (hab : a ≤ b) (hb : b ≤ n) : ValsF ((vs.drop a).take (b - a)) (b - a) (fun t v => G (a + t) v) := by
  refine ⟨by rw [List.length_take, List.length_drop, hv.1]; omega, fun i hi => ?_⟩
  refine Mine.by_op fun P9 bk9 => ?_
  obtain ⟨v, e, hG⟩ := hv.2 (a + i) (by omega)
  refine bk9 ?_; clear bk9 P9
  exact ⟨v, by rw [List.getElem?_take_of_lt hi, List.getElem?_drop]; exact e, hG⟩
theorem setup_G25_1 : True := by
  k_with "xG25:subscriptTail Name Slice ref ref" => ((k_here; (with_unfolding_all refine' Mine.slice_lit ?zzF ?zzN ?zzS ?zzz ?zzb ?zza ?zzp ?zzq ?zzk ?_ ?zzs ?zzt; (case zzF => k_asm); (case zzN => k_asm); (case zzS => walk_at "m:mem"); (case zzp => kmk_part); (case zzq => kmk_part); (case zzk => kmk_part); (case zzz => omega); (case zzb => omega); (case zza => omega); (case zzs => with_unfolding_all rfl); (case zzt => kmk_pure)); intro qD' qh' qF' qN' ql1))
  trivial
set_option synthInstance.maxSize 100000 in
set_option synthInstance.maxHeartbeats 800000 in
noncomputable def s_segK8b (d : (World × (ExcName → Option Value) × (Str → Option Value) × (Str → Option Value)) × (Around × Nat × Nat × (Option (List Code))) × (Addr × Value × Heap × Heap) × (Addr × (Str → Option Value) × (List (Addr × Obj)) × LawCells) × (Shared × Heap × Nat × (Flow → Shared → Prop)) × ((Value → Shared → Prop) × Addr × Addr × Addr) × (Nat × Nat × Nat × (List Value)) × ((List Value) × (Nat → Nat) × (Nat → Nat) × (Nat → Nat)) × (Tok × Tok × Tok)) : Prop := ∀ (i : Nat) (j : Nat) (B : Below (d.2.1.1) (d.2.2.1.2.2.1) [] (d.2.2.1.2.2.2)) (X : (Mine.hd.heap_1 (d.1.1).params).In (d.2.2.1.2.2.2)) (TT : Top Mine.hd.view_1 (looseW Mine.hd.view_1 []) (d.1.2.1) (d.1.2.2.1) (d.1.2.2.2) (d.2.2.1.2.2.2)) (hd : (d.2.1.2.1) + 40 < recursionLimit) (hu : (d.2.1.2.2.1) + 8 * 40 < cLine) (F : Fr (d.2.2.1.2.2.2) (d.2.2.2.1.1) (d.2.2.2.2.1.2.1) (d.2.2.2.1.2.1)) (N : News (d.2.2.1.2.2.2) (d.2.2.2.1.1) (d.2.2.2.2.1.2.1) (cellLed (d.2.2.2.1.1) (d.2.2.2.1.2.2.2) ++ (d.2.2.2.1.2.2.1))) (hy : Young (d.2.2.2.1.1) (d.2.2.2.1.2.2.1)) (mN : (d.2.2.2.1.2.1) (Str.ofString "went") = some (.ref (d.2.2.2.2.2.1.2.1))) (mi : (d.2.2.2.1.2.1) (Str.ofString "i") = some (.int (i : Int) (d.2.2.2.2.2.2.2.2.1))) (mj : (d.2.2.2.1.2.1) (Str.ofString "j") = some (.int (j : Int) (d.2.2.2.2.2.2.2.2.2.1))) (mR : (d.2.2.2.1.2.1) (Str.ofString "rate") = some (.int ((d.2.2.2.2.2.2.1.2.2.1) : Int) (d.2.2.2.2.2.2.2.2.2.2))) (hR : (d.2.2.2.2.2.2.1.2.2.1) ≤ 108) (cQ : (d.2.2.2.1.2.2.2).oQ.data = .cell (some (.ref (d.2.2.2.2.2.1.2.2.1)))) (cM : (d.2.2.2.1.2.2.2).oM.data = .cell (some (.ref (d.2.2.2.2.2.1.2.2.2)))) (hij : i < j) (hj : j < 4) (hN : ((d.2.2.2.2.2.1.2.1), listOf (List.toArray (d.2.2.2.2.2.2.1.2.2.2)) (d.2.2.2.2.2.2.1.1)) ∈ (d.2.2.2.1.2.2.1)) (hv : ValsF (d.2.2.2.2.2.2.1.2.2.2) 3 (fun j v => ∃ t, v = .int ((d.2.2.2.2.2.2.2.1.2.1) j : Int) t)) (hdr : ∀ j, j < 3 → (d.2.2.2.2.2.2.2.1.2.1) j < 9) (hQ : ((d.2.2.2.2.2.1.2.2.1), listOf (List.toArray (d.2.2.2.2.2.2.2.1.1)) (d.2.2.2.2.2.2.1.2.1)) ∈ (d.2.2.2.1.2.2.1)) (hq : ValsF (d.2.2.2.2.2.2.2.1.1) 4 (fun i v => ∃ t, v = .int ((d.2.2.2.2.2.2.2.1.2.2.1) i : Int) t)) (hM : Marks (d.2.2.2.1.2.2.1) (d.2.2.2.2.2.1.2.2.2) (d.2.2.2.2.2.2.2.1.2.2.2)) (fact : (d.2.2.2.2.2.2.2.1.2.2.1) i = (d.2.2.2.2.2.2.2.1.2.2.1) j → 6 * sumR (d.2.2.2.2.2.2.2.1.2.2.2) (d.2.2.2.2.2.2.2.1.2.1) i j = (d.2.2.2.2.2.2.1.2.2.1) * (j - i)) (ret : ∀ h' tk' m' add, Fr (d.2.2.1.2.2.2) (d.2.2.2.1.1) h' m' → News (d.2.2.1.2.2.2) (d.2.2.2.1.1) h' (cellLed (d.2.2.2.1.1) (d.2.2.2.1.2.2.2) ++ (add ++ (d.2.2.2.1.2.2.1))) → Young (d.2.2.2.1.1) add → Apart add (d.2.2.2.1.2.2.1) → (∀ z, z ≠ Str.ofString "start" → m' z = (d.2.2.2.1.2.1) z) → ((d.2.2.2.2.2.2.2.1.2.2.1) i ≠ (d.2.2.2.2.2.2.2.1.2.2.1) j → m' (Str.ofString "start") = (d.2.2.2.1.2.1) (Str.ofString "start")) → ((d.2.2.2.2.2.2.2.1.2.2.1) i = (d.2.2.2.2.2.2.2.1.2.2.1) j → ∃ t, m' (Str.ofString "start") = some (.int ((d.2.2.2.2.2.2.2.1.2.2.1) i : Int) t)) → (d.2.2.2.2.1.2.2.2) .next { (d.2.2.2.2.1.1) with heap := h', toks := tk' }), wpAny (model PySem.Challenge.rw_zo0012_01.row.prog (d.1.1)) (lawA (d.1.1).params (d.2.1.2.1) (d.2.1.2.2.1) (d.2.1.2.2.2) (d.2.2.2.1.1) (d.2.2.1.1) (d.2.2.1.2.1)) (execs (lawJ (d.1.1).params) (lawEnv (d.1.1).params (d.2.2.2.1.1) (d.2.2.1.1) (d.2.2.1.2.1))) (d.2.2.2.2.1.2.2.2) (d.2.2.2.2.2.1.1) { (d.2.2.2.2.1.1) with heap := (d.2.2.2.2.1.2.1), toks := (d.2.2.2.2.1.2.2.1) }
set_option synthInstance.maxSize 100000 in
set_option synthInstance.maxHeartbeats 800000 in
@[irreducible] noncomputable def k_segK8b : (World × (ExcName → Option Value) × (Str → Option Value) × (Str → Option Value)) × (Around × Nat × Nat × (Option (List Code))) × (Addr × Value × Heap × Heap) × (Addr × (Str → Option Value) × (List (Addr × Obj)) × LawCells) × (Shared × Heap × Nat × (Flow → Shared → Prop)) × ((Value → Shared → Prop) × Addr × Addr × Addr) × (Nat × Nat × Nat × (List Value)) × ((List Value) × (Nat → Nat) × (Nat → Nat) × (Nat → Nat)) × (Tok × Tok × Tok) := pick (by haveI := ne_World; haveI := ne_Around; haveI := ne_Shared; haveI := ne_Cells; exact inferInstance) s_segK8b
theorem segK8b_c : s_segK8b k_segK8b := by
  delta s_segK8b
  intro i j B X TT hd hu F N hy mN mi mj mR hR cQ cM hij hj hN hv hdr hQ hq hM fact ret
  walk_at "m:fill"
  simp only [cellLed, List.cons_append, List.nil_append] at N
  refine Mine.by_op fun P9 bk9 => ?_
  obtain ⟨xvs, nX, hXm, hXv⟩ := hM
  refine bk9 ?_; clear bk9 P9
  have hXv' : ValsF xvs 9 (fun i v => ∃ t, v = .int (mu (k_segK8b.2.2.2.2.2.2.2.1.2.2.2) i : Int) t) := ⟨hXv.1, fun i hi => by
    refine Mine.by_op fun P9 bk9 => ?_
    obtain ⟨_, _, t, e⟩ := hXv.2 i hi
    refine bk9 ?_; clear bk9 P9
    exact ⟨_, e, t, rfl⟩⟩
  clear hXv
  have d0 := hdr 0 (by decide)
  have d1 := hdr 1 (by decide)
  have d2 := hdr 2 (by decide)
  dsimp only [lawJ, lawI, lawK, fBs]
  walk_at "m:body"
  have F0 := Mine.Fr.know4 F mN mi mj mR
  clear F
  have hl3 : (k_segK8b.2.2.2.2.2.2.1.2.2.2).length = 3 := hv.1
  have hqi : i < 4 := by omega
  k_steps
  · (walk_at "m:hide"; rename_i t1 t2 he t3 h1 F1 N1 D1 h2 F2 N2 l1; walk_at "m:bare")
    have he' : (k_segK8b.2.2.2.2.2.2.2.1.2.2.1) i = (k_segK8b.2.2.2.2.2.2.2.1.2.2.1) j := Int.ofNat.inj he
    replace N2 : News (k_segK8b.2.2.1.2.2.2) (k_segK8b.2.2.2.1.1) h2 ((D1, listOf (List.toArray (((k_segK8b.2.2.2.2.2.2.1.2.2.2).drop i).take (j - i))) 0) :: (cellLed (k_segK8b.2.2.2.1.1) (k_segK8b.2.2.2.1.2.2.2) ++ (k_segK8b.2.2.2.1.2.2.1))) := N2
    unfold Stop
    have hrun := runF (vs := (k_segK8b.2.2.2.2.2.2.1.2.2.2)) hv (Nat.le_of_lt hij) (Nat.le_of_lt_succ hj)
    have hsz : (List.toArray (((k_segK8b.2.2.2.2.2.2.1.2.2.2).drop i).take (j - i))).size = j - i := by rw [List.size_toArray, hrun.1]
    refine LCg.CompSrc.ledger (by rfl) F2 (news := (D1, listOf (List.toArray (((k_segK8b.2.2.2.2.2.2.1.2.2.2).drop i).take (j - i))) 0) :: (cellLed (k_segK8b.2.2.2.1.1) (k_segK8b.2.2.2.1.2.2.2) ++ (k_segK8b.2.2.2.1.2.2.1))) N2 (.head _) (by rw [hsz]; exact Nat.le_trans (m := 3) (by omega) (by decide)) ?_
    intro g'
    rw [hsz]
    refine comp_all (fun t v => ∃ u, v = .int (mu (k_segK8b.2.2.2.2.2.2.2.1.2.2.2) ((k_segK8b.2.2.2.2.2.2.2.1.2.1) (i + t)) : Int) u) ?_ ?_
    · rintro q v ys I oI C oC D m₂ h3 tk3 E' hi hP hyl hC hx F3 N3 off ne
      refine Mine.by_op fun P9 bk9 => ?_
      obtain ⟨v', e', t', rfl⟩ := hrun.2 q hi
      refine bk9 ?_; clear bk9 P9
      have ev : v = .int ((k_segK8b.2.2.2.2.2.2.2.1.2.1) (i + q)) t' := by
        rw [List.getElem?_toArray, e'] at hP
        exact (Option.some.inj hP).symm
      subst ev
      have N4 := N3
      simp only [cellLed, List.cons_append, List.nil_append] at N4
      have bd := hdr (i + q) (by omega)
      clear F1 F2 N1 N2 N3
      k_steps
      unfold Stop
      exact LCg.CompEnd.intro (by assumption) (by assumption) ((D1, listOf (List.toArray (((k_segK8b.2.2.2.2.2.2.1.2.2.2).drop i).take (j - i))) 0) :: (cellLed (k_segK8b.2.2.2.1.1) (k_segK8b.2.2.2.1.2.2.2) ++ (k_segK8b.2.2.2.1.2.2.1))) (fun p hp => hp) off (Or.inr ⟨_, .head _, rfl, _, rfl⟩) ⟨rfl, _, rfl⟩
    · intro ys hv2
      unfold LCg.FinE
      intro D h3 tk3 F3 N3 o1
      have hys := intsF hv2
      have N4 := N3
      rw [lst3 hv2.1] at N4
      simp only [cellLed, List.cons_append, List.nil_append] at N4
      clear F1 F2 N1 N2 N3
      k_with "xG25:m:ints" => exact hys
      k_steps
      · (walk_at "m:hide"; rename_i h7 tk7 k7 F7 N7 bad; walk_at "m:bare")
        refine absurd ?_ bad
        rw [range_sum (fun t => mu (k_segK8b.2.2.2.2.2.2.2.1.2.2.2) ((k_segK8b.2.2.2.2.2.2.2.1.2.1) (i + t)))]
        have e := congrArg (Int.ofNat) (fact he')
        unfold sumR at e
        have e2 : ((j - i : Nat) : Int) = (j : Int) - (i : Int) := Int.natCast_sub (Nat.le_of_lt hij)
        rw [← e2]
        exact e
      · (walk_at "m:hide"; rename_i h7 tk7 k7 F7 N7 ok; walk_at "m:bare")
        replace N7 : News (k_segK8b.2.2.1.2.2.2) (k_segK8b.2.2.2.1.1) h7 (((D, listOf ys.toArray (j - i)) :: (D1, listOf (List.toArray (((k_segK8b.2.2.2.2.2.2.1.2.2.2).drop i).take (j - i))) 0) :: cellLed (k_segK8b.2.2.2.1.1) (k_segK8b.2.2.2.1.2.2.2)) ++ (k_segK8b.2.2.2.1.2.2.1)) := N7
        have o1' : LCg.Off1 D (cellLed (k_segK8b.2.2.2.1.1) (k_segK8b.2.2.2.1.2.2.2) ++ (k_segK8b.2.2.2.1.2.2.1)) := o1.2
        have hL1 : ∀ p ∈ cellLed (k_segK8b.2.2.2.1.1) (k_segK8b.2.2.2.1.2.2.2) ++ (k_segK8b.2.2.2.1.2.2.1), p.1 < D1 := l1
        have hq1 : LCg.Off1 D1 (cellLed (k_segK8b.2.2.2.1.1) (k_segK8b.2.2.2.1.2.2.2) ++ (k_segK8b.2.2.2.1.2.2.1)) := off1_of fun p hp => Nat.ne_of_lt (hL1 p hp)
        refine ret h7 _ _ [(D, listOf ys.toArray (j - i)), (D1, listOf (List.toArray (((k_segK8b.2.2.2.2.2.2.1.2.2.2).drop i).take (j - i))) 0)] (Mine.Fr.alike F7 fun z => (know_under (know_ite mN (know_ite mi (know_ite mj (know_ite mR fun _ => rfl)))) z).symm) (perm_cells (add := [(D, listOf ys.toArray (j - i)), (D1, listOf (List.toArray (((k_segK8b.2.2.2.2.2.2.1.2.2.2).drop i).take (j - i))) 0)]) (A := cellLed (k_segK8b.2.2.2.1.1) (k_segK8b.2.2.2.1.2.2.2)) (T := (k_segK8b.2.2.2.1.2.2.1)) N7) (young_off (c := (k_segK8b.2.2.2.1.2.2.2)) o1' (young_off (c := (k_segK8b.2.2.2.1.2.2.2)) hq1 young_nil)) (apart_cons (fun q hq => off1_mem o1' q (List.mem_append_right _ hq)) (apart_cons (fun q hq => Nat.ne_of_lt (hL1 q (List.mem_append_right _ hq))) apart_nil)) (fun z hz => if_neg hz) (fun e => absurd he' e) (fun _ => ⟨_, if_pos rfl⟩)
  · (walk_at "m:hide"; rename_i t1 t2 he; walk_at "m:bare")
    refine ret (k_segK8b.2.2.2.2.1.2.1) (k_segK8b.2.2.2.2.1.2.2.1) (k_segK8b.2.2.2.1.2.1) [] (Mine.Fr.alike F0 fun z => (know_ite mN (know_ite mi (know_ite mj (know_ite mR fun _ => rfl))) z).symm) N young_nil apart_nil (fun _ _ => rfl) (fun _ => rfl) (fun e => absurd (congrArg Int.ofNat e) he)
theorem segK8b (w : World) {mean : ExcName → Option Value} {mg mb : Str → Option Value} {A₀ : Around} {dp un : Nat} {gd : Option (List Code)} {fa : Addr} {cd : Value} {base g : Heap} {L : Addr} {m : Str → Option Value} {T : List (Addr × Obj)} {c : LawCells} {s : Shared} {h : Heap} {tk : Nat} {Q : Flow → Shared → Prop} {E : Value → Shared → Prop}
    (B : Below A₀ base [] g) (X : (Mine.hd.heap_1 w.params).In g) (TT : Top Mine.hd.view_1 (looseW Mine.hd.view_1 []) mean mg mb g) (hd : dp + 40 < recursionLimit) (hu : un + 8 * 40 < cLine)
    (F : Fr g L h m) (N : News g L h (cellLed L c ++ T)) (hy : Young L T)
    {aN aQ aM : Addr} {nN nQ i j R : Nat} {vs qs : List Value} {dr rm : Nat → Nat} {y : Nat → Nat} {ti tj tR : Tok}
    (mN : m (Str.ofString "went") = some (.ref aN)) (mi : m (Str.ofString "i") = some (.int (i : Int) ti)) (mj : m (Str.ofString "j") = some (.int (j : Int) tj)) (mR : m (Str.ofString "rate") = some (.int (R : Int) tR)) (hR : R ≤ 108)
    (cQ : c.oQ.data = .cell (some (.ref aQ))) (cM : c.oM.data = .cell (some (.ref aM))) (hij : i < j) (hj : j < 4)
    (hN : (aN, listOf (List.toArray vs) nN) ∈ T) (hv : ValsF vs 3 (fun j v => ∃ t, v = .int (dr j : Int) t)) (hdr : ∀ j, j < 3 → dr j < 9) (hQ : (aQ, listOf (List.toArray qs) nQ) ∈ T) (hq : ValsF qs 4 (fun i v => ∃ t, v = .int (rm i : Int) t)) (hM : Marks T aM y)
    (fact : rm i = rm j → 6 * sumR y dr i j = R * (j - i))
    (ret : ∀ h' tk' m' add, Fr g L h' m' → News g L h' (cellLed L c ++ (add ++ T)) → Young L add → Apart add T → (∀ z, z ≠ Str.ofString "start" → m' z = m z) → (rm i ≠ rm j → m' (Str.ofString "start") = m (Str.ofString "start")) → (rm i = rm j → ∃ t, m' (Str.ofString "start") = some (.int (rm i : Int) t)) → Q .next { s with heap := h', toks := tk' }) : wpAny (model PySem.Challenge.rw_zo0012_01.row.prog w) (lawA w.params dp un gd L fa cd) (execs (lawJ w.params) (lawEnv w.params L fa cd)) Q E { s with heap := h, toks := tk } :=
  pick_all k_segK8b.eq_1 segK8b_c ((w, mean, mg, mb), (A₀, dp, un, gd), (fa, cd, base, g), (L, m, T, c), (s, h, tk, Q), (E, aN, aQ, aM), (nN, nQ, R, vs), (qs, dr, rm, y), (ti, tj, tR)) i j B X TT hd hu F N hy mN mi mj mR hR cQ cM hij hj hN hv hdr hQ hq hM fact ret
end
-- G26
section
local macro_rules | `(tactic| walk_at $s:str) => `(tactic| k_extra $(Lean.Syntax.mkStrLit ("xG26:" ++ s.getString)))
theorem setup_G26 : True := by
  k_with "xG26:execs cons" => (refine Mine.stop ?_)
  k_with "xG26:m:hide" => (have qB' := True.intro; have qD' := True.intro; have qF' := True.intro; have qFG' := True.intro; have qL' := True.intro; have qN' := True.intro; have qT' := True.intro; have qX' := True.intro; have qY' := True.intro; have qcells' := True.intro; have qd' := True.intro; have qfF := True.intro; have qg' := True.intro; have qh' := True.intro; have qh0' := True.intro; have qh1' := True.intro; have qhc' := True.intro; have qhd' := True.intro; have qhp := True.intro; have qhv' := True.intro; have qhz := True.intro; have qhz' := True.intro; have qjk' := True.intro; have qkj' := True.intro; have ql1 := True.intro; have ql2 := True.intro; have qlo' := True.intro; have qnE' := True.intro; have qo' := True.intro; have qo1' := True.intro; have qp := True.intro; have qtj' := True.intro; have qtk' := True.intro; have qtv' := True.intro; have qtx' := True.intro; have qvv' := True.intro; have qx' := True.intro; have qzz' := True.intro)
  k_with "xG26:m:bare" => (clear qB' qD' qF' qFG' qL' qN' qT' qX' qY' qcells' qd' qfF qg' qh' qh0' qh1' qhc' qhd' qhp qhv' qhz qhz' qjk' qkj' ql1 ql2 qlo' qnE' qo' qo1' qp qtj' qtk' qtv' qtx' qvv' qx' qzz')
  trivial
theorem small4 {i : Nat} (hi : i < 3) : Builtin.Range.small ((i : Int) + 1) 4 1 = true ∧ Builtin.Range.rangeSize ((i : Int) + 1) 4 1 = ((3 - i : Nat) : Int) := by
  match i, hi with
  | 0, _ => exact ⟨by decide, by decide⟩
  | 1, _ => exact ⟨by decide, by decide⟩
  | 2, _ => exact ⟨by decide, by decide⟩
theorem e34 {i : Nat} (hi : i < 3) : i + 1 + (3 - i) = 4 := by omega
theorem marks_mono {T T' : List (Addr × Obj)} {a : Addr} {y : Nat → Nat} (h : Marks T a y) (hs : ∀ p ∈ T, p ∈ T') : Marks T' a y := by
  refine Mine.by_op fun P9 bk9 => ?_
  obtain ⟨vs, n, e1, e2⟩ := h
  refine bk9 ?_; clear bk9 P9
  exact ⟨vs, n, hs _ e1, e2⟩
theorem lt_ik (i k : Nat) : i < i + 1 + k := by omega
theorem lt_k4 {i k : Nat} (hi : i < 3) (hk : k < 3 - i) : i + 1 + k < 4 := by omega
set_option synthInstance.maxSize 100000 in
set_option synthInstance.maxHeartbeats 800000 in
noncomputable def s_segK8a (d : (World × (ExcName → Option Value) × (Str → Option Value) × (Str → Option Value)) × (Around × Nat × Nat × (Option (List Code))) × (Addr × Value × Heap × Heap) × (Addr × (Str → Option Value) × (List (Addr × Obj)) × LawCells) × (Shared × Nat × (Flow → Shared → Prop) × (Value → Shared → Prop)) × (Addr × Addr × Addr × Nat) × (Nat × Nat × Nat × (List Value)) × ((List Value) × (Nat → Nat) × (Nat → Nat) × (Nat → Nat)) × (Tok × Tok × Tok)) : Prop := ∀ (h : Heap) (i : Nat) (B : Below (d.2.1.1) (d.2.2.1.2.2.1) [] (d.2.2.1.2.2.2)) (X : (Mine.hd.heap_1 (d.1.1).params).In (d.2.2.1.2.2.2)) (TT : Top Mine.hd.view_1 (looseW Mine.hd.view_1 []) (d.1.2.1) (d.1.2.2.1) (d.1.2.2.2) (d.2.2.1.2.2.2)) (hd : (d.2.1.2.1) + 40 < recursionLimit) (hu : (d.2.1.2.2.1) + 8 * 40 < cLine) (F : Fr (d.2.2.1.2.2.2) (d.2.2.2.1.1) h (d.2.2.2.1.2.1)) (N : News (d.2.2.1.2.2.2) (d.2.2.2.1.1) h (cellLed (d.2.2.2.1.1) (d.2.2.2.1.2.2.2) ++ (d.2.2.2.1.2.2.1))) (hy : Young (d.2.2.2.1.1) (d.2.2.2.1.2.2.1)) (hE : PassesOwn (model PySem.Challenge.rw_zo0012_01.row.prog (d.1.1)) (lawA (d.1.1).params (d.2.1.2.1) (d.2.1.2.2.1) (d.2.1.2.2.2) (d.2.2.2.1.1) (d.2.2.1.1) (d.2.2.1.2.1)) (lawEnv (d.1.1).params (d.2.2.2.1.1) (d.2.2.1.1) (d.2.2.1.2.1)) (d.2.2.2.2.1.2.2.2)) (mN : (d.2.2.2.1.2.1) (Str.ofString "went") = some (.ref (d.2.2.2.2.2.1.1))) (mi : (d.2.2.2.1.2.1) (Str.ofString "i") = some (.int (i : Int) (d.2.2.2.2.2.2.2.2.1))) (mS : (d.2.2.2.1.2.1) (Str.ofString "start") = some (.int ((d.2.2.2.2.2.2.1.2.2.1) : Int) (d.2.2.2.2.2.2.2.2.2.1))) (mR : (d.2.2.2.1.2.1) (Str.ofString "rate") = some (.int ((d.2.2.2.2.2.2.1.2.1) : Int) (d.2.2.2.2.2.2.2.2.2.2))) (hR : (d.2.2.2.2.2.2.1.2.1) ≤ 108) (cQ : (d.2.2.2.1.2.2.2).oQ.data = .cell (some (.ref (d.2.2.2.2.2.1.2.1)))) (cM : (d.2.2.2.1.2.2.2).oM.data = .cell (some (.ref (d.2.2.2.2.2.1.2.2.1)))) (hi : i < 3) (hN : ((d.2.2.2.2.2.1.1), listOf (List.toArray (d.2.2.2.2.2.2.1.2.2.2)) (d.2.2.2.2.2.1.2.2.2)) ∈ (d.2.2.2.1.2.2.1)) (hv : ValsF (d.2.2.2.2.2.2.1.2.2.2) 3 (fun j v => ∃ t, v = .int ((d.2.2.2.2.2.2.2.1.2.1) j : Int) t)) (hdr : ∀ j, j < 3 → (d.2.2.2.2.2.2.2.1.2.1) j < 9) (hQ : ((d.2.2.2.2.2.1.2.1), listOf (List.toArray (d.2.2.2.2.2.2.2.1.1)) (d.2.2.2.2.2.2.1.1)) ∈ (d.2.2.2.1.2.2.1)) (hq : ValsF (d.2.2.2.2.2.2.2.1.1) 4 (fun i v => ∃ t, v = .int ((d.2.2.2.2.2.2.2.1.2.2.1) i : Int) t)) (hM : Marks (d.2.2.2.1.2.2.1) (d.2.2.2.2.2.1.2.2.1) (d.2.2.2.2.2.2.2.1.2.2.2)) (fact : ∀ j, i < j → j < 4 → (d.2.2.2.2.2.2.2.1.2.2.1) i = (d.2.2.2.2.2.2.2.1.2.2.1) j → 6 * sumR (d.2.2.2.2.2.2.2.1.2.2.2) (d.2.2.2.2.2.2.2.1.2.1) i j = (d.2.2.2.2.2.2.1.2.1) * (j - i)) (ret : ∀ h' tk' m' add (st' : Nat), Fr (d.2.2.1.2.2.2) (d.2.2.2.1.1) h' m' → News (d.2.2.1.2.2.2) (d.2.2.2.1.1) h' (cellLed (d.2.2.2.1.1) (d.2.2.2.1.2.2.2) ++ (add ++ (d.2.2.2.1.2.2.1))) → Young (d.2.2.2.1.1) add → Apart add (d.2.2.2.1.2.2.1) → (∀ z, z ≠ Str.ofString "start" → z ≠ Str.ofString "j" → m' z = (d.2.2.2.1.2.1) z) → (∃ t, m' (Str.ofString "start") = some (.int (st' : Int) t)) →
      ((∃ b, i < b ∧ b < 4 ∧ (d.2.2.2.2.2.2.2.1.2.2.1) i = (d.2.2.2.2.2.2.2.1.2.2.1) b ∧ st' = (d.2.2.2.2.2.2.2.1.2.2.1) i) ∨ (st' = (d.2.2.2.2.2.2.1.2.2.1) ∧ ∀ b, i < b → b < 4 → (d.2.2.2.2.2.2.2.1.2.2.1) i ≠ (d.2.2.2.2.2.2.2.1.2.2.1) b)) → (d.2.2.2.2.1.2.2.1) .next { (d.2.2.2.2.1.1) with heap := h', toks := tk' }), wpAny (model PySem.Challenge.rw_zo0012_01.row.prog (d.1.1)) (lawA (d.1.1).params (d.2.1.2.1) (d.2.1.2.2.1) (d.2.1.2.2.2) (d.2.2.2.1.1) (d.2.2.1.1) (d.2.2.1.2.1)) (execs (lawI (d.1.1).params) (lawEnv (d.1.1).params (d.2.2.2.1.1) (d.2.2.1.1) (d.2.2.1.2.1))) (d.2.2.2.2.1.2.2.1) (d.2.2.2.2.1.2.2.2) { (d.2.2.2.2.1.1) with heap := h, toks := (d.2.2.2.2.1.2.1) }
set_option synthInstance.maxSize 100000 in
set_option synthInstance.maxHeartbeats 800000 in
@[irreducible] noncomputable def k_segK8a : (World × (ExcName → Option Value) × (Str → Option Value) × (Str → Option Value)) × (Around × Nat × Nat × (Option (List Code))) × (Addr × Value × Heap × Heap) × (Addr × (Str → Option Value) × (List (Addr × Obj)) × LawCells) × (Shared × Nat × (Flow → Shared → Prop) × (Value → Shared → Prop)) × (Addr × Addr × Addr × Nat) × (Nat × Nat × Nat × (List Value)) × ((List Value) × (Nat → Nat) × (Nat → Nat) × (Nat → Nat)) × (Tok × Tok × Tok) := pick (by haveI := ne_World; haveI := ne_Around; haveI := ne_Shared; haveI := ne_Cells; exact inferInstance) s_segK8a
theorem segK8a_c : s_segK8a k_segK8a := by
  delta s_segK8a
  intro h i B X TT hd hu F N hy hE mN mi mS mR hR cQ cM hi hN hv hdr hQ hq hM fact ret
  have hE0 := hE
  have B0 := B
  walk_at "m:fill"
  simp only [cellLed, List.cons_append, List.nil_append] at N
  have F0 := Mine.Fr.know F mi
  clear F
  dsimp only [lawI, lawK, fBs]
  dsimp only [lawS, lawEnv, lawA, lawParts] at hE B
  walk_at "m:body"
  refine wpAny_execs_cons ?_
  obtain ⟨hsm, hsz⟩ := small4 hi
  k_steps
  (walk_at "m:hide"; rename_i h1 tk1 u1 u2 u3 hr F1 N1 kp htk1; walk_at "m:bare")
  refine iter_rangeT (n := 3 - i) (fun k m' led' => ∃ Tk, ∃ st' : Nat, led' = cellLed (k_segK8a.2.2.2.1.1) (k_segK8a.2.2.2.1.2.2.2) ++ (Tk ++ (k_segK8a.2.2.2.1.2.2.1)) ∧ Young (k_segK8a.2.2.2.1.1) Tk ∧ Apart Tk (k_segK8a.2.2.2.1.2.2.1) ∧ (∀ z, z ≠ Str.ofString "start" → z ≠ Str.ofString "j" → m' z = (k_segK8a.2.2.2.1.2.1) z) ∧ (∃ t, m' (Str.ofString "start") = some (.int (st' : Int) t)) ∧
      ((∃ b, i < b ∧ b < i + 1 + k ∧ (k_segK8a.2.2.2.2.2.2.2.1.2.2.1) i = (k_segK8a.2.2.2.2.2.2.2.1.2.2.1) b ∧ st' = (k_segK8a.2.2.2.2.2.2.2.1.2.2.1) i) ∨ (st' = (k_segK8a.2.2.2.2.2.2.1.2.2.1) ∧ ∀ b, i < b → b < i + 1 + k → (k_segK8a.2.2.2.2.2.2.2.1.2.2.1) i ≠ (k_segK8a.2.2.2.2.2.2.2.1.2.2.1) b))) (by rfl) hr hsm hsz F1 N1
    ⟨[], (k_segK8a.2.2.2.2.2.2.1.2.2.1), rfl, young_nil, apart_nil, fun z _ _ => know_ite mi (fun _ => rfl) z, ⟨(k_segK8a.2.2.2.2.2.2.2.2.2.1), (know_ite mi (fun _ => rfl) _).trans mS⟩, Or.inr ⟨rfl, fun b h1 h2 => absurd h2 (by omega)⟩⟩ (by intros; exact Expr.noConfusion) (by intros; exact Expr.noConfusion) ?_ ?_
  · intro k tj m₁ led₁ h4 tk4 I oI htk4 hk qz109 F4 N4 off
    refine Mine.by_op fun P9 bk9 => ?_
    obtain ⟨Tk, st', rfl, hyk, hap, hm1, ⟨tS1, mS1⟩, hst⟩ := qz109
    refine bk9 ?_; clear bk9 P9
    replace N4 : News (k_segK8a.2.2.1.2.2.2) (k_segK8a.2.2.2.1.1) h4 _ := N4
    replace F4 : Fr (k_segK8a.2.2.1.2.2.2) (k_segK8a.2.2.2.1.1) h4 _ := F4
    clear F1 N1 kp hr
    (try clear hsz)
    have off0 := off1_of off
    simp only [cellLed, List.cons_append, List.nil_append] at N4 off0
    refine Mine.by_op fun P9 bk9 => ?_
    obtain ⟨f11, f10, f9, f8, f7, f6, f5, f4, f3, f2, f1, fT⟩ := off0
    refine bk9 ?_; clear bk9 P9
    dsimp only at f11 f10 f9 f8 f7 f6 f5 f4 f3 f2 f1
    have hyI : Young (k_segK8a.2.2.2.1.1) ((I, oI) :: (Tk ++ (k_segK8a.2.2.2.1.2.2.1))) := young_off (c := (k_segK8a.2.2.2.1.2.2.2)) (R := []) ⟨f11, f10, f9, f8, f7, f6, f5, f4, f3, f2, f1, trivial⟩ (fun p hp => (List.mem_append.mp hp).elim (hyk p) (hy p))
    k_steps
    (walk_at "m:hide"; rename_i h5 F5 N5; walk_at "m:bare")
    have N6 : News (k_segK8a.2.2.1.2.2.2) (k_segK8a.2.2.2.1.1) h5 (cellLed (k_segK8a.2.2.2.1.1) (k_segK8a.2.2.2.1.2.2.2) ++ ((I, oI) :: (Tk ++ (k_segK8a.2.2.2.1.2.2.1)))) := perm_cells (add := [(I, oI)]) (A := cellLed (k_segK8a.2.2.2.1.1) (k_segK8a.2.2.2.1.2.2.2)) (T := Tk ++ (k_segK8a.2.2.2.1.2.2.1)) N5
    have hmem : ∀ p ∈ (k_segK8a.2.2.2.1.2.2.1), p ∈ (I, oI) :: (Tk ++ (k_segK8a.2.2.2.1.2.2.1)) := fun p hp => .tail _ (List.mem_append_right _ hp)
    refine segK8b (k_segK8a.1.1) (T := (I, oI) :: (Tk ++ (k_segK8a.2.2.2.1.2.2.1))) (i := i) (j := i + 1 + k) (R := (k_segK8a.2.2.2.2.2.2.1.2.1)) (rm := (k_segK8a.2.2.2.2.2.2.2.1.2.2.1)) (dr := (k_segK8a.2.2.2.2.2.2.2.1.2.1)) (y := (k_segK8a.2.2.2.2.2.2.2.1.2.2.2)) (vs := (k_segK8a.2.2.2.2.2.2.1.2.2.2)) (qs := (k_segK8a.2.2.2.2.2.2.2.1.1)) (aN := (k_segK8a.2.2.2.2.2.1.1)) (aQ := (k_segK8a.2.2.2.2.2.1.2.1)) (aM := (k_segK8a.2.2.2.2.2.1.2.2.1)) (nN := (k_segK8a.2.2.2.2.2.1.2.2.2)) (nQ := (k_segK8a.2.2.2.2.2.2.1.1)) (ti := (k_segK8a.2.2.2.2.2.2.2.2.1)) (tj := tj) (tR := (k_segK8a.2.2.2.2.2.2.2.2.2.2)) B0 X TT hd hu F5 N6 hyI ((hm1 _ (by decide +kernel) (by decide +kernel)).trans mN) ((hm1 _ (by decide +kernel) (by decide +kernel)).trans mi) rfl ((hm1 _ (by decide +kernel) (by decide +kernel)).trans mR) hR cQ cM (lt_ik i k) (lt_k4 hi hk) (hmem _ hN) hv hdr (hmem _ hQ) hq (marks_mono hM hmem) (fact _ (lt_ik i k) (lt_k4 hi hk)) ?_
    intro h7 tk7 m7 add F7 N7 ya aa hm7 hne heq
    have hm7' : ∀ z, z ≠ Str.ofString "start" → z ≠ Str.ofString "j" → m7 z = (k_segK8a.2.2.2.1.2.1) z := fun z z1 z2 => (hm7 z z1).trans ((if_neg z2).trans (hm1 z z1 z2))
    have hyA : Young (k_segK8a.2.2.2.1.1) (add ++ Tk) := fun p hp => (List.mem_append.mp hp).elim (ya p) (hyk p)
    have haA : Apart (add ++ Tk) (k_segK8a.2.2.2.1.2.2.1) := fun p hp q hq => (List.mem_append.mp hp).elim (fun hp => aa p hp q (hmem _ hq)) (fun hp => hap p hp q hq)
    refine Mine.TurnEnd.intro (cellLed (k_segK8a.2.2.2.1.1) (k_segK8a.2.2.2.1.2.2.2) ++ ((add ++ Tk) ++ (k_segK8a.2.2.2.1.2.2.1))) F7 N7 ?_ ?_ ?_
    · intro p hp
      revert hp
      simp only [List.mem_append, List.mem_cons]
      rintro (h | h | (h | h) | h) <;> simp [h]
    · have hcell : ∀ p ∈ cellLed (k_segK8a.2.2.2.1.1) (k_segK8a.2.2.2.1.2.2.2), p.1 ≠ I := off1_mem (l := cellLed (k_segK8a.2.2.2.1.1) (k_segK8a.2.2.2.1.2.2.2)) ⟨f11, f10, f9, f8, f7, f6, f5, f4, f3, f2, f1, trivial⟩
      intro p hp
      rcases List.mem_append.mp hp with hp | hp
      · exact hcell p hp
      · rcases List.mem_append.mp hp with hp | hp
        · rcases List.mem_append.mp hp with hp | hp
          · exact Ne.symm (aa p hp _ (.head _))
          · exact off1_mem fT p (List.mem_append_left _ hp)
        · exact off1_mem fT p (List.mem_append_right _ hp)
    · by_cases e : (k_segK8a.2.2.2.2.2.2.2.1.2.2.1) i = (k_segK8a.2.2.2.2.2.2.2.1.2.2.1) (i + 1 + k)
      · obtain ⟨t, ht⟩ := heq e
        exact ⟨add ++ Tk, (k_segK8a.2.2.2.2.2.2.2.1.2.2.1) i, rfl, hyA, haA, hm7', ⟨t, ht⟩, Or.inl ⟨i + 1 + k, by omega, by omega, e, rfl⟩⟩
      · refine ⟨add ++ Tk, st', rfl, hyA, haA, hm7', ⟨tS1, (hne e).trans ((if_neg (by decide +kernel)).trans mS1)⟩, ?_⟩
        rcases hst with ⟨b, b1, b2, b3, b4⟩ | ⟨q1, q2⟩
        · exact Or.inl ⟨b, b1, by omega, b3, b4⟩
        · refine Or.inr ⟨q1, fun b b1 b2 => ?_⟩
          by_cases eb : b = i + 1 + k
          · rw [eb]; exact e
          · exact q2 b b1 (by omega)
  · intro h5 tk5 m5 led5 F5 N5 qz69
    refine Mine.by_op fun P9 bk9 => ?_
    obtain ⟨Tk, st', rfl, hyk, hap, hm1, hS1, hst⟩ := qz69
    refine bk9 ?_; clear bk9 P9
    refine wpAny_execs_nil ?_
    refine ret _ _ m5 Tk st' F5 N5 hyk hap hm1 hS1 ?_
    have e4 : i + 1 + (3 - i) = 4 := e34 hi
    rw [e4] at hst
    exact hst
theorem segK8a (w : World) {mean : ExcName → Option Value} {mg mb : Str → Option Value} {A₀ : Around} {dp un : Nat} {gd : Option (List Code)} {fa : Addr} {cd : Value} {base g : Heap} {L : Addr} {m : Str → Option Value} {T : List (Addr × Obj)} {c : LawCells} {s : Shared} {h : Heap} {tk : Nat} {Q : Flow → Shared → Prop} {E : Value → Shared → Prop}
    (B : Below A₀ base [] g) (X : (Mine.hd.heap_1 w.params).In g) (TT : Top Mine.hd.view_1 (looseW Mine.hd.view_1 []) mean mg mb g) (hd : dp + 40 < recursionLimit) (hu : un + 8 * 40 < cLine)
    (F : Fr g L h m) (N : News g L h (cellLed L c ++ T)) (hy : Young L T)
    {aN aQ aM : Addr} {nN nQ i R st : Nat} {vs qs : List Value} {dr rm : Nat → Nat} {y : Nat → Nat} {ti tS tR : Tok}
    (hE : PassesOwn (model PySem.Challenge.rw_zo0012_01.row.prog w) (lawA w.params dp un gd L fa cd) (lawEnv w.params L fa cd) E)
    (mN : m (Str.ofString "went") = some (.ref aN)) (mi : m (Str.ofString "i") = some (.int (i : Int) ti)) (mS : m (Str.ofString "start") = some (.int (st : Int) tS)) (mR : m (Str.ofString "rate") = some (.int (R : Int) tR)) (hR : R ≤ 108)
    (cQ : c.oQ.data = .cell (some (.ref aQ))) (cM : c.oM.data = .cell (some (.ref aM))) (hi : i < 3)
    (hN : (aN, listOf (List.toArray vs) nN) ∈ T) (hv : ValsF vs 3 (fun j v => ∃ t, v = .int (dr j : Int) t)) (hdr : ∀ j, j < 3 → dr j < 9) (hQ : (aQ, listOf (List.toArray qs) nQ) ∈ T) (hq : ValsF qs 4 (fun i v => ∃ t, v = .int (rm i : Int) t)) (hM : Marks T aM y)
    (fact : ∀ j, i < j → j < 4 → rm i = rm j → 6 * sumR y dr i j = R * (j - i))
    (ret : ∀ h' tk' m' add (st' : Nat), Fr g L h' m' → News g L h' (cellLed L c ++ (add ++ T)) → Young L add → Apart add T → (∀ z, z ≠ Str.ofString "start" → z ≠ Str.ofString "j" → m' z = m z) → (∃ t, m' (Str.ofString "start") = some (.int (st' : Int) t)) →
      ((∃ b, i < b ∧ b < 4 ∧ rm i = rm b ∧ st' = rm i) ∨ (st' = st ∧ ∀ b, i < b → b < 4 → rm i ≠ rm b)) → Q .next { s with heap := h', toks := tk' }) : wpAny (model PySem.Challenge.rw_zo0012_01.row.prog w) (lawA w.params dp un gd L fa cd) (execs (lawI w.params) (lawEnv w.params L fa cd)) Q E { s with heap := h, toks := tk } :=
  pick_all k_segK8a.eq_1 segK8a_c ((w, mean, mg, mb), (A₀, dp, un, gd), (fa, cd, base, g), (L, m, T, c), (s, tk, Q, E), (aN, aQ, aM, nN), (nQ, R, st, vs), (qs, dr, rm, y), (ti, tS, tR)) h i B X TT hd hu F N hy hE mN mi mS mR hR cQ cM hi hN hv hdr hQ hq hM fact ret
/- the last statement of the keeper: where the kept walk comes back -/
set_option synthInstance.maxSize 100000 in
set_option synthInstance.maxHeartbeats 800000 in
noncomputable def s_segK8 (d : (World × (ExcName → Option Value) × (Str → Option Value) × (Str → Option Value)) × (Around × Nat × Nat × (Option (List Code))) × (Addr × Value × Heap × Heap) × (Addr × (Str → Option Value) × (List (Addr × Obj)) × LawCells) × (Shared × Nat × (Flow → Shared → Prop) × (Value → Shared → Prop)) × (Addr × Addr × Addr × Nat) × (Nat × Nat × Nat × (List Value)) × ((List Value) × (Nat → Nat) × (Nat → Nat) × (Nat → Nat)) × (Tok × Tok)) : Prop := ∀ (h : Heap) (B : Below (d.2.1.1) (d.2.2.1.2.2.1) [] (d.2.2.1.2.2.2)) (X : (Mine.hd.heap_1 (d.1.1).params).In (d.2.2.1.2.2.2)) (TT : Top Mine.hd.view_1 (looseW Mine.hd.view_1 []) (d.1.2.1) (d.1.2.2.1) (d.1.2.2.2) (d.2.2.1.2.2.2)) (hd : (d.2.1.2.1) + 40 < recursionLimit) (hu : (d.2.1.2.2.1) + 8 * 40 < cLine) (F : Fr (d.2.2.1.2.2.2) (d.2.2.2.1.1) h (d.2.2.2.1.2.1)) (N : News (d.2.2.1.2.2.2) (d.2.2.2.1.1) h (cellLed (d.2.2.2.1.1) (d.2.2.2.1.2.2.2) ++ (d.2.2.2.1.2.2.1))) (hy : Young (d.2.2.2.1.1) (d.2.2.2.1.2.2.1)) (hE : PassesOwn (model PySem.Challenge.rw_zo0012_01.row.prog (d.1.1)) (lawA (d.1.1).params (d.2.1.2.1) (d.2.1.2.2.1) (d.2.1.2.2.2) (d.2.2.2.1.1) (d.2.2.1.1) (d.2.2.1.2.1)) (lawEnv (d.1.1).params (d.2.2.2.1.1) (d.2.2.1.1) (d.2.2.1.2.1)) (d.2.2.2.2.1.2.2.2)) (mN : (d.2.2.2.1.2.1) (Str.ofString "went") = some (.ref (d.2.2.2.2.2.1.1))) (mS : (d.2.2.2.1.2.1) (Str.ofString "start") = some (.int ((d.2.2.2.2.2.2.1.2.2.1) : Int) (d.2.2.2.2.2.2.2.2.1))) (mR : (d.2.2.2.1.2.1) (Str.ofString "rate") = some (.int ((d.2.2.2.2.2.2.1.2.1) : Int) (d.2.2.2.2.2.2.2.2.2))) (hR : (d.2.2.2.2.2.2.1.2.1) ≤ 108) (cQ : (d.2.2.2.1.2.2.2).oQ.data = .cell (some (.ref (d.2.2.2.2.2.1.2.1)))) (cM : (d.2.2.2.1.2.2.2).oM.data = .cell (some (.ref (d.2.2.2.2.2.1.2.2.1)))) (hN : ((d.2.2.2.2.2.1.1), listOf (List.toArray (d.2.2.2.2.2.2.1.2.2.2)) (d.2.2.2.2.2.1.2.2.2)) ∈ (d.2.2.2.1.2.2.1)) (hv : ValsF (d.2.2.2.2.2.2.1.2.2.2) 3 (fun j v => ∃ t, v = .int ((d.2.2.2.2.2.2.2.1.2.1) j : Int) t)) (hdr : ∀ j, j < 3 → (d.2.2.2.2.2.2.2.1.2.1) j < 9) (hQ : ((d.2.2.2.2.2.1.2.1), listOf (List.toArray (d.2.2.2.2.2.2.2.1.1)) (d.2.2.2.2.2.2.1.1)) ∈ (d.2.2.2.1.2.2.1)) (hq : ValsF (d.2.2.2.2.2.2.2.1.1) 4 (fun i v => ∃ t, v = .int ((d.2.2.2.2.2.2.2.1.2.2.1) i : Int) t)) (hM : Marks (d.2.2.2.1.2.2.1) (d.2.2.2.2.2.1.2.2.1) (d.2.2.2.2.2.2.2.1.2.2.2)) (fact : ∀ i j, i < j → j < 4 → (d.2.2.2.2.2.2.2.1.2.2.1) i = (d.2.2.2.2.2.2.2.1.2.2.1) j → 6 * sumR (d.2.2.2.2.2.2.2.1.2.2.2) (d.2.2.2.2.2.2.2.1.2.1) i j = (d.2.2.2.2.2.2.1.2.1) * (j - i)) (ret : ∀ h' tk' m' add (st' : Nat), Fr (d.2.2.1.2.2.2) (d.2.2.2.1.1) h' m' → News (d.2.2.1.2.2.2) (d.2.2.2.1.1) h' (cellLed (d.2.2.2.1.1) (d.2.2.2.1.2.2.2) ++ (add ++ (d.2.2.2.1.2.2.1))) → Young (d.2.2.2.1.1) add → Apart add (d.2.2.2.1.2.2.1) → (∀ z, z ≠ Str.ofString "start" → z ≠ Str.ofString "i" → z ≠ Str.ofString "j" → m' z = (d.2.2.2.1.2.1) z) → (∃ t, m' (Str.ofString "start") = some (.int (st' : Int) t)) →
      ((∃ a b, a < b ∧ b < 4 ∧ (d.2.2.2.2.2.2.2.1.2.2.1) a = (d.2.2.2.2.2.2.2.1.2.2.1) b ∧ st' = (d.2.2.2.2.2.2.2.1.2.2.1) a) ∨ (st' = (d.2.2.2.2.2.2.1.2.2.1) ∧ ∀ a b, a < b → b < 4 → (d.2.2.2.2.2.2.2.1.2.2.1) a ≠ (d.2.2.2.2.2.2.2.1.2.2.1) b)) → (d.2.2.2.2.1.2.2.1) .next { (d.2.2.2.2.1.1) with heap := h', toks := tk' }), wpAny (model PySem.Challenge.rw_zo0012_01.row.prog (d.1.1)) (lawA (d.1.1).params (d.2.1.2.1) (d.2.1.2.2.1) (d.2.1.2.2.2) (d.2.2.2.1.1) (d.2.2.1.1) (d.2.2.1.2.1)) (execs (((lawK (d.1.1).params).drop 9).take 1) (lawEnv (d.1.1).params (d.2.2.2.1.1) (d.2.2.1.1) (d.2.2.1.2.1))) (d.2.2.2.2.1.2.2.1) (d.2.2.2.2.1.2.2.2) { (d.2.2.2.2.1.1) with heap := h, toks := (d.2.2.2.2.1.2.1) }
set_option synthInstance.maxSize 100000 in
set_option synthInstance.maxHeartbeats 800000 in
@[irreducible] noncomputable def k_segK8 : (World × (ExcName → Option Value) × (Str → Option Value) × (Str → Option Value)) × (Around × Nat × Nat × (Option (List Code))) × (Addr × Value × Heap × Heap) × (Addr × (Str → Option Value) × (List (Addr × Obj)) × LawCells) × (Shared × Nat × (Flow → Shared → Prop) × (Value → Shared → Prop)) × (Addr × Addr × Addr × Nat) × (Nat × Nat × Nat × (List Value)) × ((List Value) × (Nat → Nat) × (Nat → Nat) × (Nat → Nat)) × (Tok × Tok) := pick (by haveI := ne_World; haveI := ne_Around; haveI := ne_Shared; haveI := ne_Cells; exact inferInstance) s_segK8
theorem segK8_c : s_segK8 k_segK8 := by
  delta s_segK8
  intro h B X TT hd hu F N hy hE mN mS mR hR cQ cM hN hv hdr hQ hq hM fact ret
  have hE0 := hE
  have B0 := B
  have F0 := F
  walk_at "m:fill"
  simp only [cellLed, List.cons_append, List.nil_append] at N
  clear F
  dsimp only [lawK, fBs]
  dsimp only [lawS, lawEnv, lawA, lawParts] at hE B
  walk_at "m:body"
  refine wpAny_execs_cons ?_
  k_steps
  (walk_at "m:hide"; rename_i h1 tk1 u1 u2 u3 hr F1 N1 kp htk1; walk_at "m:bare")
  refine iter_rangeT (n := 3) (fun k m' led' => ∃ Tk, ∃ st' : Nat, led' = cellLed (k_segK8.2.2.2.1.1) (k_segK8.2.2.2.1.2.2.2) ++ (Tk ++ (k_segK8.2.2.2.1.2.2.1)) ∧ Young (k_segK8.2.2.2.1.1) Tk ∧ Apart Tk (k_segK8.2.2.2.1.2.2.1) ∧ (∀ z, z ≠ Str.ofString "start" → z ≠ Str.ofString "i" → z ≠ Str.ofString "j" → m' z = (k_segK8.2.2.2.1.2.1) z) ∧ (∃ t, m' (Str.ofString "start") = some (.int (st' : Int) t)) ∧
      ((∃ a b, a < b ∧ b < 4 ∧ (k_segK8.2.2.2.2.2.2.2.1.2.2.1) a = (k_segK8.2.2.2.2.2.2.2.1.2.2.1) b ∧ st' = (k_segK8.2.2.2.2.2.2.2.1.2.2.1) a) ∨ (st' = (k_segK8.2.2.2.2.2.2.1.2.2.1) ∧ ∀ a b, a < k → a < b → b < 4 → (k_segK8.2.2.2.2.2.2.2.1.2.2.1) a ≠ (k_segK8.2.2.2.2.2.2.2.1.2.2.1) b))) (by rfl) hr (by decide) (by decide) F1 N1
    ⟨[], (k_segK8.2.2.2.2.2.2.1.2.2.1), rfl, young_nil, apart_nil, fun z _ _ _ => rfl, ⟨(k_segK8.2.2.2.2.2.2.2.2.1), mS⟩, Or.inr ⟨rfl, fun a b h1 => absurd h1 (Nat.not_lt_zero _)⟩⟩ (by intros; exact Expr.noConfusion) (by intros; exact Expr.noConfusion) ?_ ?_
  · intro k tj m₁ led₁ h4 tk4 I oI htk4 hk qz109 F4 N4 off
    refine Mine.by_op fun P9 bk9 => ?_
    obtain ⟨Tk, st', rfl, hyk, hap, hm1, ⟨tS1, mS1⟩, hst⟩ := qz109
    refine bk9 ?_; clear bk9 P9
    replace N4 : News (k_segK8.2.2.1.2.2.2) (k_segK8.2.2.2.1.1) h4 _ := N4
    replace F4 : Fr (k_segK8.2.2.1.2.2.2) (k_segK8.2.2.2.1.1) h4 _ := F4
    rw [Int.zero_add]
    clear F1 N1 kp hr
    (try clear hsz)
    have off0 := off1_of off
    simp only [cellLed, List.cons_append, List.nil_append] at N4 off0
    refine Mine.by_op fun P9 bk9 => ?_
    obtain ⟨f11, f10, f9, f8, f7, f6, f5, f4, f3, f2, f1, fT⟩ := off0
    refine bk9 ?_; clear bk9 P9
    dsimp only at f11 f10 f9 f8 f7 f6 f5 f4 f3 f2 f1
    have hyI : Young (k_segK8.2.2.2.1.1) ((I, oI) :: (Tk ++ (k_segK8.2.2.2.1.2.2.1))) := young_off (c := (k_segK8.2.2.2.1.2.2.2)) (R := []) ⟨f11, f10, f9, f8, f7, f6, f5, f4, f3, f2, f1, trivial⟩ (fun p hp => (List.mem_append.mp hp).elim (hyk p) (hy p))
    k_steps
    (walk_at "m:hide"; rename_i h5 F5 N5; walk_at "m:bare")
    have N6 : News (k_segK8.2.2.1.2.2.2) (k_segK8.2.2.2.1.1) h5 (cellLed (k_segK8.2.2.2.1.1) (k_segK8.2.2.2.1.2.2.2) ++ ((I, oI) :: (Tk ++ (k_segK8.2.2.2.1.2.2.1)))) := perm_cells (add := [(I, oI)]) (A := cellLed (k_segK8.2.2.2.1.1) (k_segK8.2.2.2.1.2.2.2)) (T := Tk ++ (k_segK8.2.2.2.1.2.2.1)) N5
    have hmem : ∀ p ∈ (k_segK8.2.2.2.1.2.2.1), p ∈ (I, oI) :: (Tk ++ (k_segK8.2.2.2.1.2.2.1)) := fun p hp => .tail _ (List.mem_append_right _ hp)
    refine segK8a (k_segK8.1.1) (T := (I, oI) :: (Tk ++ (k_segK8.2.2.2.1.2.2.1))) (i := k) (R := (k_segK8.2.2.2.2.2.2.1.2.1)) (st := st') (tS := tS1) (rm := (k_segK8.2.2.2.2.2.2.2.1.2.2.1)) (dr := (k_segK8.2.2.2.2.2.2.2.1.2.1)) (y := (k_segK8.2.2.2.2.2.2.2.1.2.2.2)) (vs := (k_segK8.2.2.2.2.2.2.1.2.2.2)) (qs := (k_segK8.2.2.2.2.2.2.2.1.1)) (aN := (k_segK8.2.2.2.2.2.1.1)) (aQ := (k_segK8.2.2.2.2.2.1.2.1)) (aM := (k_segK8.2.2.2.2.2.1.2.2.1)) (nN := (k_segK8.2.2.2.2.2.1.2.2.2)) (nQ := (k_segK8.2.2.2.2.2.2.1.1)) (ti := tj) (tR := (k_segK8.2.2.2.2.2.2.2.2.2)) B0 X TT hd hu F5 N6 hyI hE0 ((if_neg (by decide +kernel)).trans ((hm1 _ (by decide +kernel) (by decide +kernel) (by decide +kernel)).trans mN)) rfl ((if_neg (by decide +kernel)).trans mS1) ((if_neg (by decide +kernel)).trans ((hm1 _ (by decide +kernel) (by decide +kernel) (by decide +kernel)).trans mR)) hR cQ cM hk (hmem _ hN) hv hdr (hmem _ hQ) hq (marks_mono hM hmem) (fun j h1 h2 => fact k j h1 h2) ?_
    intro h7 tk7 m7 add st7 F7 N7 ya aa hm7 hS7 hst7
    have hm7' : ∀ z, z ≠ Str.ofString "start" → z ≠ Str.ofString "i" → z ≠ Str.ofString "j" → m7 z = (k_segK8.2.2.2.1.2.1) z := fun z z1 z2 z3 => (hm7 z z1 z3).trans ((if_neg z2).trans (hm1 z z1 z2 z3))
    have hyA : Young (k_segK8.2.2.2.1.1) (add ++ Tk) := fun p hp => (List.mem_append.mp hp).elim (ya p) (hyk p)
    have haA : Apart (add ++ Tk) (k_segK8.2.2.2.1.2.2.1) := fun p hp q hq => (List.mem_append.mp hp).elim (fun hp => aa p hp q (hmem _ hq)) (fun hp => hap p hp q hq)
    refine Mine.TurnEnd.intro (cellLed (k_segK8.2.2.2.1.1) (k_segK8.2.2.2.1.2.2.2) ++ ((add ++ Tk) ++ (k_segK8.2.2.2.1.2.2.1))) F7 N7 ?_ ?_ ?_
    · intro p hp
      revert hp
      simp only [List.mem_append, List.mem_cons]
      rintro (h | h | (h | h) | h) <;> simp [h]
    · have hcell : ∀ p ∈ cellLed (k_segK8.2.2.2.1.1) (k_segK8.2.2.2.1.2.2.2), p.1 ≠ I := off1_mem (l := cellLed (k_segK8.2.2.2.1.1) (k_segK8.2.2.2.1.2.2.2)) ⟨f11, f10, f9, f8, f7, f6, f5, f4, f3, f2, f1, trivial⟩
      intro p hp
      rcases List.mem_append.mp hp with hp | hp
      · exact hcell p hp
      · rcases List.mem_append.mp hp with hp | hp
        · rcases List.mem_append.mp hp with hp | hp
          · exact Ne.symm (aa p hp _ (.head _))
          · exact off1_mem fT p (List.mem_append_left _ hp)
        · exact off1_mem fT p (List.mem_append_right _ hp)
    · refine ⟨add ++ Tk, st7, rfl, hyA, haA, hm7', hS7, ?_⟩
      rcases hst7 with ⟨b, b1, b2, b3, b4⟩ | ⟨q1, q2⟩
      · exact Or.inl ⟨k, b, b1, b2, b3, b4⟩
      · rcases hst with h | ⟨q3, q4⟩
        · exact Or.inl (q1 ▸ h)
        · refine Or.inr ⟨q1.trans q3, fun a b a1 a2 a3 => ?_⟩
          by_cases ea : a = k
          · rw [ea]; exact q2 b (ea ▸ a2) a3
          · exact q4 a b (by omega) a2 a3
  · intro h5 tk5 m5 led5 F5 N5 qz69
    refine Mine.by_op fun P9 bk9 => ?_
    obtain ⟨Tk, st', rfl, hyk, hap, hm1, hS1, hst⟩ := qz69
    refine bk9 ?_; clear bk9 P9
    refine wpAny_execs_nil ?_
    refine ret _ _ m5 Tk st' F5 N5 hyk hap hm1 hS1 ?_
    rcases hst with h | ⟨q1, q2⟩
    · exact Or.inl h
    · exact Or.inr ⟨q1, fun a b a1 a2 => q2 a b (by omega) a1 a2⟩
theorem segK8 (w : World) {mean : ExcName → Option Value} {mg mb : Str → Option Value} {A₀ : Around} {dp un : Nat} {gd : Option (List Code)} {fa : Addr} {cd : Value} {base g : Heap} {L : Addr} {m : Str → Option Value} {T : List (Addr × Obj)} {c : LawCells} {s : Shared} {h : Heap} {tk : Nat} {Q : Flow → Shared → Prop} {E : Value → Shared → Prop}
    (B : Below A₀ base [] g) (X : (Mine.hd.heap_1 w.params).In g) (TT : Top Mine.hd.view_1 (looseW Mine.hd.view_1 []) mean mg mb g) (hd : dp + 40 < recursionLimit) (hu : un + 8 * 40 < cLine)
    (F : Fr g L h m) (N : News g L h (cellLed L c ++ T)) (hy : Young L T)
    {aN aQ aM : Addr} {nN nQ R st : Nat} {vs qs : List Value} {dr rm : Nat → Nat} {y : Nat → Nat} {tS tR : Tok}
    (hE : PassesOwn (model PySem.Challenge.rw_zo0012_01.row.prog w) (lawA w.params dp un gd L fa cd) (lawEnv w.params L fa cd) E)
    (mN : m (Str.ofString "went") = some (.ref aN)) (mS : m (Str.ofString "start") = some (.int (st : Int) tS)) (mR : m (Str.ofString "rate") = some (.int (R : Int) tR)) (hR : R ≤ 108)
    (cQ : c.oQ.data = .cell (some (.ref aQ))) (cM : c.oM.data = .cell (some (.ref aM)))
    (hN : (aN, listOf (List.toArray vs) nN) ∈ T) (hv : ValsF vs 3 (fun j v => ∃ t, v = .int (dr j : Int) t)) (hdr : ∀ j, j < 3 → dr j < 9) (hQ : (aQ, listOf (List.toArray qs) nQ) ∈ T) (hq : ValsF qs 4 (fun i v => ∃ t, v = .int (rm i : Int) t)) (hM : Marks T aM y)
    (fact : ∀ i j, i < j → j < 4 → rm i = rm j → 6 * sumR y dr i j = R * (j - i))
    (ret : ∀ h' tk' m' add (st' : Nat), Fr g L h' m' → News g L h' (cellLed L c ++ (add ++ T)) → Young L add → Apart add T → (∀ z, z ≠ Str.ofString "start" → z ≠ Str.ofString "i" → z ≠ Str.ofString "j" → m' z = m z) → (∃ t, m' (Str.ofString "start") = some (.int (st' : Int) t)) →
      ((∃ a b, a < b ∧ b < 4 ∧ rm a = rm b ∧ st' = rm a) ∨ (st' = st ∧ ∀ a b, a < b → b < 4 → rm a ≠ rm b)) → Q .next { s with heap := h', toks := tk' }) : wpAny (model PySem.Challenge.rw_zo0012_01.row.prog w) (lawA w.params dp un gd L fa cd) (execs (((lawK w.params).drop 9).take 1) (lawEnv w.params L fa cd)) Q E { s with heap := h, toks := tk } :=
  pick_all k_segK8.eq_1 segK8_c ((w, mean, mg, mb), (A₀, dp, un, gd), (fa, cd, base, g), (L, m, T, c), (s, tk, Q, E), (aN, aQ, aM, nN), (nQ, R, st, vs), (qs, dr, rm, y), (tS, tR)) h B X TT hd hu F N hy hE mN mS mR hR cQ cM hN hv hdr hQ hq hM fact ret
end
-- G27
section
open AutoSeq1 (wpAny_loadPart') in
theorem tup_ne_same {prog : Program} {w : World} {A : Around} {E : Value → Shared → Prop} {s : Shared} {l b : Addr} {items items2 : Array Value} {Q : Value → Shared → Prop} (hl : s.heap.IsTuple l items) (hb : s.heap.IsTuple b items2) (hsz : items.size = items2.size) (hu : A.units < cLine)
    (he : ∀ p ∈ items.toList.zip items2.toList, ∀ (E : Value → Shared → Prop) (Q : Bool → Shared → Prop), Q true s → wpAny (model prog w) A.in1 (eqBool p.1 p.2) Q E s) (h : Q (.bool false) s) : wpAny (model prog w) A (compareOp .NotEq (.ref l) (.ref b)) Q E s := by
  refine Mine.by_op fun P9 bk9 => ?_
  obtain ⟨⟨cls, dd, data, sl⟩, ho, hc, n, hd⟩ := id hl
  refine bk9 ?_; clear bk9 P9
  refine Mine.by_op fun P9 bk9 => ?_
  obtain ⟨⟨cls2, dd2, data2, sl2⟩, ho2, hc2, n2, hd2⟩ := id hb
  refine bk9 ?_; clear bk9 P9
  simp only at hc hd hc2 hd2
  subst hc hd hc2 hd2
  refine wpAny_richCompare_same_room (op := .NotEq) ⟨_, ho, rfl⟩ ⟨_, ho2, rfl⟩ F.slot_tuple_ne (wpAny_call_entry F.slot_tuple_ne ⟨_, ho, rfl⟩ F.entry_tuple_ne ?_ (F.args_tuple_ne_2 _ _)) hu
  refine Mine.by_op fun P9 bk9 => ?_
  obtain ⟨hp, g, d, tk, os⟩ := s
  refine bk9 ?_; clear bk9 P9
  have f2 := AutoSeq1.sub_tuple_tuple
  wp_walk using wpAny_loadPart' ho, wpAny_loadPart' ho2, wpAny_forIn_list _ (fun rest b s' => b.1 = none ∧ s' = ⟨hp, g, d, tk, os⟩ ∧ ∀ p ∈ rest, p ∈ items.toList.zip items2.toList) _
  case turn =>
    intro qz09 rest b s' qz49
    refine Mine.by_op fun P9 bk9 => ?_
    obtain ⟨y, x⟩ := qz09
    obtain ⟨hb', rfl, hz⟩ := qz49
    refine bk9 ?_; clear bk9 P9
    refine wpAny_bind (he (y, x) (hz _ (.head _)) _ _ ?_)
    wp_walk
    exact ⟨rfl, rfl, fun p hp => hz p (.tail _ hp)⟩
  case fin =>
    intro qz09 s' qz29
    refine Mine.by_op fun P9 bk9 => ?_
    obtain ⟨b1, b2⟩ := qz09
    obtain ⟨hb', rfl, hz⟩ := qz29
    refine bk9 ?_; clear bk9 P9
    simp only at hb'
    subst hb'
    wp_walk
    exact ⟨_, rfl, (fun x => nomatch x), by simpa [Builtin.Tuple.tupleCompareSizes, bne, hsz] using h⟩
  case h =>
    exact ⟨rfl, rfl, fun p hp => hp⟩
open PyProof.V in
theorem hits_from {A : Around} {s : Shared} {ka kb : List (Str × Value)} {c : List (Str × Int)} (fa : FlatPairs PyData.str ka (kdpD c)) (fb : FlatPairs PyData.str kb (kdpD c)) (nd : (kb.map (·.1)).Nodup) : ∀ k i, i + k = ka.length → KeqHits A s kb (ka.drop i) true
  | 0, i, e => by rw [List.drop_of_length_le (by omega)]; exact .nil
  | k + 1, i, e => by
    have hi : i < ka.length := by omega
    rw [List.drop_eq_getElem_cons hi]
    have ea : ka[i]? = some (ka[i].1, ka[i].2) := List.getElem?_eq_getElem hi
    refine Mine.by_op fun P9 bk9 => ?_
    obtain ⟨n, t, ev, ec⟩ := flat_at fa ea
    refine bk9 ?_; clear bk9 P9
    have hib : i < kb.length := by rw [flat_len fb, ← flat_len fa]; exact hi
    have eb : kb[i]? = some (kb[i].1, kb[i].2) := List.getElem?_eq_getElem hib
    refine Mine.by_op fun P9 bk9 => ?_
    obtain ⟨n', t', ev', ec'⟩ := flat_at fb eb
    refine bk9 ?_; clear bk9 P9
    have ek := Option.some.inj (ec.symm.trans ec')
    have e1 : ka[i].1 = kb[i].1 := (Prod.mk.inj ek).1
    have e2 : n = n' := (Prod.mk.inj ek).2
    have hv : valueAt kb ka[i].1 = some (.int n t') := by
      rw [e1]
      unfold valueAt
      have hf : kb.find? (fun kv => kv.1 = kb[i].1) = some kb[i] := by
        rw [List.find?_eq_some_iff_getElem]
        refine ⟨by simp, i, hib, rfl, fun j hj => ?_⟩
        have hp := List.pairwise_iff_getElem.mp nd j i (by rw [List.length_map]; omega) (by rw [List.length_map]; exact hib) hj
        rw [List.getElem_map, List.getElem_map] at hp
        simpa using hp
      rw [hf, e2]
      exact congrArg some ev'
    have hh := KeqHits.hit (A := A) (s := s) (v := ka[i].2) hv (b := true) (e := (n == n)) (by rw [ev]; exact SeqAt.EqAt.int_int n t n t') (hits_from fa fb nd k (i + 1) (by omega))
    rw [beq_self_eq_true, Bool.true_and] at hh
    exact hh
/-- two profiles that tell the same are not unlike -/
theorem stat_ne {w : World} {A : Around} {E : Value → Shared → Prop} {s : Shared} {h₀ : Heap} {L a b : Addr} {news : List (Addr × Obj)} {st : Stat} {Q : Value → Shared → Prop} (N : News h₀ L s.heap news) (ha : IsStat w news a st) (hb : IsStat w news b st) (hu : A.units + 2 < cLine) (h : Q (.bool false) s) :
    wpAny (model PySem.Challenge.rw_zo0012_01.row.prog w) A (compareOp .NotEq (.ref a) (.ref b)) Q E s := by
  refine Mine.by_op fun P9 bk9 => ?_
  obtain ⟨t1, t2, t3, t4, d, n, od, ha1, hd1, ⟨kd, hkd, hfd⟩, lod⟩ := ha
  refine bk9 ?_; clear bk9 P9
  refine Mine.by_op fun P9 bk9 => ?_
  obtain ⟨u1, u2, u3, u4, d', n', od', hb1, hd1', ⟨kd', hkd', hfd'⟩, lod'⟩ := hb
  refine bk9 ?_; clear bk9 P9
  refine tup_ne_same (items := [.int st.cc t1, .int st.nc t2, .int st.tt t3, .int st.ct t4, .ref d].toArray) (items2 := [.int st.cc u1, .int st.nc u2, .int st.tt u3, .int st.ct u4, .ref d'].toArray) (N.isTup ha1) (N.isTup hb1) rfl (by omega) ?_ h
  intro p hp E' Q' hq
  have hint : ∀ (x : Int) (t u : Tok), wpAny (model PySem.Challenge.rw_zo0012_01.row.prog w) A.in1 (eqBool (.int x t) (.int x u)) Q' E' s := fun x t u => SeqAt.EqAt.int_int x t x u _ w E' Q' (by rw [beq_self_eq_true]; exact hq)
  simp only [List.zip_cons_cons, List.zip_nil_right, List.mem_cons, List.not_mem_nil, or_false] at hp
  rcases hp with rfl | rfl | rfl | rfl | rfl
  · exact hint _ _ _
  · exact hint _ _ _
  · exact hint _ _ _
  · exact hint _ _ _
  · dsimp only
    by_cases e : d = d'
    · subst e; exact SeqAt.EqAt.same _ _ w E' Q' hq
    · unfold eqBool
      refine wpAny_holding ?_
      refine wpAny_ite_split (fun hab => absurd (by have := eq_of_beq hab; injection this) e) (fun _ => ?_)
      refine wpAny_bind (keq_eq (A := A.in1) (knd := PySem.strKind _ _) (r := true) lod lod' (Heap.dictOf_iff.mpr ⟨od, (N _ hd1).1, hkd⟩) (Heap.dictOf_iff.mpr ⟨od', (N _ hd1').1, hkd'⟩) (by rw [Around.in1_units]; omega) (fun _ => ?_) (wpAny_truthy_bool ?_))
      · refine Mine.by_op fun P9 bk9 => ?_
        obtain ⟨_, _, _, _, _, _, nd⟩ := hkd'
        refine bk9 ?_; clear bk9 P9
        exact hits_from hfd hfd' nd kd.length 0 (Nat.zero_add _)
      · rw [flat_len hfd, flat_len hfd', beq_self_eq_true]; exact hq
end
-- G28
section
local macro_rules | `(tactic| walk_at $s:str) => `(tactic| k_extra $(Lean.Syntax.mkStrLit ("xG28:" ++ s.getString)))
local macro_rules | `(tactic| walk_at $s:str) => `(tactic| k_extra $(Lean.Syntax.mkStrLit ("xG28:" ++ s.getString)))
theorem setup_G28 : True := by
  k_with "xG28:m:subr" => ((k_here; (with_unfolding_all refine' Mine.sub_refA ?zzk2 ?zzk3 ?zzk4 ?zzk7 ?zzk5 ?_ ?zzk6; (case zzk2 => k_asm); (case zzk3 => walk_at "m:mem"); (case zzk5 => assumption); (case zzk4 => walk_at "m:idx"); (case zzk7 => omega); (case zzk6 => with_unfolding_all rfl))))
  k_with "xG28:subscriptTail Name Name ref int" => (walk_at "m:subr")
  k_with "xG28:subscriptTail Name Constant ref int" => (walk_at "m:subr")
  k_with "xG28:subscriptTail Subscript Name ref int" => (walk_at "m:subr")
  k_with "xG28:compareOp NotEq ref ref" => (refine Mine.stop ?_)
  k_with "xG28:m:hide" => (have qB' := True.intro; have qD' := True.intro; have qF' := True.intro; have qFG' := True.intro; have qL' := True.intro; have qN' := True.intro; have qT' := True.intro; have qX' := True.intro; have qY' := True.intro; have qcells' := True.intro; have qd' := True.intro; have qfF := True.intro; have qg' := True.intro; have qh' := True.intro; have qh0' := True.intro; have qh1' := True.intro; have qhc' := True.intro; have qhd' := True.intro; have qhp := True.intro; have qhv' := True.intro; have qhz := True.intro; have qhz' := True.intro; have qjk' := True.intro; have qkj' := True.intro; have ql1 := True.intro; have ql2 := True.intro; have qlo' := True.intro; have qnE' := True.intro; have qo' := True.intro; have qo1' := True.intro; have qp := True.intro; have qtj' := True.intro; have qtk' := True.intro; have qtv' := True.intro; have qtx' := True.intro; have qvv' := True.intro; have qx' := True.intro; have qzz' := True.intro)
  k_with "xG28:m:bare" => (clear qB' qD' qF' qFG' qL' qN' qT' qX' qY' qcells' qd' qfF qg' qh' qh0' qh1' qhc' qhd' qhp qhv' qhz qhz' qjk' qkj' ql1 ql2 qlo' qnE' qo' qo1' qp qtj' qtk' qtv' qtx' qvv' qx' qzz')
  trivial
/-- the text of a walk's doors -/
noncomputable def wtx (y dr : Nat → Nat) : Str := Txt.join (Str.ofString "") [txt (y (dr 0)), txt (y (dr 1)), txt (y (dr 2))]
theorem wtx_list (y dr : Nat → Nat) : (wtx y dr).cps.toList = (figL (y (dr 0)) ++ figL (y (dr 1)) ++ figL (y (dr 2))).flatMap pkL := by
  unfold wtx
  rw [join0]
  simp only [List.flatMap_cons, List.flatMap_nil, List.append_nil, txt_list, List.flatMap_append, List.append_assoc]
theorem wtx_plain (y dr : Nat → Nat) : Plain (wtx y dr) := plain_of (wtx_list y dr) (show 9 ≤ 30 by decide)
theorem wtx_len (y dr : Nat → Nat) : (wtx y dr).length = (txt (y (dr 0))).length + (txt (y (dr 1))).length + (txt (y (dr 2))).length := by
  have h : ∀ x : Str, x.length = x.cps.toList.length := fun x => by simp [Str.length]
  rw [h, h, h, h, wtx_list, txt_list, txt_list, txt_list]
  simp only [List.flatMap_append, List.length_append]
theorem lt_wtx {y dr : Nat → Nat} : ¬ ((wtx y dr).length : Int) ≥ 2 ^ 63 := by
  have h1 := txt_len (y (dr 0))
  have h2 := txt_len (y (dr 1))
  have h3 := txt_len (y (dr 2))
  rw [wtx_len]
  omega
set_option synthInstance.maxSize 100000 in
set_option synthInstance.maxHeartbeats 800000 in
noncomputable def s_segK7 (d : (World × (ExcName → Option Value) × (Str → Option Value) × (Str → Option Value)) × (Around × Nat × Nat × (Option (List Code))) × (Addr × Value × Heap × Heap) × (Addr × (Str → Option Value) × (List (Addr × Obj)) × LawCells) × (Shared × Heap × Nat × (Flow → Shared → Prop)) × ((Value → Shared → Prop) × Addr × Addr × Obj) × (Nat × Nat × (List Addr) × (Nat → Nat → List Nat)) × ((Nat → Nat) × (Nat → Nat) × Tok × Tok) × (Tok × Tok)) : Prop := ∀ (B : Below (d.2.1.1) (d.2.2.1.2.2.1) [] (d.2.2.1.2.2.2)) (X : (Mine.hd.heap_1 (d.1.1).params).In (d.2.2.1.2.2.2)) (TT : Top Mine.hd.view_1 (looseW Mine.hd.view_1 []) (d.1.2.1) (d.1.2.2.1) (d.1.2.2.2) (d.2.2.1.2.2.2)) (hd : (d.2.1.2.1) + 40 < recursionLimit) (hu : (d.2.1.2.2.1) + 8 * 40 < cLine) (F : Fr (d.2.2.1.2.2.2) (d.2.2.2.1.1) (d.2.2.2.2.1.2.1) (d.2.2.2.1.2.1)) (N : News (d.2.2.1.2.2.2) (d.2.2.2.1.1) (d.2.2.2.2.1.2.1) (cellLed (d.2.2.2.1.1) (d.2.2.2.1.2.2.2) ++ (d.2.2.2.1.2.2.1))) (hy : Young (d.2.2.2.1.1) (d.2.2.2.1.2.2.1)) (htk : 0 < (d.2.2.2.2.1.2.2.1)) (hr : (d.2.2.2.2.2.2.1.2.1) < 3) (cS : (d.2.2.2.1.2.2.2).oS.data = .cell (some (.ref (d.2.2.2.2.2.1.2.1)))) (cR : (d.2.2.2.1.2.2.2).oR.data = .cell (some (.int ((d.2.2.2.2.2.2.1.2.1) : Int) (d.2.2.2.2.2.2.2.1.2.2.1)))) (hS : ((d.2.2.2.2.2.1.2.1), listOf (List.toArray ((d.2.2.2.2.2.2.1.2.2.1).map Value.ref)) (d.2.2.2.2.2.2.1.1)) ∈ (d.2.2.2.1.2.2.1)) (hras : (d.2.2.2.2.2.2.1.2.2.1).length = 4) (hst : Stages (d.1.1) (d.2.2.2.2.2.2.2.1.2.1) (d.2.2.2.1.2.2.1) (d.2.2.2.2.2.2.1.2.2.1) (d.2.2.2.2.2.2.1.2.2.2)) (mT : (d.2.2.2.1.2.1) (Str.ofString "text") = some (.str (wtx (d.2.2.2.2.2.2.2.1.2.1) (d.2.2.2.2.2.2.2.1.1)) (d.2.2.2.2.2.2.2.1.2.2.2))) (mD : (d.2.2.2.1.2.1) (Str.ofString "due") = some (.str (escS (wtx (d.2.2.2.2.2.2.2.1.2.1) (d.2.2.2.2.2.2.2.1.1))) (d.2.2.2.2.2.2.2.2.1))) (mZ : (d.2.2.2.1.2.1) (Str.ofString "total") = some (.int ((mu (d.2.2.2.2.2.2.2.1.2.1) ((d.2.2.2.2.2.2.2.1.1) 0) + mu (d.2.2.2.2.2.2.2.1.2.1) ((d.2.2.2.2.2.2.2.1.1) 1) + mu (d.2.2.2.2.2.2.2.1.2.1) ((d.2.2.2.2.2.2.2.1.1) 2) : Nat) : Int) (d.2.2.2.2.2.2.2.2.2))) (mM : (d.2.2.2.1.2.1) (Str.ofString "names") = some (.ref (d.2.2.2.2.2.1.2.2.1))) (hD : ((d.2.2.2.2.2.1.2.2.1), (d.2.2.2.2.2.1.2.2.2)) ∈ (d.2.2.2.1.2.2.1)) (htab : IsTab (d.1.1) (d.2.2.2.2.2.1.2.2.2) (cnt (d.2.2.2.2.2.2.2.1.1) 3)) (lo : ((d.2.2.2.2.2.1.2.2.1) == sysModules) = false) (hws : wst (d.2.2.2.2.2.2.2.1.2.1) ((d.2.2.2.2.2.2.1.2.2.2) 3 (d.2.2.2.2.2.2.1.2.1)) = ⟨3, 3, ((wtx (d.2.2.2.2.2.2.2.1.2.1) (d.2.2.2.2.2.2.2.1.1)).length : Int), ((mu (d.2.2.2.2.2.2.2.1.2.1) ((d.2.2.2.2.2.2.2.1.1) 0) + mu (d.2.2.2.2.2.2.2.1.2.1) ((d.2.2.2.2.2.2.2.1.1) 1) + mu (d.2.2.2.2.2.2.2.1.2.1) ((d.2.2.2.2.2.2.2.1.1) 2) : Nat) : Int), cnt (d.2.2.2.2.2.2.2.1.1) 3⟩) (ret : ∀ h' tk' add, Fr (d.2.2.1.2.2.2) (d.2.2.2.1.1) h' (d.2.2.2.1.2.1) → News (d.2.2.1.2.2.2) (d.2.2.2.1.1) h' (cellLed (d.2.2.2.1.1) (d.2.2.2.1.2.2.2) ++ (add ++ (d.2.2.2.1.2.2.1))) → Young (d.2.2.2.1.1) add → Apart add (d.2.2.2.1.2.2.1) → (d.2.2.2.2.1.2.2.2) .next { (d.2.2.2.2.1.1) with heap := h', toks := tk' }), wpAny (model PySem.Challenge.rw_zo0012_01.row.prog (d.1.1)) (lawA (d.1.1).params (d.2.1.2.1) (d.2.1.2.2.1) (d.2.1.2.2.2) (d.2.2.2.1.1) (d.2.2.1.1) (d.2.2.1.2.1)) (execs (((lawK (d.1.1).params).drop 8).take 1) (lawEnv (d.1.1).params (d.2.2.2.1.1) (d.2.2.1.1) (d.2.2.1.2.1))) (d.2.2.2.2.1.2.2.2) (d.2.2.2.2.2.1.1) { (d.2.2.2.2.1.1) with heap := (d.2.2.2.2.1.2.1), toks := (d.2.2.2.2.1.2.2.1) }
set_option synthInstance.maxSize 100000 in
set_option synthInstance.maxHeartbeats 800000 in
@[irreducible] noncomputable def k_segK7 : (World × (ExcName → Option Value) × (Str → Option Value) × (Str → Option Value)) × (Around × Nat × Nat × (Option (List Code))) × (Addr × Value × Heap × Heap) × (Addr × (Str → Option Value) × (List (Addr × Obj)) × LawCells) × (Shared × Heap × Nat × (Flow → Shared → Prop)) × ((Value → Shared → Prop) × Addr × Addr × Obj) × (Nat × Nat × (List Addr) × (Nat → Nat → List Nat)) × ((Nat → Nat) × (Nat → Nat) × Tok × Tok) × (Tok × Tok) := pick (by haveI := ne_World; haveI := ne_Around; haveI := ne_Shared; haveI := ne_Cells; exact inferInstance) s_segK7
theorem segK7_c : s_segK7 k_segK7 := by
  delta s_segK7
  intro B X TT hd hu F N hy htk hr cS cR hS hras hst mT mD mZ mM hD htab lo hws ret
  walk_at "m:fill"
  simp only [cellLed, List.cons_append, List.nil_append] at N
  have F0 := Mine.Fr.know4 F mT mD mZ mM
  refine Mine.by_op fun P9 bk9 => ?_
  obtain ⟨a3, e3⟩ : ∃ a3, (k_segK7.2.2.2.2.2.2.1.2.2.1)[3]? = some a3 := ⟨_, List.getElem?_eq_getElem (by omega)⟩
  refine bk9 ?_; clear bk9 P9
  refine Mine.by_op fun P9 bk9 => ?_
  obtain ⟨rs, n3, hm3, hl3, hs3⟩ := hst 3 a3 e3
  refine bk9 ?_; clear bk9 P9
  refine Mine.by_op fun P9 bk9 => ?_
  obtain ⟨ar, er⟩ : ∃ ar, rs[(k_segK7.2.2.2.2.2.2.1.2.1)]? = some ar := ⟨_, List.getElem?_eq_getElem (by omega)⟩
  refine bk9 ?_; clear bk9 P9
  have hst3 : IsStat (k_segK7.1.1) (k_segK7.2.2.2.1.2.2.1) ar (wst (k_segK7.2.2.2.2.2.2.2.1.2.1) ((k_segK7.2.2.2.2.2.2.1.2.2.2) 3 (k_segK7.2.2.2.2.2.2.1.2.1))) := hs3 (k_segK7.2.2.2.2.2.2.1.2.1) ar er
  rw [hws] at hst3
  clear F
  dsimp only [lawK, fBs]
  walk_at "m:body"
  k_with "xG28:call ref" => ((with_reducible show wpAny _ _ (call (Value.ref 91) _) _ _ _); k_dflt (refine' givesT_use (esc (k_segK7.1.1) (wtx (k_segK7.2.2.2.2.2.2.2.1.2.1) (k_segK7.2.2.2.2.2.2.2.1.1))) ?zzk0 ?zzk1 ?zzk2 ?zzk3 ?zzk4 ?zzk5 ?zzk6 ?zzk7 ?zzk8 ?zzk9 ?_; walk_at "m:give"; (case zzk0 => (dsimp only; omega)); (case zzk7 => exact ⟨wtx_plain (k_segK7.2.2.2.2.2.2.2.1.2.1) (k_segK7.2.2.2.2.2.2.2.1.1), _, rfl⟩)); refine Mine.ret_nil ?_; intro t9 h9 tk9 F9 N9; (try dsimp only); (try k_fold))
  k_with "xG28:call builtin:len" => ((try dsimp only [List.cons_append, List.nil_append]); refine P.len_str Mine.lt_wtx ?_)
  k_steps
  (walk_at "m:hide"; rename_i D h2 F2 N2 lD; walk_at "m:bare")
  have hx : ∃ t1 t2 t3 t4 n, News (k_segK7.2.2.1.2.2.2) (k_segK7.2.2.2.1.1) h2 ((D, tupObj [.int 3 t1, .int 3 t2, .int ((wtx (k_segK7.2.2.2.2.2.2.2.1.2.1) (k_segK7.2.2.2.2.2.2.2.1.1)).length : Int) t3, .int ((mu (k_segK7.2.2.2.2.2.2.2.1.2.1) ((k_segK7.2.2.2.2.2.2.2.1.1) 0) + mu (k_segK7.2.2.2.2.2.2.2.1.2.1) ((k_segK7.2.2.2.2.2.2.2.1.1) 1) + mu (k_segK7.2.2.2.2.2.2.2.1.2.1) ((k_segK7.2.2.2.2.2.2.2.1.1) 2) : Nat) : Int) t4, .ref (k_segK7.2.2.2.2.2.1.2.2.1)] n) :: (cellLed (k_segK7.2.2.2.1.1) (k_segK7.2.2.2.1.2.2.2) ++ (k_segK7.2.2.2.1.2.2.1))) := ⟨_, _, _, _, _, N2⟩
  refine Mine.by_op fun P9 bk9 => ?_
  obtain ⟨t1, t2, t3, t4, n, N3⟩ := hx
  refine bk9 ?_; clear bk9 P9
  unfold Stop
  refine Mine.stat_ne (st := ⟨3, 3, ((wtx (k_segK7.2.2.2.2.2.2.2.1.2.1) (k_segK7.2.2.2.2.2.2.2.1.1)).length : Int), ((mu (k_segK7.2.2.2.2.2.2.2.1.2.1) ((k_segK7.2.2.2.2.2.2.2.1.1) 0) + mu (k_segK7.2.2.2.2.2.2.2.1.2.1) ((k_segK7.2.2.2.2.2.2.2.1.1) 1) + mu (k_segK7.2.2.2.2.2.2.2.1.2.1) ((k_segK7.2.2.2.2.2.2.2.1.1) 2) : Nat) : Int), cnt (k_segK7.2.2.2.2.2.2.2.1.1) 3⟩) N3 (isStat_mono hst3 fun p hp => .tail _ (List.mem_append_right _ hp)) ⟨t1, t2, t3, t4, (k_segK7.2.2.2.2.2.1.2.2.1), n, (k_segK7.2.2.2.2.2.1.2.2.2), .head _, .tail _ (List.mem_append_right _ hD), htab, lo⟩ ?_ ?_
  · show (k_segK7.2.1.2.2.1) + 2 < cLine
    omega
  k_steps
  · (walk_at "m:hide"; rename_i bad; walk_at "m:bare")
    exfalso
    rw [bne_self_eq_false] at bad
    exact Bool.false_ne_true bad
  · have lD' : LCg.Off1 D (cellLed (k_segK7.2.2.2.1.1) (k_segK7.2.2.2.1.2.2.2) ++ (k_segK7.2.2.2.1.2.2.1)) := off1_of (allLt_ne (l := cellLed (k_segK7.2.2.2.1.1) (k_segK7.2.2.2.1.2.2.2) ++ (k_segK7.2.2.2.1.2.2.1)) lD)
    dsimp only
    refine wpAny_execs_nil ?_
    exact ret _ _ [(D, tupObj [.int 3 t1, .int 3 t2, .int ((wtx (k_segK7.2.2.2.2.2.2.2.1.2.1) (k_segK7.2.2.2.2.2.2.2.1.1)).length : Int) t3, .int ((mu (k_segK7.2.2.2.2.2.2.2.1.2.1) ((k_segK7.2.2.2.2.2.2.2.1.1) 0) + mu (k_segK7.2.2.2.2.2.2.2.1.2.1) ((k_segK7.2.2.2.2.2.2.2.1.1) 1) + mu (k_segK7.2.2.2.2.2.2.2.1.2.1) ((k_segK7.2.2.2.2.2.2.2.1.1) 2) : Nat) : Int) t4, .ref (k_segK7.2.2.2.2.2.1.2.2.1)] n)] (Mine.Fr.alike (by assumption) fun z => (know_ite mT (know_ite mD (know_ite mZ (know_ite mM fun _ => rfl))) z).symm) (perm_cells (add := [(D, tupObj [.int 3 t1, .int 3 t2, .int ((wtx (k_segK7.2.2.2.2.2.2.2.1.2.1) (k_segK7.2.2.2.2.2.2.2.1.1)).length : Int) t3, .int ((mu (k_segK7.2.2.2.2.2.2.2.1.2.1) ((k_segK7.2.2.2.2.2.2.2.1.1) 0) + mu (k_segK7.2.2.2.2.2.2.2.1.2.1) ((k_segK7.2.2.2.2.2.2.2.1.1) 1) + mu (k_segK7.2.2.2.2.2.2.2.1.2.1) ((k_segK7.2.2.2.2.2.2.2.1.1) 2) : Nat) : Int) t4, .ref (k_segK7.2.2.2.2.2.1.2.2.1)] n)]) (A := cellLed (k_segK7.2.2.2.1.1) (k_segK7.2.2.2.1.2.2.2)) (T := (k_segK7.2.2.2.1.2.2.1)) (by assumption)) (young_off (c := (k_segK7.2.2.2.1.2.2.2)) lD' young_nil) (apart_cons (fun q hq => off1_mem lD' q (List.mem_append_right _ hq)) apart_nil)
theorem segK7 (w : World) {mean : ExcName → Option Value} {mg mb : Str → Option Value} {A₀ : Around} {dp un : Nat} {gd : Option (List Code)} {fa : Addr} {cd : Value} {base g : Heap} {L : Addr} {m : Str → Option Value} {T : List (Addr × Obj)} {c : LawCells} {s : Shared} {h : Heap} {tk : Nat} {Q : Flow → Shared → Prop} {E : Value → Shared → Prop}
    (B : Below A₀ base [] g) (X : (Mine.hd.heap_1 w.params).In g) (TT : Top Mine.hd.view_1 (looseW Mine.hd.view_1 []) mean mg mb g) (hd : dp + 40 < recursionLimit) (hu : un + 8 * 40 < cLine)
    (F : Fr g L h m) (N : News g L h (cellLed L c ++ T)) (hy : Young L T)
    {aS aD : Addr} {oD : Obj} {nS r : Nat} {ras : List Addr} {ws : Nat → Nat → List Nat} {dr : Nat → Nat} {y : Nat → Nat} {tr tt te tz : Tok}
    (htk : 0 < tk) (hr : r < 3)
    (cS : c.oS.data = .cell (some (.ref aS))) (cR : c.oR.data = .cell (some (.int (r : Int) tr)))
    (hS : (aS, listOf (List.toArray (ras.map Value.ref)) nS) ∈ T) (hras : ras.length = 4) (hst : Stages w y T ras ws)
    (mT : m (Str.ofString "text") = some (.str (wtx y dr) tt)) (mD : m (Str.ofString "due") = some (.str (escS (wtx y dr)) te)) (mZ : m (Str.ofString "total") = some (.int ((mu y (dr 0) + mu y (dr 1) + mu y (dr 2) : Nat) : Int) tz)) (mM : m (Str.ofString "names") = some (.ref aD))
    (hD : (aD, oD) ∈ T) (htab : IsTab w oD (cnt dr 3)) (lo : (aD == sysModules) = false)
    (hws : wst y (ws 3 r) = ⟨3, 3, ((wtx y dr).length : Int), ((mu y (dr 0) + mu y (dr 1) + mu y (dr 2) : Nat) : Int), cnt dr 3⟩)
    (ret : ∀ h' tk' add, Fr g L h' m → News g L h' (cellLed L c ++ (add ++ T)) → Young L add → Apart add T → Q .next { s with heap := h', toks := tk' }) : wpAny (model PySem.Challenge.rw_zo0012_01.row.prog w) (lawA w.params dp un gd L fa cd) (execs (((lawK w.params).drop 8).take 1) (lawEnv w.params L fa cd)) Q E { s with heap := h, toks := tk } :=
  pick_all k_segK7.eq_1 segK7_c ((w, mean, mg, mb), (A₀, dp, un, gd), (fa, cd, base, g), (L, m, T, c), (s, h, tk, Q), (E, aS, aD, oD), (nS, r, ras, ws), (dr, y, tr, tt), (te, tz)) B X TT hd hu F N hy htk hr cS cR hS hras hst mT mD mZ mM hD htab lo hws ret
end
-- P5
section
section
variable {y : Nat → Nat} {ws : Nat → Nat → List Nat}
theorem grows_of (h : Kept y ws 3) : Grows (mu y) (DD y ws) := ⟨fun r => DD_zero h r, fun k hk r hr => DD_step h hk hr⟩
theorem pairs4_all : ∀ j, j < 4 → ∀ i, i < j → (i = 0 ∧ j = 1) ∨ (i = 0 ∧ j = 2) ∨ (i = 0 ∧ j = 3) ∨ (i = 1 ∧ j = 2) ∨ (i = 1 ∧ j = 3) ∨ (i = 2 ∧ j = 3) := by decide +kernel
theorem pairs4 {i j : Nat} (h : i < j) (hj : j < 4) : (i = 0 ∧ j = 1) ∨ (i = 0 ∧ j = 2) ∨ (i = 0 ∧ j = 3) ∨ (i = 1 ∧ j = 2) ∨ (i = 1 ∧ j = 3) ∨ (i = 2 ∧ j = 3) := pairs4_all j hj i h
/-- the kept walk of three doors that ends in r, its rooms in turn -/
theorem walk_rooms (h : Kept y ws 3) {r : Nat} (hr : r < 3) : ∃ rm : Nat → Nat, (∀ i, i < 4 → rm i < 3) ∧ ws 3 r = [rm 3, rm 2, rm 1, rm 0] ∧ rm 3 = r := by
  obtain ⟨u2, h2, e3, _⟩ := h.2 2 (by decide) r hr
  obtain ⟨u1, h1, e2, _⟩ := h.2 1 (by decide) u2 h2
  obtain ⟨u0, h0, e1, _⟩ := h.2 0 (by decide) u1 h1
  have e0 := h.1 u0
  refine ⟨fun i => match i with | 0 => u0 | 1 => u1 | 2 => u2 | _ => r, fun i hi => ?_, ?_, rfl⟩
  · match i, hi with
    | 0, _ => exact h0
    | 1, _ => exact h1
    | 2, _ => exact h2
    | 3, _ => exact hr
  · rw [e3, e2, e1, e0]; rfl
/-- the doors of a walk -/
noncomputable def drs (rm : Nat → Nat) (j : Nat) : Nat := 3 * rm j + rm (j + 1)
theorem dd_walk {rm : Nat → Nat} {r : Nat} (e : ws 3 r = [rm 3, rm 2, rm 1, rm 0]) : DD y ws 3 r = mu y (3 * rm 0 + rm 1) + mu y (3 * rm 1 + rm 2) + mu y (3 * rm 2 + rm 3) := by
  unfold DD
  rw [e]
  show mk (y (3 * rm 2 + rm 3)) + (mk (y (3 * rm 1 + rm 2)) + (mk (y (3 * rm 0 + rm 1)) + 0)) = _
  unfold mu
  lia
theorem walked_of (h : Kept y ws 3) : Walked (mu y) (DD y ws) := fun d hd => by
  obtain ⟨rm, hrm, e, e3⟩ := walk_rooms h hd
  exact ⟨rm 0, rm 1, rm 2, hrm 0 (by decide), hrm 1 (by decide), hrm 2 (by decide), by rw [dd_walk e, e3]⟩
theorem karp_of (h : Kept y ws 3) : max (max (lsv y ws 0) (lsv y ws 1)) (lsv y ws 2) = (bestR y : Int) := karp (grows_of h) (walked_of h)
theorem wst_walk {rm : Nat → Nat} {r : Nat} (e : ws 3 r = [rm 3, rm 2, rm 1, rm 0]) :
    wst y (ws 3 r) = ⟨3, 3, ((wtx y (drs rm)).length : Int), ((mu y (drs rm 0) + mu y (drs rm 1) + mu y (drs rm 2) : Nat) : Int), cnt (drs rm) 3⟩ := by
  rw [e]
  show (⟨_, _, ((txt (y (drs rm 2))).length : Int) + (((txt (y (drs rm 1))).length : Int) + (((txt (y (drs rm 0))).length : Int) + 0)), ((mk (y (drs rm 2)) : Nat) : Int) + (((mk (y (drs rm 1)) : Nat) : Int) + (((mk (y (drs rm 0)) : Nat) : Int) + 0)), cnt (drs rm) 3⟩ : Stat) = _
  have e1 : ((txt (y (drs rm 2))).length : Int) + (((txt (y (drs rm 1))).length : Int) + (((txt (y (drs rm 0))).length : Int) + 0)) = ((wtx y (drs rm)).length : Int) := by
    rw [wtx_len]; lia
  have e2 : ((mk (y (drs rm 2)) : Nat) : Int) + (((mk (y (drs rm 1)) : Nat) : Int) + (((mk (y (drs rm 0)) : Nat) : Int) + 0)) = ((mu y (drs rm 0) + mu y (drs rm 1) + mu y (drs rm 2) : Nat) : Int) := by
    unfold mu; lia
  rw [e1, e2]
  rfl
theorem rates {rm : Nat → Nat} {r : Nat} (h : Kept y ws 3) (hr : r < 3) (hrm : ∀ i, i < 4 → rm i < 3) (e : ws 3 r = [rm 3, rm 2, rm 1, rm 0]) (e3 : rm 3 = r) (hl : lsv y ws r = (bestR y : Int)) :
    ∀ i j, i < j → j < 4 → rm i = rm j → 6 * sumR y (drs rm) i j = bestR y * (j - i) := by
  have hR : bestR y = RR (mu y) := rfl
  obtain ⟨q1, q2, q3, q4, q5, q6⟩ := ring_rate (grows_of h) (hrm 0 (by decide)) (hrm 1 (by decide)) (hrm 2 (by decide)) (hrm 3 (by decide)) (by rw [← dd_walk e, e3]) (show ls (DD y ws) (rm 3) = (RR (mu y) : Int) by rw [e3]; exact hl)
  intro i j hij hj eq
  rw [hR]
  have s01 : sumR y (drs rm) 0 1 = mu y (3 * rm 0 + rm 1) := by show mu y _ + 0 = _; rfl
  have s12 : sumR y (drs rm) 1 2 = mu y (3 * rm 1 + rm 2) := by show mu y _ + 0 = _; rfl
  have s23 : sumR y (drs rm) 2 3 = mu y (3 * rm 2 + rm 3) := by show mu y _ + 0 = _; rfl
  have s02 : sumR y (drs rm) 0 2 = mu y (3 * rm 0 + rm 1) + mu y (3 * rm 1 + rm 2) := by show mu y _ + (mu y _ + 0) = _; rfl
  have s13 : sumR y (drs rm) 1 3 = mu y (3 * rm 1 + rm 2) + mu y (3 * rm 2 + rm 3) := by show mu y _ + (mu y _ + 0) = _; rfl
  have s03 : sumR y (drs rm) 0 3 = mu y (3 * rm 0 + rm 1) + mu y (3 * rm 1 + rm 2) + mu y (3 * rm 2 + rm 3) := by show mu y _ + (mu y _ + (mu y _ + 0)) = _; rw [Nat.add_zero, ← Nat.add_assoc]; rfl
  rcases pairs4 hij hj with ⟨rfl, rfl⟩ | ⟨rfl, rfl⟩ | ⟨rfl, rfl⟩ | ⟨rfl, rfl⟩ | ⟨rfl, rfl⟩ | ⟨rfl, rfl⟩
  · rw [s01]; exact q1 eq ▸ (Nat.mul_one _).symm
  · rw [s02]; exact (q4 eq).trans (Nat.mul_comm _ _)
  · rw [s03]; exact (q6 eq).trans (Nat.mul_comm _ _)
  · rw [s12]; exact q2 eq ▸ (Nat.mul_one _).symm
  · rw [s13]; exact (q5 eq).trans (Nat.mul_comm _ _)
  · rw [s23]; exact q3 eq ▸ (Nat.mul_one _).symm
theorem cr1 {a R : Nat} (e : 6 * a = R) : 6 * (a : Int) - R = 0 := by lia
theorem cr2 {a b R : Nat} (e : 6 * (a + b) = 2 * R) : 6 * (a : Int) - R + (6 * (b : Int) - R) = 0 := by lia
theorem cr3 {a b c R : Nat} (e : 6 * (a + b + c) = 3 * R) : 6 * (a : Int) - R + (6 * (b : Int) - R) + (6 * (c : Int) - R) = 0 := by lia
theorem crit_of {rm : Nat → Nat} {r : Nat} (h : Kept y ws 3) (hr : r < 3) (hrm : ∀ i, i < 4 → rm i < 3) (e : ws 3 r = [rm 3, rm 2, rm 1, rm 0]) (e3 : rm 3 = r) (hl : lsv y ws r = (bestR y : Int)) {i j : Nat} (hij : i < j) (hj : j < 4) (eq : rm i = rm j) : Crit (mu y) (rm i) := by
  obtain ⟨q1, q2, q3, q4, q5, q6⟩ := ring_rate (grows_of h) (hrm 0 (by decide)) (hrm 1 (by decide)) (hrm 2 (by decide)) (hrm 3 (by decide)) (by rw [← dd_walk e, e3]) (show ls (DD y ws) (rm 3) = (RR (mu y) : Int) by rw [e3]; exact hl)
  rcases pairs4 hij hj with ⟨rfl, rfl⟩ | ⟨rfl, rfl⟩ | ⟨rfl, rfl⟩ | ⟨rfl, rfl⟩ | ⟨rfl, rfl⟩ | ⟨rfl, rfl⟩
  · have := q1 eq; rw [← eq] at this; exact Or.inl (cr1 this)
  · have := q4 eq; rw [← eq] at this; exact Or.inr (Or.inl ⟨rm 1, hrm 1 (by decide), cr2 this⟩)
  · have := q6 eq; rw [← eq] at this; exact Or.inr (Or.inr ⟨rm 1, rm 2, hrm 1 (by decide), hrm 2 (by decide), cr3 this⟩)
  · have := q2 eq; rw [← eq] at this; exact Or.inl (cr1 this)
  · have := q5 eq; rw [← eq] at this; exact Or.inr (Or.inl ⟨rm 2, hrm 2 (by decide), cr2 this⟩)
  · have := q3 eq; rw [← eq] at this; exact Or.inl (cr1 this)
theorem pigeon {rm : Nat → Nat} (hrm : ∀ i, i < 4 → rm i < 3) : ∃ a b, a < b ∧ b < 4 ∧ rm a = rm b := by
  by_cases e01 : rm 0 = rm 1
  · exact ⟨0, 1, by decide, by decide, e01⟩
  by_cases e02 : rm 0 = rm 2
  · exact ⟨0, 2, by decide, by decide, e02⟩
  by_cases e03 : rm 0 = rm 3
  · exact ⟨0, 3, by decide, by decide, e03⟩
  by_cases e12 : rm 1 = rm 2
  · exact ⟨1, 2, by decide, by decide, e12⟩
  by_cases e13 : rm 1 = rm 3
  · exact ⟨1, 3, by decide, by decide, e13⟩
  by_cases e23 : rm 2 = rm 3
  · exact ⟨2, 3, by decide, by decide, e23⟩
  exact absurd (last3 (hrm 0 (by decide)) (hrm 1 (by decide)) (hrm 2 (by decide)) (hrm 3 (by decide)) e01 e12 e23 e02 e13) e03
end
end
-- G29
section
local macro_rules | `(tactic| walk_at $s:str) => `(tactic| k_extra $(Lean.Syntax.mkStrLit ("xG29:" ++ s.getString)))
theorem setup_G29 : True := by
  k_with "xG29:eval ListComp" => (refine Mine.stop ?_)
  k_with "xG29:m:subb" => ((k_here; (with_unfolding_all refine' Mine.sub_vals ?zzk1 ?zzk2 ?zzk3 ?zzk4 ?zzk5 ?zzk7 ?_ ?zzk6; (case zzk2 => k_asm); (case zzk3 => walk_at "m:mem"); (case zzk1 => assumption); (case zzk4 => walk_at "m:idx"); (case zzk5 => omega); (case zzk7 => decide); (case zzk6 => with_unfolding_all rfl)); rintro qvb' ⟨qtb', qhb'⟩; cases qhb'))
  k_with "xG29:m:subr" => ((k_here; (with_unfolding_all refine' Mine.sub_refA ?zzk2 ?zzk3 ?zzk4 ?zzk7 ?zzk5 ?_ ?zzk6; (case zzk2 => k_asm); (case zzk3 => walk_at "m:mem"); (case zzk5 => assumption); (case zzk4 => walk_at "m:idx"); (case zzk7 => omega); (case zzk6 => with_unfolding_all rfl))))
  k_with "xG29:subscriptTail Name Name ref int" => (first | walk_at "m:subp" | walk_at "m:subr")
  k_with "xG29:m:hide" => (have qB' := True.intro; have qD' := True.intro; have qF' := True.intro; have qFG' := True.intro; have qL' := True.intro; have qN' := True.intro; have qT' := True.intro; have qX' := True.intro; have qY' := True.intro; have qcells' := True.intro; have qd' := True.intro; have qfF := True.intro; have qg' := True.intro; have qh' := True.intro; have qh0' := True.intro; have qh1' := True.intro; have qhb' := True.intro; have qhc' := True.intro; have qhd' := True.intro; have qhp := True.intro; have qhv' := True.intro; have qhz := True.intro; have qhz' := True.intro; have qjk' := True.intro; have qkj' := True.intro; have ql1 := True.intro; have ql2 := True.intro; have qlo' := True.intro; have qnE' := True.intro; have qo' := True.intro; have qo1' := True.intro; have qp := True.intro; have qtb' := True.intro; have qtj' := True.intro; have qtk' := True.intro; have qtv' := True.intro; have qtx' := True.intro; have qvb' := True.intro; have qvv' := True.intro; have qx' := True.intro; have qzz' := True.intro)
  k_with "xG29:m:bare" => (clear qB' qD' qF' qFG' qL' qN' qT' qX' qY' qcells' qd' qfF qg' qh' qh0' qh1' qhb' qhc' qhd' qhp qhv' qhz qhz' qjk' qkj' ql1 ql2 qlo' qnE' qo' qo1' qp qtb' qtj' qtk' qtv' qtx' qvb' qvv' qx' qzz')
  trivial
/-- the digit at place q of the walk's doors -/
noncomputable def dig (y dr : Nat → Nat) (q : Nat) : Nat := if q % 3 = 0 then y (dr (q / 3)) % 4 else if q % 3 = 1 then y (dr (q / 3)) / 4 % 4 else y (dr (q / 3)) / 16
theorem strsF : ∀ {ys : List Value} {n : Nat} {f : Nat → Str}, ValsF ys n (fun j v => ∃ t, v = .str (f j) t) → StrsAre ys ((List.range n).map f)
  | [], n, f, h => by
    have := h.1
    subst this
    exact .nil
  | v :: ys, 0, f, h => nomatch h.1
  | v :: ys, n + 1, f, h => by
    refine Mine.by_op fun P9 bk9 => ?_
    obtain ⟨v', e, t, hv⟩ := h.2 0 (Nat.succ_pos n)
    refine bk9 ?_; clear bk9 P9
    cases e
    subst hv
    rw [List.range_succ_eq_map, List.map_cons, List.map_map]
    refine StrsAre.cons _ _ (strsF (f := fun t => f (t + 1)) ⟨Nat.succ.inj h.1, fun i hi => ?_⟩)
    exact h.2 (i + 1) (Nat.succ_lt_succ hi)
theorem pkW_len (d : Nat) : (pkW d).length ≤ 6 := by
  unfold pkW pk
  (repeat' split) <;> decide +kernel
theorem due_len (y dr : Nat → Nat) : (((List.range (3 * 3)).map fun q => pkW (dig y dr q)).map (·.length)).sum + ((List.range (3 * 3)).map fun q => pkW (dig y dr q)).length ≤ 1048576 := by
  have h := fun q => pkW_len (dig y dr q)
  have e : List.range (3 * 3) = [0, 1, 2, 3, 4, 5, 6, 7, 8] := rfl
  rw [e]
  simp only [List.map_cons, List.map_nil, List.sum_cons, List.sum_nil, List.length_cons, List.length_nil]
  have := h 0; have := h 1; have := h 2; have := h 3; have := h 4; have := h 5; have := h 6; have := h 7; have := h 8
  omega
theorem due_eq (y dr : Nat → Nat) : Txt.join (Str.ofString "") ((List.range (3 * 3)).map fun q => pkW (dig y dr q)) = escS (wtx y dr) := by
  have e : List.range (3 * 3) = [0, 1, 2, 3, 4, 5, 6, 7, 8] := rfl
  have h1 : (Txt.join (Str.ofString "") ((List.range (3 * 3)).map fun q => pkW (dig y dr q))).cps.toList = (escS (wtx y dr)).cps.toList := by
    rw [join0, e]
    show _ = escL (wtx y dr).cps.toList
    rw [wtx_list, escL_flat]
    simp only [List.map_cons, List.map_nil, List.flatMap_cons, List.flatMap_nil, List.flatMap_append, figL, wr_list, dig, List.append_nil, List.append_assoc]
    rfl
  refine Mine.by_op fun P9 bk9 => ?_
  obtain ⟨a, ha⟩ : ∃ a, a = Txt.join (Str.ofString "") ((List.range (3 * 3)).map fun q => pkW (dig y dr q)) := ⟨_, rfl⟩
  refine bk9 ?_; clear bk9 P9
  rw [← ha] at h1 ⊢
  cases a with
  | mk c1 =>
    generalize escS (wtx y dr) = b at h1
    cases b with
    | mk c2 => exact congrArg Str.mk (Array.toList_inj.mp h1)
set_option maxHeartbeats 1600000 in
set_option synthInstance.maxSize 100000 in
set_option synthInstance.maxHeartbeats 800000 in
noncomputable def s_segK4 (d : (World × (ExcName → Option Value) × (Str → Option Value) × (Str → Option Value)) × (Around × Nat × Nat × (Option (List Code))) × (Addr × Value × Heap × Heap) × (Addr × (Str → Option Value) × (List (Addr × Obj)) × LawCells) × (Shared × Heap × Nat × (Flow → Shared → Prop)) × ((Value → Shared → Prop) × Addr × Addr × Addr) × (Nat × (List Value) × (Nat → Nat))) : Prop := ∀ (y : Nat → Nat) (B : Below (d.2.1.1) (d.2.2.1.2.2.1) [] (d.2.2.1.2.2.2)) (X : (Mine.hd.heap_1 (d.1.1).params).In (d.2.2.1.2.2.2)) (TT : Top Mine.hd.view_1 (looseW Mine.hd.view_1 []) (d.1.2.1) (d.1.2.2.1) (d.1.2.2.2) (d.2.2.1.2.2.2)) (hd : (d.2.1.2.1) + 40 < recursionLimit) (hu : (d.2.1.2.2.1) + 8 * 40 < cLine) (F : Fr (d.2.2.1.2.2.2) (d.2.2.2.1.1) (d.2.2.2.2.1.2.1) (d.2.2.2.1.2.1)) (N : News (d.2.2.1.2.2.2) (d.2.2.2.1.1) (d.2.2.2.2.1.2.1) (cellLed (d.2.2.2.1.1) (d.2.2.2.1.2.2.2) ++ (d.2.2.2.1.2.2.1))) (hy : Young (d.2.2.2.1.1) (d.2.2.2.1.2.2.1)) (mN : (d.2.2.2.1.2.1) (Str.ofString "went") = some (.ref (d.2.2.2.2.2.1.2.1))) (cF : (d.2.2.2.1.2.2.2).oF.data = .cell (some (.ref (d.2.2.2.2.2.1.2.2.1)))) (cW : (d.2.2.2.1.2.2.2).oW.data = .cell (some (.ref (d.2.2.2.2.2.1.2.2.2)))) (hN : ((d.2.2.2.2.2.1.2.1), listOf (List.toArray (d.2.2.2.2.2.2.2.1)) (d.2.2.2.2.2.2.1)) ∈ (d.2.2.2.1.2.2.1)) (hv : ValsF (d.2.2.2.2.2.2.2.1) 3 (fun j v => ∃ t, v = .int ((d.2.2.2.2.2.2.2.2) j : Int) t)) (hdr : ∀ j, j < 3 → (d.2.2.2.2.2.2.2.2) j < 9) (hy64 : ∀ i, y i < 64) (hfig : Figs (d.2.2.2.1.2.2.1) (.ref (d.2.2.2.2.2.1.2.2.1)) y) (hp : IsPieces (d.2.2.2.1.2.2.1) (d.2.2.2.2.2.1.2.2.2) (Str.ofString "") (Str.ofString ">") (Str.ofString "&lt;") (Str.ofString "&quot;")) (ret : ∀ h' tk' add tx, Fr (d.2.2.1.2.2.2) (d.2.2.2.1.1) h' (fun z => if z = Str.ofString "due" then some (.str (escS (wtx y (d.2.2.2.2.2.2.2.2))) tx) else (d.2.2.2.1.2.1) z) → News (d.2.2.1.2.2.2) (d.2.2.2.1.1) h' (cellLed (d.2.2.2.1.1) (d.2.2.2.1.2.2.2) ++ (add ++ (d.2.2.2.1.2.2.1))) → Young (d.2.2.2.1.1) add → Apart add (d.2.2.2.1.2.2.1) → (d.2.2.2.2.1.2.2.2) .next { (d.2.2.2.2.1.1) with heap := h', toks := tk' }), wpAny (model PySem.Challenge.rw_zo0012_01.row.prog (d.1.1)) (lawA (d.1.1).params (d.2.1.2.1) (d.2.1.2.2.1) (d.2.1.2.2.2) (d.2.2.2.1.1) (d.2.2.1.1) (d.2.2.1.2.1)) (execs (((lawK (d.1.1).params).drop 4).take 1) (lawEnv (d.1.1).params (d.2.2.2.1.1) (d.2.2.1.1) (d.2.2.1.2.1))) (d.2.2.2.2.1.2.2.2) (d.2.2.2.2.2.1.1) { (d.2.2.2.2.1.1) with heap := (d.2.2.2.2.1.2.1), toks := (d.2.2.2.2.1.2.2.1) }
set_option maxHeartbeats 1600000 in
set_option synthInstance.maxSize 100000 in
set_option synthInstance.maxHeartbeats 800000 in
@[irreducible] noncomputable def k_segK4 : (World × (ExcName → Option Value) × (Str → Option Value) × (Str → Option Value)) × (Around × Nat × Nat × (Option (List Code))) × (Addr × Value × Heap × Heap) × (Addr × (Str → Option Value) × (List (Addr × Obj)) × LawCells) × (Shared × Heap × Nat × (Flow → Shared → Prop)) × ((Value → Shared → Prop) × Addr × Addr × Addr) × (Nat × (List Value) × (Nat → Nat)) := pick (by haveI := ne_World; haveI := ne_Around; haveI := ne_Shared; haveI := ne_Cells; exact inferInstance) s_segK4
theorem segK4_c : s_segK4 k_segK4 := by
  delta s_segK4
  intro y B X TT hd hu F N hy mN cF cW hN hv hdr hy64 hfig hp ret
  walk_at "m:fill"
  simp only [cellLed, List.cons_append, List.nil_append] at N
  have F0 := Mine.Fr.know F mN
  refine Mine.by_op fun P9 bk9 => ?_
  obtain ⟨aF', nF, rs, e1, hrs, hRm, hrow⟩ := hfig
  refine bk9 ?_; clear bk9 P9
  cases e1
  clear F
  dsimp only [lawK, fBs]
  walk_at "m:body"
  k_steps
  unfold Stop
  refine Mine.ListComp_two (h₀ := (k_segK4.2.2.1.2.2.2)) (L := (k_segK4.2.2.2.1.1)) (m := fun y => if y = Str.ofString "went" then some (Value.ref (k_segK4.2.2.2.2.2.1.2.1)) else (k_segK4.2.2.2.1.2.1) y) (n := 3) (r := 3) (fun q v => ∃ t, v = .str (pkW (dig y (k_segK4.2.2.2.2.2.2.2.2) q)) t) ?zzhh ?zzhA (by decide) (by decide) (by decide) (by with_unfolding_all rfl) ?zzhcell ?zzhkind ?zzhnames ?zzhx ?zzhz ?zzhxz ?zzhs ?zzhs2 ?_
  case zzhh => rfl
  case zzhA => rfl
  case zzhcell => decide
  case zzhkind => rfl
  case zzhnames => decide
  case zzhx => rfl
  case zzhz => rfl
  case zzhxz => decide +kernel
  case zzhs => intro _; rfl
  case zzhs2 => intro _ _; rfl
  k_steps
  unfold Stop
  refine ⟨(k_segK4.2.2.2.2.2.1.2.1), (k_segK4.2.2.2.2.2.2.2.1), (k_segK4.2.2.2.2.2.2.1), cellLed (k_segK4.2.2.2.1.1) (k_segK4.2.2.2.1.2.2.2) ++ (k_segK4.2.2.2.1.2.2.1), rfl, by assumption, by assumption, List.mem_append_right _ hN, hv.1, ?_, ?_⟩
  · rintro i v C oC m₂ h4 tk4 Q2 E2 hi hC hx F4 N4 ret2
    have hi3 : i < 3 := by
      have := (List.getElem?_eq_some_iff.mp hi).1
      rw [hv.1] at this; exact this
    refine Mine.by_op fun P9 bk9 => ?_
    obtain ⟨v', e', t', rfl⟩ := hv.2 i hi3
    refine bk9 ?_; clear bk9 P9
    have ev : v = .int ((k_segK4.2.2.2.2.2.2.2.2) i : Int) t' := Option.some.inj (hi.symm.trans e')
    subst ev
    have bd := hdr i hi3
    refine Mine.by_op fun P9 bk9 => ?_
    obtain ⟨ar, er⟩ : ∃ ar, rs[(k_segK4.2.2.2.2.2.2.2.2) i]? = some ar := ⟨_, List.getElem?_eq_getElem (by omega)⟩
    refine bk9 ?_; clear bk9 P9
    refine Mine.by_op fun P9 bk9 => ?_
    obtain ⟨or, hrm, q0, q1, q2, cr, rfl⟩ := hrow _ _ er
    refine bk9 ?_; clear bk9 P9
    have N5 := N4
    simp only [cellLed, List.cons_append, List.nil_append] at N5
    clear F0 N N4
    k_steps
    refine ret2 _ ar _ cr (List.mem_append_right _ hrm) rfl ?_
    rintro j u oC2 m2 h5 tk5 Q3 E3 hj hC2 hx2 hz2 F5 N6 ret3
    simp only [cellLed, List.cons_append, List.nil_append] at N6
    clear N5 F4
    have hy6 := hy64 ((k_segK4.2.2.2.2.2.2.2.2) i)
    have hju : ∃ tu, u = .int (dig y (k_segK4.2.2.2.2.2.2.2.2) (3 * i + j) : Int) tu ∧ dig y (k_segK4.2.2.2.2.2.2.2.2) (3 * i + j) < 4 := by
      match j, hj with
      | 0, hj =>
        have e0 : (3 * i + 0) % 3 = 0 := by omega
        have e1 : (3 * i + 0) / 3 = i := by omega
        refine ⟨q0, (Option.some.inj hj).symm.trans ?_, ?_⟩
        · unfold dig; rw [if_pos e0, e1]
        · unfold dig; rw [if_pos e0, e1]; exact Nat.mod_lt _ (by decide)
      | 1, hj =>
        have e0 : (3 * i + 1) % 3 = 1 := by omega
        have e1 : (3 * i + 1) / 3 = i := by omega
        refine ⟨q1, (Option.some.inj hj).symm.trans ?_, ?_⟩
        · unfold dig; rw [if_neg (by omega), if_pos e0, e1]
        · unfold dig; rw [if_neg (by omega), if_pos e0, e1]; exact Nat.mod_lt _ (by decide)
      | 2, hj =>
        have e0 : (3 * i + 2) % 3 = 2 := by omega
        have e1 : (3 * i + 2) / 3 = i := by omega
        refine ⟨q2, (Option.some.inj hj).symm.trans ?_, ?_⟩
        · unfold dig; rw [if_neg (by omega), if_neg (by omega), e1]
        · unfold dig; rw [if_neg (by omega), if_neg (by omega), e1]; omega
      | j + 3, hj => simp at hj
    refine Mine.by_op fun P9 bk9 => ?_
    obtain ⟨tu, rfl, hd4⟩ := hju
    refine bk9 ?_; clear bk9 P9
    generalize dig y (k_segK4.2.2.2.2.2.2.2.2) (3 * i + j) = d at hd4 ret3 hz2
    k_steps
    exact ret3 _ _ ⟨_, rfl⟩
  · intro ys hv2
    unfold LCg.FinE
    intro D h2 tk2 F2 N2 o1
    have N3 := N2
    rw [lst3 hv2.1] at N3
    simp only [cellLed, List.cons_append, List.nil_append] at N3
    clear F0 N
    have hstr := strsF hv2
    k_with "xG29:call builtin:str.join" => ((try dsimp only [List.cons_append, List.nil_append]); k_dflt (refine' Mine.join_L ?zzk1 ?zzk2 ?zzk3 ?zzk4 ?zzk5 ?_; (case zzk1 => k_asm); (case zzk2 => walk_at "m:mem"); (case zzk3 => exact hstr); (case zzk4 => decide +kernel); (case zzk5 => exact due_len y (k_segK4.2.2.2.2.2.2.2.2))); intro tj' kj'; (try dsimp only))
    k_steps
    (walk_at "m:hide"; rename_i h8 F8 N8; walk_at "m:bare")
    rw [due_eq] at F8
    refine wpAny_execs_nil ?_
    have o1' : LCg.Off1 D (cellLed (k_segK4.2.2.2.1.1) (k_segK4.2.2.2.1.2.2.2) ++ (k_segK4.2.2.2.1.2.2.1)) := o1
    exact ret _ _ [(D, listOf ys.toArray (3 * 3))] _ (Mine.Fr.alike F8 fun z => (know_under (know_ite mN fun _ => rfl) z).symm) (perm_cells (add := [(D, listOf ys.toArray (3 * 3))]) (A := cellLed (k_segK4.2.2.2.1.1) (k_segK4.2.2.2.1.2.2.2)) (T := (k_segK4.2.2.2.1.2.2.1)) N8) (young_off (c := (k_segK4.2.2.2.1.2.2.2)) o1' young_nil) (apart_cons (fun q hq => off1_mem o1' q (List.mem_append_right _ hq)) apart_nil)
theorem segK4 (w : World) {mean : ExcName → Option Value} {mg mb : Str → Option Value} {A₀ : Around} {dp un : Nat} {gd : Option (List Code)} {fa : Addr} {cd : Value} {base g : Heap} {L : Addr} {m : Str → Option Value} {T : List (Addr × Obj)} {c : LawCells} {s : Shared} {h : Heap} {tk : Nat} {Q : Flow → Shared → Prop} {E : Value → Shared → Prop}
    (B : Below A₀ base [] g) (X : (Mine.hd.heap_1 w.params).In g) (TT : Top Mine.hd.view_1 (looseW Mine.hd.view_1 []) mean mg mb g) (hd : dp + 40 < recursionLimit) (hu : un + 8 * 40 < cLine)
    (F : Fr g L h m) (N : News g L h (cellLed L c ++ T)) (hy : Young L T)
    {aN aF aW : Addr} {nN : Nat} {vs : List Value} {dr : Nat → Nat} {y : Nat → Nat}
    (mN : m (Str.ofString "went") = some (.ref aN)) (cF : c.oF.data = .cell (some (.ref aF))) (cW : c.oW.data = .cell (some (.ref aW))) (hN : (aN, listOf (List.toArray vs) nN) ∈ T) (hv : ValsF vs 3 (fun j v => ∃ t, v = .int (dr j : Int) t)) (hdr : ∀ j, j < 3 → dr j < 9)
    (hy64 : ∀ i, y i < 64) (hfig : Figs T (.ref aF) y) (hp : IsPieces T aW (Str.ofString "") (Str.ofString ">") (Str.ofString "&lt;") (Str.ofString "&quot;"))
    (ret : ∀ h' tk' add tx, Fr g L h' (fun z => if z = Str.ofString "due" then some (.str (escS (wtx y dr)) tx) else m z) → News g L h' (cellLed L c ++ (add ++ T)) → Young L add → Apart add T → Q .next { s with heap := h', toks := tk' }) : wpAny (model PySem.Challenge.rw_zo0012_01.row.prog w) (lawA w.params dp un gd L fa cd) (execs (((lawK w.params).drop 4).take 1) (lawEnv w.params L fa cd)) Q E { s with heap := h, toks := tk } :=
  pick_all k_segK4.eq_1 segK4_c ((w, mean, mg, mb), (A₀, dp, un, gd), (fa, cd, base, g), (L, m, T, c), (s, h, tk, Q), (E, aN, aF, aW), (nN, vs, dr)) y B X TT hd hu F N hy mN cF cW hN hv hdr hy64 hfig hp ret
end
-- G30
section
local macro_rules | `(tactic| walk_at $s:str) => `(tactic| k_extra $(Lean.Syntax.mkStrLit ("xG30:" ++ s.getString)))
local macro_rules | `(tactic| walk_at $s:str) => `(tactic| k_extra $(Lean.Syntax.mkStrLit ("xG30:" ++ s.getString)))
theorem setup_G30 : True := by
  k_with "xG30:m:subb" => ((k_here; (with_unfolding_all refine' Mine.sub_vals ?zzk1 ?zzk2 ?zzk3 ?zzk4 ?zzk5 ?zzk7 ?_ ?zzk6; (case zzk2 => k_asm); (case zzk3 => walk_at "m:mem"); (case zzk1 => assumption); (case zzk4 => walk_at "m:idx"); (case zzk5 => omega); (case zzk7 => decide); (case zzk6 => with_unfolding_all rfl)); rintro qvb' ⟨qtb', qhb'⟩; cases qhb'))
  k_with "xG30:subscriptTail Name Name ref int" => (walk_at "m:subb")
  trivial
theorem segK0 (w : World) {mean : ExcName → Option Value} {mg mb : Str → Option Value} {A₀ : Around} {dp un : Nat} {gd : Option (List Code)} {fa : Addr} {cd : Value} {base g : Heap} {L : Addr} {m : Str → Option Value} {T : List (Addr × Obj)} {c : LawCells} {s : Shared} {h : Heap} {tk : Nat} {Q : Flow → Shared → Prop} {E : Value → Shared → Prop}
    (B : Below A₀ base [] g) (X : (Mine.hd.heap_1 w.params).In g) (TT : Top Mine.hd.view_1 (looseW Mine.hd.view_1 []) mean mg mb g) (hd : dp + 40 < recursionLimit) (hu : un + 8 * 40 < cLine)
    (F : Fr g L h m) (N : News g L h (cellLed L c ++ T)) (hy : Young L T)
    {aL : Addr} {nL R r : Nat} {vs : List Value} {f : Nat → Int} {tR tr : Tok}
    (mL : m (Str.ofString "leasts") = some (.ref aL)) (mR : m (Str.ofString "rate") = some (.int (R : Int) tR)) (cR : c.oR.data = .cell (some (.int (r : Int) tr))) (hr : r < 3)
    (hL : (aL, listOf (List.toArray vs) nL) ∈ T) (hv : ValsF vs 3 (fun r v => ∃ t, v = .int (f r) t))
    (skip : ∀ tk', f r ≠ (R : Int) → Q .cont { s with heap := h, toks := tk' })
    (ret : ∀ tk', f r = (R : Int) → Q .next { s with heap := h, toks := tk' }) :
    wpAny (model PySem.Challenge.rw_zo0012_01.row.prog w) (lawA w.params dp un gd L fa cd) (execs (((lawK w.params).drop 0).take 1) (lawEnv w.params L fa cd)) Q E { s with heap := h, toks := tk } := by
  walk_at "m:fill"
  simp only [cellLed, List.cons_append, List.nil_append] at N
  have F0 := Mine.Fr.know (Mine.Fr.know F mL) ((know_ite mL (fun _ => rfl) _).trans mR)
  clear F
  dsimp only [lawK, fBs]
  walk_at "m:body"
  k_steps
  · exact skip _ (by assumption)
  · dsimp only
    refine wpAny_execs_nil ?_
    exact ret _ (by assumption)
end
-- G31
section
section
variable {prog : Program} {w : World} {A : Around} {E : Value → Shared → Prop} {s : Shared} {env : Env}
/-- the first statements of many, the count of tokens kept above a bound -/
theorem wpP_first_tk {Q : Flow → Shared → Prop} {l : List Stmt} (n n0 : Nat) (hn0 : n0 ≤ s.toks)
    (h : wpP (model prog w) A (execs (l.take n) env) (fun f s' => n0 ≤ s'.toks → match f with | .next => wpP (model prog w) A (execs (l.drop n) env) Q E s' | f => Q f s') E s) : wpP (model prog w) A (execs l env) Q E s :=
  wpP_execs_first n (wpP_mono (wpP_toks_of hn0 h) (fun _ _ q => q.2 q.1) fun _ _ e => e.2)
theorem wpP_from_tk {Q : Flow → Shared → Prop} {l : List Stmt} (m n k n0 : Nat) (e : m + n = k) (hn0 : n0 ≤ s.toks)
    (h : wpP (model prog w) A (execs ((l.drop m).take n) env) (fun f s' => n0 ≤ s'.toks → match f with | .next => wpP (model prog w) A (execs (l.drop k) env) Q E s' | f => Q f s') E s) : wpP (model prog w) A (execs (l.drop m) env) Q E s :=
  wpP_execs_from m n k e (wpP_mono (wpP_toks_of hn0 h) (fun _ _ q => q.2 q.1) fun _ _ e => e.2)
theorem wpP_nil {Q : Flow → Shared → Prop} (h : Q .next s) : wpP (model prog w) A (execs [] env) Q E s := wpP_of (wpAny_execs_nil h)
end
theorem apart_app {X Y T : List (Addr × Obj)} (h : Apart X T) (k : Apart Y T) : Apart (X ++ Y) T := fun p hp q hq => (List.mem_append.mp hp).elim (fun hp => h p hp q hq) fun hp => k p hp q hq
theorem apart_sub {X T T' : List (Addr × Obj)} (h : Apart X T') (k : ∀ p ∈ T, p ∈ T') : Apart X T := fun p hp q hq => h p hp q (k q hq)
theorem young_app {L : Addr} {X Y : List (Addr × Obj)} (h : Young L X) (k : Young L Y) : Young L (X ++ Y) := fun p hp => (List.mem_append.mp hp).elim (h p) (k p)
theorem ways_mono {T T' : List (Addr × Obj)} {a : Addr} {W : Nat → List Nat} (h : Ways T a W) (hs : ∀ p ∈ T, p ∈ T') : Ways T' a W := by
  refine Mine.by_op fun P9 bk9 => ?_
  obtain ⟨vs, n, e1, e2⟩ := h
  refine bk9 ?_; clear bk9 P9
  exact ⟨vs, n, hs _ e1, e2⟩
theorem texts_mono {T T' : List (Addr × Obj)} {a : Addr} {y : Nat → Nat} (h : Texts T a y) (hs : ∀ p ∈ T, p ∈ T') : Texts T' a y := by
  refine Mine.by_op fun P9 bk9 => ?_
  obtain ⟨vs, n, e1, e2⟩ := h
  refine bk9 ?_; clear bk9 P9
  exact ⟨vs, n, hs _ e1, e2⟩
theorem pieces_mono {T T' : List (Addr × Obj)} {a : Addr} {x0 x1 x2 x3 : Str} (h : IsPieces T a x0 x1 x2 x3) (hs : ∀ p ∈ T, p ∈ T') : IsPieces T' a x0 x1 x2 x3 := by
  refine Mine.by_op fun P9 bk9 => ?_
  obtain ⟨t0, t1, t2, t3, n, e⟩ := h
  refine bk9 ?_; clear bk9 P9
  exact ⟨t0, t1, t2, t3, n, hs _ e⟩
/-- a room's turn of the last loop -/
theorem bodyK (w : World) {mean : ExcName → Option Value} {mg mb : Str → Option Value} {A₀ : Around} {dp un : Nat} {fa : Addr} {cd : Value} {base g : Heap} {L : Addr} {m : Str → Option Value} {T : List (Addr × Obj)} {c : LawCells} {s : Shared} {h : Heap} {tk : Nat} {Q : Flow → Shared → Prop} {E : Value → Shared → Prop}
    (B : Below A₀ base [] g) (X : (Mine.hd.heap_1 w.params).In g) (TT : Top Mine.hd.view_1 (looseW Mine.hd.view_1 []) mean mg mb g) (hd : dp + 40 < recursionLimit) (hu : un + 8 * 40 < cLine)
    (F : Fr g L h m) (N : News g L h (cellLed L c ++ T)) (hy : Young L T)
    (hE : PassesOwn (model PySem.Challenge.rw_zo0012_01.row.prog w) (lawA w.params dp un (some []) L fa cd) (lawEnv w.params L fa cd) E)
    {aL aW aX aM aS aF aP : Addr} {nL nS r st : Nat} {lv : List Value} {ras : List Addr} {y : Nat → Nat} {ws : Nat → Nat → List Nat} {tR tr tS : Tok} {vQ : Option Value}
    (htk : 1 ≤ tk) (hr : r < 3)
    (mL : m (Str.ofString "leasts") = some (.ref aL)) (mR : m (Str.ofString "rate") = some (.int (bestR y : Int) tR)) (mW : m (Str.ofString "ways") = some (.ref aW)) (mS : m (Str.ofString "start") = some (.int (st : Int) tS))
    (cR : c.oR.data = .cell (some (.int (r : Int) tr))) (cQ : c.oQ.data = .cell vQ) (cX : c.oX.data = .cell (some (.ref aX))) (cM : c.oM.data = .cell (some (.ref aM))) (cS : c.oS.data = .cell (some (.ref aS))) (cF : c.oF.data = .cell (some (.ref aF))) (cW : c.oW.data = .cell (some (.ref aP)))
    (hL : (aL, listOf (List.toArray lv) nL) ∈ T) (hlv : ValsF lv 3 (fun r v => ∃ t, v = .int (lsv y ws r) t)) (hW : Ways T aW (ws 3)) (hX : Texts T aX y) (hM : Marks T aM y) (hS : (aS, listOf (List.toArray (ras.map Value.ref)) nS) ∈ T) (hras : ras.length = 4) (hst : Stages w y T ras ws)
    (hy64 : ∀ i, y i < 64) (hfig : Figs T (.ref aF) y) (hp : IsPieces T aP (Str.ofString "") (Str.ofString ">") (Str.ofString "&lt;") (Str.ofString "&quot;")) (hk : Kept y ws 3) (hR : bestR y ≤ 108)
    (ret : ∀ fl h' tk' m' oQ add (st' : Nat), (fl = .next ∨ fl = .cont) → Fr g L h' m' → News g L h' (cellLed L { c with oQ := oQ } ++ (add ++ T)) → Young L add → Apart add T → (∃ v, oQ.data = .cell v) →
      m' (Str.ofString "leasts") = m (Str.ofString "leasts") → m' (Str.ofString "rate") = m (Str.ofString "rate") → m' (Str.ofString "ways") = m (Str.ofString "ways") → (∃ t, m' (Str.ofString "start") = some (.int (st' : Int) t)) →
      ((lsv y ws r ≠ (bestR y : Int) ∧ st' = st) ∨ (st' < 3 ∧ Crit (mu y) st')) → Q fl { s with heap := h', toks := tk' }) :
    wpP (model PySem.Challenge.rw_zo0012_01.row.prog w) (lawA w.params dp un (some []) L fa cd) (execs (lawK w.params) (lawEnv w.params L fa cd)) Q E { s with heap := h, toks := tk } := by
  refine Mine.by_op fun P9 bk9 => ?_
  obtain ⟨rm, hrm, eW, e3⟩ := walk_rooms hk hr
  refine bk9 ?_; clear bk9 P9
  refine wpP_first_tk 1 1 htk (wpP_of ?_)
  refine segK0 w (T := T) (R := bestR y) (f := lsv y ws) B X TT hd hu F N hy mL mR cR hr hL hlv ?_ ?_
  · intro tk1 hne _
    exact ret .cont h tk1 m c.oQ [] st (.inr rfl) F N young_nil apart_nil ⟨_, cQ⟩ rfl rfl rfl ⟨_, mS⟩ (.inl ⟨hne, rfl⟩)
  intro tk1 heq htk1
  replace htk1 : 1 ≤ tk1 := htk1
  dsimp only
  refine wpP_from_tk 1 1 2 1 rfl htk1 ?_
  refine segK1 w (T := T) (W := ws 3) (rm := rm) B X TT hd hu F N hy mW hW cR hr cQ eW hrm ?_
  intro h2 tk2 oQ add1 aQ qs nQ _ F2 N2 y1 a1 dQ hQm hq htk2
  replace htk2 : 1 ≤ tk2 := htk2
  have s1 : ∀ p ∈ T, p ∈ add1 ++ T := fun p hp => List.mem_append_right _ hp
  have hy1 := young_app y1 hy
  dsimp only
  refine wpP_from_tk 2 1 3 1 rfl htk2 (wpP_of ?_)
  refine segK2 w (c := { c with oQ := oQ }) (T := add1 ++ T) (rm := rm) B X TT hd hu F2 N2 hy1 dQ (List.mem_append_left _ hQm) hq hrm ?_
  intro h3 tk3 aN vs add2 F3 N3 y2 a2 hNm hv htk3
  replace htk3 : 1 ≤ tk3 := htk3
  replace hv : ValsF vs 3 (fun j v => ∃ t, v = .int (drs rm j : Int) t) := hv
  have hdr : ∀ j, j < 3 → drs rm j < 9 := fun j hj => by
    have b0 := hrm j (by omega)
    have b1 := hrm (j + 1) (by omega)
    unfold drs; omega
  have s2 : ∀ p ∈ T, p ∈ add2 ++ (add1 ++ T) := fun p hp => List.mem_append_right _ (s1 p hp)
  have hy2 := young_app y2 hy1
  dsimp only
  refine wpP_from_tk 3 1 4 1 rfl htk3 (wpP_of ?_)
  refine segK3 w (c := { c with oQ := oQ }) (T := add2 ++ (add1 ++ T)) (dr := drs rm) (y := y) (vs := vs) B X TT hd hu F3 N3 hy2 (if_pos rfl) cX (List.mem_append_left _ hNm) hv hdr (texts_mono hX s2) ?_
  intro h4 tk4 tx F4 N4 htk4
  replace htk4 : 1 ≤ tk4 := htk4
  dsimp only
  refine wpP_from_tk 4 1 5 1 rfl htk4 (wpP_of ?_)
  refine segK4 w (c := { c with oQ := oQ }) (T := add2 ++ (add1 ++ T)) (dr := drs rm) (y := y) (vs := vs) B X TT hd hu F4 N4 hy2 ((if_neg (by decide +kernel)).trans (if_pos rfl)) cF cW (List.mem_append_left _ hNm) hv hdr hy64 (figs_mono hfig s2) (pieces_mono hp s2) ?_
  intro h5 tk5 add4 td F5 N5 y4 a4 htk5
  replace htk5 : 1 ≤ tk5 := htk5
  have s4 : ∀ p ∈ add2 ++ (add1 ++ T), p ∈ add4 ++ (add2 ++ (add1 ++ T)) := fun p hp => List.mem_append_right _ hp
  have hy4 := young_app y4 hy2
  dsimp only
  refine wpP_from_tk 5 2 7 1 rfl htk5 (wpP_of ?_)
  refine segK5 w (c := { c with oQ := oQ }) (T := add4 ++ (add2 ++ (add1 ++ T))) (dr := drs rm) (vs := vs) B X TT hd hu F5 N5 hy4 hE ((if_neg (by decide +kernel)).trans ((if_neg (by decide +kernel)).trans (if_pos rfl))) (s4 _ (List.mem_append_left _ hNm)) hv hdr ?_
  intro h6 tk6 m6 aD oD F6 N6 hLD nD hm6 mD6 htab lo htk6
  replace htk6 : 1 ≤ tk6 := htk6
  have s6 : ∀ p ∈ add4 ++ (add2 ++ (add1 ++ T)), p ∈ (aD, oD) :: (add4 ++ (add2 ++ (add1 ++ T))) := fun p hp => .tail _ hp
  have hy6 : Young L ((aD, oD) :: (add4 ++ (add2 ++ (add1 ++ T)))) := young_cons hLD hy4
  dsimp only
  refine wpP_from_tk 7 1 8 1 rfl htk6 (wpP_of ?_)
  refine segK6 w (c := { c with oQ := oQ }) (T := (aD, oD) :: (add4 ++ (add2 ++ (add1 ++ T)))) (dr := drs rm) (y := y) (vs := vs) B X TT hd hu F6 N6 hy6 ((hm6 _ (by decide +kernel) (by decide +kernel)).trans ((if_neg (by decide +kernel)).trans ((if_neg (by decide +kernel)).trans (if_pos rfl)))) cM (s6 _ (s4 _ (List.mem_append_left _ hNm))) hv hdr (marks_mono hM fun p hp => s6 _ (s4 _ (s2 p hp))) ?_
  intro h7 tk7 tz F7 N7 htk7
  replace htk7 : 1 ≤ tk7 := htk7
  dsimp only
  refine wpP_from_tk 8 1 9 1 rfl htk7 (wpP_of ?_)
  refine segK7 w (c := { c with oQ := oQ }) (T := (aD, oD) :: (add4 ++ (add2 ++ (add1 ++ T)))) (dr := drs rm) (y := y) (ras := ras) (ws := ws) (r := r) B X TT hd hu F7 N7 hy6 htk7 hr cS cR (s6 _ (s4 _ (s2 _ hS))) hras (stages_mono hst fun p hp => s6 _ (s4 _ (s2 p hp)))
    ((if_neg (by decide +kernel)).trans ((hm6 _ (by decide +kernel) (by decide +kernel)).trans ((if_neg (by decide +kernel)).trans (if_pos rfl)))) ((if_neg (by decide +kernel)).trans ((hm6 _ (by decide +kernel) (by decide +kernel)).trans (if_pos rfl))) (if_pos rfl) ((if_neg (by decide +kernel)).trans mD6) (.head _) htab lo (wst_walk eW) ?_
  intro h8 tk8 add7 F8 N8 y7 a7 htk8
  replace htk8 : 1 ≤ tk8 := htk8
  have s7 : ∀ p ∈ (aD, oD) :: (add4 ++ (add2 ++ (add1 ++ T))), p ∈ add7 ++ ((aD, oD) :: (add4 ++ (add2 ++ (add1 ++ T)))) := fun p hp => List.mem_append_right _ hp
  have hy7 := young_app y7 hy6
  have sT : ∀ p ∈ T, p ∈ add7 ++ ((aD, oD) :: (add4 ++ (add2 ++ (add1 ++ T)))) := fun p hp => s7 _ (s6 _ (s4 _ (s2 p hp)))
  have up : ∀ z, z ≠ Str.ofString "went" → z ≠ Str.ofString "text" → z ≠ Str.ofString "due" → z ≠ Str.ofString "names" → z ≠ Str.ofString "door" → z ≠ Str.ofString "total" → (if z = Str.ofString "total" then some (Value.int ((mu y (drs rm 0) + mu y (drs rm 1) + mu y (drs rm 2) : Nat) : Int) tz) else m6 z) = m z := fun z z1 z2 z3 z4 z5 z6 =>
    (if_neg z6).trans ((hm6 z z4 z5).trans ((if_neg z3).trans ((if_neg z2).trans (if_neg z1))))
  dsimp only
  refine wpP_from_tk 9 1 10 1 rfl htk8 (wpP_of ?_)
  refine segK8 w (c := { c with oQ := oQ }) (T := add7 ++ ((aD, oD) :: (add4 ++ (add2 ++ (add1 ++ T))))) (dr := drs rm) (rm := rm) (y := y) (vs := vs) (qs := qs) (R := bestR y) (st := st) B X TT hd hu F8 N8 hy7 hE
    ((if_neg (by decide +kernel)).trans ((hm6 _ (by decide +kernel) (by decide +kernel)).trans ((if_neg (by decide +kernel)).trans ((if_neg (by decide +kernel)).trans (if_pos rfl))))) ((up _ (by decide +kernel) (by decide +kernel) (by decide +kernel) (by decide +kernel) (by decide +kernel) (by decide +kernel)).trans mS) ((up _ (by decide +kernel) (by decide +kernel) (by decide +kernel) (by decide +kernel) (by decide +kernel) (by decide +kernel)).trans mR) hR dQ cM
    (s7 _ (s6 _ (s4 _ (List.mem_append_left _ hNm)))) hv hdr (s7 _ (s6 _ (s4 _ (List.mem_append_right _ (List.mem_append_left _ hQm))))) hq (marks_mono hM sT) (rates hk hr hrm eW e3 heq) ?_
  intro h9 tk9 m9 add8 st9 F9 N9 y8 a8 hm9 hS9 hst9 htk9
  dsimp only
  refine wpP_nil ?_
  have hm9' : ∀ z, z ≠ Str.ofString "start" → z ≠ Str.ofString "i" → z ≠ Str.ofString "j" → z ≠ Str.ofString "went" → z ≠ Str.ofString "text" → z ≠ Str.ofString "due" → z ≠ Str.ofString "names" → z ≠ Str.ofString "door" → z ≠ Str.ofString "total" → m9 z = m z := fun z z1 z2 z3 z4 z5 z6 z7 z8 z9 => (hm9 z z1 z2 z3).trans (up z z4 z5 z6 z7 z8 z9)
  refine ret .next h9 tk9 m9 oQ (add8 ++ (add7 ++ ((aD, oD) :: (add4 ++ (add2 ++ add1))))) st9 (.inl rfl) F9 (news_sub N9 fun p hp => ?_) ?_ ?_ ⟨_, dQ⟩ (hm9' _ (by decide +kernel) (by decide +kernel) (by decide +kernel) (by decide +kernel) (by decide +kernel) (by decide +kernel) (by decide +kernel) (by decide +kernel) (by decide +kernel)) (hm9' _ (by decide +kernel) (by decide +kernel) (by decide +kernel) (by decide +kernel) (by decide +kernel) (by decide +kernel) (by decide +kernel) (by decide +kernel) (by decide +kernel)) (hm9' _ (by decide +kernel) (by decide +kernel) (by decide +kernel) (by decide +kernel) (by decide +kernel) (by decide +kernel) (by decide +kernel) (by decide +kernel) (by decide +kernel)) hS9 (.inr ?_)
  · revert hp
    simp only [List.mem_append, List.mem_cons]
    rintro (h | (h | h | h | h | h | h) | h) <;> simp [h]
  · exact young_app y8 (young_app y7 (young_cons hLD (young_app y4 (young_app y2 y1))))
  · exact apart_app (apart_sub a8 sT) (apart_app (apart_sub a7 fun p hp => s6 _ (s4 _ (s2 p hp))) (apart_cons (fun q hq => nD q (s4 _ (s2 q hq))) (apart_app (apart_sub a4 s2) (apart_app (apart_sub a2 s1) a1))))
  · rcases hst9 with ⟨a, b, ab, b4, eab, rfl⟩ | ⟨_, none⟩
    · exact ⟨hrm a (by omega), crit_of hk hr hrm eW e3 heq ab b4 eab⟩
    · refine Mine.by_op fun P9 bk9 => ?_
      obtain ⟨a, b, ab, b4, eab⟩ := pigeon hrm
      refine bk9 ?_; clear bk9 P9
      exact absurd eab (none a b ab b4)
end
-- G32
section
local macro_rules | `(tactic| walk_at $s:str) => `(tactic| k_extra $(Lean.Syntax.mkStrLit ("xG32:" ++ s.getString)))
theorem setup_G32 : True := by
  k_with "xG32:execs cons" => (refine Mine.stop ?_)
  k_with "xG32:m:hide" => (have qB' := True.intro; have qD' := True.intro; have qF' := True.intro; have qFG' := True.intro; have qL' := True.intro; have qN' := True.intro; have qT' := True.intro; have qX' := True.intro; have qY' := True.intro; have qcells' := True.intro; have qd' := True.intro; have qfF := True.intro; have qg' := True.intro; have qh' := True.intro; have qh0' := True.intro; have qh1' := True.intro; have qhc' := True.intro; have qhd' := True.intro; have qhp := True.intro; have qhv' := True.intro; have qhz := True.intro; have qhz' := True.intro; have qjk' := True.intro; have qkj' := True.intro; have ql1 := True.intro; have ql2 := True.intro; have qlo' := True.intro; have qnE' := True.intro; have qo' := True.intro; have qo1' := True.intro; have qp := True.intro; have qtj' := True.intro; have qtk' := True.intro; have qtv' := True.intro; have qtx' := True.intro; have qvv' := True.intro; have qx' := True.intro; have qzz' := True.intro)
  k_with "xG32:m:bare" => (clear qB' qD' qF' qFG' qL' qN' qT' qX' qY' qcells' qd' qfF qg' qh' qh0' qh1' qhc' qhd' qhp qhv' qhz qhz' qjk' qkj' ql1 ql2 qlo' qnE' qo' qo1' qp qtj' qtk' qtv' qtx' qvv' qx' qzz')
  trivial
/- the last loop: a room that has the rate gives where it begins -/
set_option synthInstance.maxSize 100000 in
set_option synthInstance.maxHeartbeats 800000 in
noncomputable def s_segK (d : (World × (ExcName → Option Value) × (Str → Option Value) × (Str → Option Value)) × (Around × Nat × Nat × Addr) × (Value × Heap × Heap × Addr) × ((Str → Option Value) × (List (Addr × Obj)) × LawCells × Shared) × (Nat × (Flow → Shared → Prop) × (Value → Shared → Prop) × Addr) × (Addr × Addr × Addr × Addr) × (Addr × Addr × Nat × Nat) × ((List Value) × (List Addr) × (Nat → Nat) × (Nat → Nat → List Nat)) × (Tok × Tok × (Option Value) × (Option Value))) : Prop := ∀ (h : Heap) (B : Below (d.2.1.1) (d.2.2.1.2.1) [] (d.2.2.1.2.2.1)) (X : (Mine.hd.heap_1 (d.1.1).params).In (d.2.2.1.2.2.1)) (TT : Top Mine.hd.view_1 (looseW Mine.hd.view_1 []) (d.1.2.1) (d.1.2.2.1) (d.1.2.2.2) (d.2.2.1.2.2.1)) (hd : (d.2.1.2.1) + 40 < recursionLimit) (hu : (d.2.1.2.2.1) + 8 * 40 < cLine) (F : Fr (d.2.2.1.2.2.1) (d.2.2.1.2.2.2) h (d.2.2.2.1.1)) (N : News (d.2.2.1.2.2.1) (d.2.2.1.2.2.2) h (cellLed (d.2.2.1.2.2.2) (d.2.2.2.1.2.2.1) ++ (d.2.2.2.1.2.1))) (hy : Young (d.2.2.1.2.2.2) (d.2.2.2.1.2.1)) (hE : PassesOwn (model PySem.Challenge.rw_zo0012_01.row.prog (d.1.1)) (lawA (d.1.1).params (d.2.1.2.1) (d.2.1.2.2.1) (some []) (d.2.2.1.2.2.2) (d.2.1.2.2.2) (d.2.2.1.1)) (lawEnv (d.1.1).params (d.2.2.1.2.2.2) (d.2.1.2.2.2) (d.2.2.1.1)) (d.2.2.2.2.1.2.2.1)) (htk : 1 ≤ (d.2.2.2.2.1.1)) (mL : (d.2.2.2.1.1) (Str.ofString "leasts") = some (.ref (d.2.2.2.2.1.2.2.2))) (mR : (d.2.2.2.1.1) (Str.ofString "rate") = some (.int (bestR (d.2.2.2.2.2.2.2.1.2.2.1) : Int) (d.2.2.2.2.2.2.2.2.1))) (mW : (d.2.2.2.1.1) (Str.ofString "ways") = some (.ref (d.2.2.2.2.2.1.1))) (mS : (d.2.2.2.1.1) (Str.ofString "start") = some (.int ((3 : Nat) : Int) (d.2.2.2.2.2.2.2.2.2.1))) (cR : (d.2.2.2.1.2.2.1).oR.data = .cell (d.2.2.2.2.2.2.2.2.2.2.2)) (cQ : (d.2.2.2.1.2.2.1).oQ.data = .cell (d.2.2.2.2.2.2.2.2.2.2.1)) (cX : (d.2.2.2.1.2.2.1).oX.data = .cell (some (.ref (d.2.2.2.2.2.1.2.1)))) (cM : (d.2.2.2.1.2.2.1).oM.data = .cell (some (.ref (d.2.2.2.2.2.1.2.2.1)))) (cS : (d.2.2.2.1.2.2.1).oS.data = .cell (some (.ref (d.2.2.2.2.2.1.2.2.2)))) (cF : (d.2.2.2.1.2.2.1).oF.data = .cell (some (.ref (d.2.2.2.2.2.2.1.1)))) (cW : (d.2.2.2.1.2.2.1).oW.data = .cell (some (.ref (d.2.2.2.2.2.2.1.2.1)))) (hL : ((d.2.2.2.2.1.2.2.2), listOf (List.toArray (d.2.2.2.2.2.2.2.1.1)) (d.2.2.2.2.2.2.1.2.2.1)) ∈ (d.2.2.2.1.2.1)) (hlv : ValsF (d.2.2.2.2.2.2.2.1.1) 3 (fun r v => ∃ t, v = .int (lsv (d.2.2.2.2.2.2.2.1.2.2.1) (d.2.2.2.2.2.2.2.1.2.2.2) r) t)) (hW : Ways (d.2.2.2.1.2.1) (d.2.2.2.2.2.1.1) ((d.2.2.2.2.2.2.2.1.2.2.2) 3)) (hX : Texts (d.2.2.2.1.2.1) (d.2.2.2.2.2.1.2.1) (d.2.2.2.2.2.2.2.1.2.2.1)) (hM : Marks (d.2.2.2.1.2.1) (d.2.2.2.2.2.1.2.2.1) (d.2.2.2.2.2.2.2.1.2.2.1)) (hS : ((d.2.2.2.2.2.1.2.2.2), listOf (List.toArray ((d.2.2.2.2.2.2.2.1.2.1).map Value.ref)) (d.2.2.2.2.2.2.1.2.2.2)) ∈ (d.2.2.2.1.2.1)) (hras : (d.2.2.2.2.2.2.2.1.2.1).length = 4) (hst : Stages (d.1.1) (d.2.2.2.2.2.2.2.1.2.2.1) (d.2.2.2.1.2.1) (d.2.2.2.2.2.2.2.1.2.1) (d.2.2.2.2.2.2.2.1.2.2.2)) (hy64 : ∀ i, (d.2.2.2.2.2.2.2.1.2.2.1) i < 64) (hfig : Figs (d.2.2.2.1.2.1) (.ref (d.2.2.2.2.2.2.1.1)) (d.2.2.2.2.2.2.2.1.2.2.1)) (hp : IsPieces (d.2.2.2.1.2.1) (d.2.2.2.2.2.2.1.2.1) (Str.ofString "") (Str.ofString ">") (Str.ofString "&lt;") (Str.ofString "&quot;")) (hk : Kept (d.2.2.2.2.2.2.2.1.2.2.1) (d.2.2.2.2.2.2.2.1.2.2.2) 3) (hR : bestR (d.2.2.2.2.2.2.2.1.2.2.1) ≤ 108) (ret : ∀ h' tk' m' c' T' (st' : Nat), Fr (d.2.2.1.2.2.1) (d.2.2.1.2.2.2) h' m' → News (d.2.2.1.2.2.1) (d.2.2.1.2.2.2) h' (cellLed (d.2.2.1.2.2.2) c' ++ T') → Young (d.2.2.1.2.2.2) T' → (∀ p ∈ (d.2.2.2.1.2.1), p ∈ T') → c'.oM = (d.2.2.2.1.2.2.1).oM →
      m' (Str.ofString "rate") = (d.2.2.2.1.1) (Str.ofString "rate") → (∃ t, m' (Str.ofString "start") = some (.int (st' : Int) t)) → st' < 3 → Crit (mu (d.2.2.2.2.2.2.2.1.2.2.1)) st' → (d.2.2.2.2.1.2.1) .next { (d.2.2.2.1.2.2.2) with heap := h', toks := tk' }), wpP (model PySem.Challenge.rw_zo0012_01.row.prog (d.1.1)) (lawA (d.1.1).params (d.2.1.2.1) (d.2.1.2.2.1) (some []) (d.2.2.1.2.2.2) (d.2.1.2.2.2) (d.2.2.1.1)) (execs (((lawB (d.1.1).params).drop 17).take 1) (lawEnv (d.1.1).params (d.2.2.1.2.2.2) (d.2.1.2.2.2) (d.2.2.1.1))) (d.2.2.2.2.1.2.1) (d.2.2.2.2.1.2.2.1) { (d.2.2.2.1.2.2.2) with heap := h, toks := (d.2.2.2.2.1.1) }
set_option synthInstance.maxSize 100000 in
set_option synthInstance.maxHeartbeats 800000 in
@[irreducible] noncomputable def k_segK : (World × (ExcName → Option Value) × (Str → Option Value) × (Str → Option Value)) × (Around × Nat × Nat × Addr) × (Value × Heap × Heap × Addr) × ((Str → Option Value) × (List (Addr × Obj)) × LawCells × Shared) × (Nat × (Flow → Shared → Prop) × (Value → Shared → Prop) × Addr) × (Addr × Addr × Addr × Addr) × (Addr × Addr × Nat × Nat) × ((List Value) × (List Addr) × (Nat → Nat) × (Nat → Nat → List Nat)) × (Tok × Tok × (Option Value) × (Option Value)) := pick (by haveI := ne_World; haveI := ne_Around; haveI := ne_Shared; haveI := ne_Cells; exact inferInstance) s_segK
theorem segK_c : s_segK k_segK := by
  delta s_segK
  intro h B X TT hd hu F N hy hE htk mL mR mW mS cR cQ cX cM cS cF cW hL hlv hW hX hM hS hras hst hy64 hfig hp hk hR ret
  have hE0 := hE
  have B0 := B
  have F0 := F
  walk_at "m:fill"
  simp only [cellLed, List.cons_append, List.nil_append] at N
  dsimp only [lawS, lawEnv, lawA, lawParts] at hE B
  clear F
  walk_at "m:body"
  refine wpP_mono (wpP_toks_of (n := (k_segK.2.2.2.2.1.1)) (Nat.le_refl _) (wpP_execs_one (Q := fun f s' => (k_segK.2.2.2.2.1.1) ≤ s'.toks → (k_segK.2.2.2.2.1.2.1) f s') (for_wordP F0 ?_ (fun _ => rfl) (by assumption)))) (fun _ _ q => q.2 q.1) fun _ _ e => e.2
  k_steps
  (walk_at "m:hide"; rename_i h1 tk1 u1 u2 u3 hr F1 N1 kp htk1; walk_at "m:bare")
  (try dsimp only at htk1)
  refine iter_rangeP (n := 3) (fun i m' led' => ∃ oR oQ Tk, ∃ st' : Nat, led' = cellLed (k_segK.2.2.1.2.2.2) { (k_segK.2.2.2.1.2.2.1) with oR := oR, oQ := oQ } ++ (Tk ++ (k_segK.2.2.2.1.2.1)) ∧ (∃ v, oR.data = .cell v) ∧ (∃ v, oQ.data = .cell v) ∧ Young (k_segK.2.2.1.2.2.2) Tk ∧ m' (Str.ofString "leasts") = (k_segK.2.2.2.1.1) (Str.ofString "leasts") ∧ m' (Str.ofString "rate") = (k_segK.2.2.2.1.1) (Str.ofString "rate") ∧ m' (Str.ofString "ways") = (k_segK.2.2.2.1.1) (Str.ofString "ways") ∧ (∃ t, m' (Str.ofString "start") = some (.int (st' : Int) t)) ∧
      ((st' = 3 ∧ ∀ q, q < i → lsv (k_segK.2.2.2.2.2.2.2.1.2.2.1) (k_segK.2.2.2.2.2.2.2.1.2.2.2) q ≠ (bestR (k_segK.2.2.2.2.2.2.2.1.2.2.1) : Int)) ∨ (st' < 3 ∧ Crit (mu (k_segK.2.2.2.2.2.2.2.1.2.2.1)) st'))) (by rfl) hr (by decide) (by decide) F1 N1
    ⟨(k_segK.2.2.2.1.2.2.1).oR, (k_segK.2.2.2.1.2.2.1).oQ, [], 3, rfl, ⟨_, cR⟩, ⟨_, cQ⟩, young_nil, rfl, rfl, rfl, ⟨_, mS⟩, .inl ⟨rfl, fun q hq => absurd hq (Nat.not_lt_zero _)⟩⟩ (by intros; exact Expr.noConfusion) (by intros; exact Expr.noConfusion) ?_ ?_
  · intro i ti m₁ led₁ h4 tk4 I oI htk4 hi qz109 F4 N4 off
    refine Mine.by_op fun P9 bk9 => ?_
    obtain ⟨oR, oQ, Tk, st', rfl, ⟨vR', cR'⟩, ⟨vQ', cQ'⟩, hyk, e1, e2, e3, ⟨tS', mS'⟩, hst'⟩ := qz109
    refine bk9 ?_; clear bk9 P9
    rw [Int.zero_add]
    replace N4 : News (k_segK.2.2.1.2.2.1) (k_segK.2.2.1.2.2.2) h4 _ := N4
    replace F4 : Fr (k_segK.2.2.1.2.2.1) (k_segK.2.2.1.2.2.2) h4 _ := F4
    clear F1 N1 kp hr
    (try dsimp only at htk4)
    have off0 := off1_of off
    simp only [cellLed, List.cons_append, List.nil_append] at N4 off0
    refine Mine.by_op fun P9 bk9 => ?_
    obtain ⟨f11, f10, f9, f8, f7, f6, f5, f4, f3, f2, f1, fT⟩ := off0
    refine bk9 ?_; clear bk9 P9
    dsimp only at f11 f10 f9 f8 f7 f6 f5 f4 f3 f2 f1
    have hyT' : Young (k_segK.2.2.1.2.2.2) (Tk ++ (k_segK.2.2.2.1.2.1)) := young_app hyk hy
    k_steps
    (walk_at "m:hide"; rename_i h5 oR' F5 N5 dR; walk_at "m:bare")
    have N6 : News (k_segK.2.2.1.2.2.1) (k_segK.2.2.1.2.2.2) h5 (cellLed (k_segK.2.2.1.2.2.2) { (k_segK.2.2.2.1.2.2.1) with oR := oR', oQ := oQ } ++ ((I, oI) :: (Tk ++ (k_segK.2.2.2.1.2.1)))) := news_sub N5 fun p hp => by
      rcases List.mem_append.mp hp with hp | hp
      · exact .tail _ (List.mem_append_left _ hp)
      · rcases List.mem_cons.mp hp with hp | hp
        · exact hp ▸ .head _
        · exact .tail _ (List.mem_append_right (cellLed (k_segK.2.2.1.2.2.2) { (k_segK.2.2.2.1.2.2.1) with oR := oR', oQ := oQ }) hp)
    have hyI : Young (k_segK.2.2.1.2.2.2) ((I, oI) :: (Tk ++ (k_segK.2.2.2.1.2.1))) := young_off (c := (k_segK.2.2.2.1.2.2.1)) (R := []) ⟨f11, f10, f9, f8, f7, f6, f5, f4, f3, f2, f1, trivial⟩ hyT'
    have hmem : ∀ p ∈ (k_segK.2.2.2.1.2.1), p ∈ (I, oI) :: (Tk ++ (k_segK.2.2.2.1.2.1)) := fun p hp => .tail _ (List.mem_append_right _ hp)
    refine bodyK (k_segK.1.1) (c := { (k_segK.2.2.2.1.2.2.1) with oR := oR', oQ := oQ }) (T := (I, oI) :: (Tk ++ (k_segK.2.2.2.1.2.1))) (r := i) (st := st') (tr := ti) (tS := tS') (tR := (k_segK.2.2.2.2.2.2.2.2.1)) (y := (k_segK.2.2.2.2.2.2.2.1.2.2.1)) (ws := (k_segK.2.2.2.2.2.2.2.1.2.2.2)) (ras := (k_segK.2.2.2.2.2.2.2.1.2.1)) (lv := (k_segK.2.2.2.2.2.2.2.1.1)) B0 X TT hd hu F5 N6 hyI hE0 ?zzhtk hi (e1.trans mL) (e2.trans mR) (e3.trans mW) mS' dR cQ' cX cM cS cF cW
      (hmem _ hL) hlv (ways_mono hW hmem) (texts_mono hX hmem) (marks_mono hM hmem) (hmem _ hS) hras (stages_mono hst hmem) hy64 (figs_mono hfig hmem) (pieces_mono hp hmem) hk hR ?_
    case zzhtk => first | (show 1 ≤ tk4; omega) | (show 1 ≤ tk4 + 1; omega)
    rintro fl h7 tk7 m7 oQ7 add st7 hfl F7 N7 ya aa hcQ7 g1 g2 g3 hS7 hst7
    have fin : Mine.TurnEnd (k_segK.2.2.1.2.2.1) (k_segK.2.2.1.2.2.2) I oI (fun m' led' => ∃ oR oQ Tk, ∃ st' : Nat, led' = cellLed (k_segK.2.2.1.2.2.2) { (k_segK.2.2.2.1.2.2.1) with oR := oR, oQ := oQ } ++ (Tk ++ (k_segK.2.2.2.1.2.1)) ∧ (∃ v, oR.data = .cell v) ∧ (∃ v, oQ.data = .cell v) ∧ Young (k_segK.2.2.1.2.2.2) Tk ∧ m' (Str.ofString "leasts") = (k_segK.2.2.2.1.1) (Str.ofString "leasts") ∧ m' (Str.ofString "rate") = (k_segK.2.2.2.1.1) (Str.ofString "rate") ∧ m' (Str.ofString "ways") = (k_segK.2.2.2.1.1) (Str.ofString "ways") ∧ (∃ t, m' (Str.ofString "start") = some (.int (st' : Int) t)) ∧
        ((st' = 3 ∧ ∀ q, q < i + 1 → lsv (k_segK.2.2.2.2.2.2.2.1.2.2.1) (k_segK.2.2.2.2.2.2.2.1.2.2.2) q ≠ (bestR (k_segK.2.2.2.2.2.2.2.1.2.2.1) : Int)) ∨ (st' < 3 ∧ Crit (mu (k_segK.2.2.2.2.2.2.2.1.2.2.1)) st'))) { (k_segK.2.2.2.1.2.2.2) with heap := h4, toks := tk4 } { (k_segK.2.2.2.1.2.2.2) with heap := h7, toks := tk7 } := by
      refine Mine.TurnEnd.intro (s₁ := { (k_segK.2.2.2.1.2.2.2) with heap := h4, toks := tk4 }) (cellLed (k_segK.2.2.1.2.2.2) { (k_segK.2.2.2.1.2.2.1) with oR := oR', oQ := oQ7 } ++ ((add ++ Tk) ++ (k_segK.2.2.2.1.2.1))) F7 N7 ?_ ?_
        ⟨oR', oQ7, add ++ Tk, st7, rfl, ⟨_, dR⟩, hcQ7, young_app ya hyk, g1.trans e1, g2.trans e2, g3.trans e3, hS7, ?_⟩
      · intro p hp
        revert hp
        simp only [List.mem_append, List.mem_cons]
        rintro (h | h | (h | h) | h) <;> simp [h]
      · have hcell : ∀ p ∈ cellLed (k_segK.2.2.1.2.2.2) { (k_segK.2.2.2.1.2.2.1) with oR := oR', oQ := oQ7 }, p.1 ≠ I := off1_mem (l := cellLed (k_segK.2.2.1.2.2.2) { (k_segK.2.2.2.1.2.2.1) with oR := oR', oQ := oQ7 }) ⟨f11, f10, f9, f8, f7, f6, f5, f4, f3, f2, f1, trivial⟩
        intro p hp
        rcases List.mem_append.mp hp with hp | hp
        · exact hcell p hp
        · rcases List.mem_append.mp hp with hp | hp
          · rcases List.mem_append.mp hp with hp | hp
            · exact Ne.symm (aa p hp _ (.head _))
            · exact off1_mem fT p (List.mem_append_left _ hp)
          · exact off1_mem fT p (List.mem_append_right _ hp)
      · rcases hst7 with ⟨ne, rfl⟩ | h
        · rcases hst' with ⟨e, none⟩ | h
          · refine .inl ⟨e, fun q hq => ?_⟩
            by_cases eq : q = i
            · rw [eq]; exact ne
            · exact none q (by omega)
          · exact .inr h
        · exact .inr h
    rcases hfl with rfl | rfl
    · exact fin
    · exact fin
  · intro h5 tk5 m5 led5 htk5 F5 N5 qz79
    refine Mine.by_op fun P9 bk9 => ?_
    obtain ⟨oR, oQ, Tk, st', rfl, _, _, hyk, e1, e2, e3, hS', hst'⟩ := qz79
    refine bk9 ?_; clear bk9 P9
    intro _
    rcases hst' with ⟨_, none⟩ | ⟨lt, hc⟩
    · exfalso
      have hm := karp_of hk
      have n0 := none 0 (by decide)
      have n1 := none 1 (by decide)
      have n2 := none 2 (by decide)
      omega
    · exact ret h5 tk5 m5 { (k_segK.2.2.2.1.2.2.1) with oR := oR, oQ := oQ } (Tk ++ (k_segK.2.2.2.1.2.1)) st' F5 N5 (young_app hyk hy) (fun p hp => List.mem_append_right _ hp) rfl e2 hS' lt hc
theorem segK (w : World) {mean : ExcName → Option Value} {mg mb : Str → Option Value} {A₀ : Around} {dp un : Nat} {fa : Addr} {cd : Value} {base g : Heap} {L : Addr} {m : Str → Option Value} {T : List (Addr × Obj)} {c : LawCells} {s : Shared} {h : Heap} {tk : Nat} {Q : Flow → Shared → Prop} {E : Value → Shared → Prop}
    (B : Below A₀ base [] g) (X : (Mine.hd.heap_1 w.params).In g) (TT : Top Mine.hd.view_1 (looseW Mine.hd.view_1 []) mean mg mb g) (hd : dp + 40 < recursionLimit) (hu : un + 8 * 40 < cLine)
    (F : Fr g L h m) (N : News g L h (cellLed L c ++ T)) (hy : Young L T)
    (hE : PassesOwn (model PySem.Challenge.rw_zo0012_01.row.prog w) (lawA w.params dp un (some []) L fa cd) (lawEnv w.params L fa cd) E)
    {aL aW aX aM aS aF aP : Addr} {nL nS : Nat} {lv : List Value} {ras : List Addr} {y : Nat → Nat} {ws : Nat → Nat → List Nat} {tR tS : Tok} {vQ vR : Option Value}
    (htk : 1 ≤ tk)
    (mL : m (Str.ofString "leasts") = some (.ref aL)) (mR : m (Str.ofString "rate") = some (.int (bestR y : Int) tR)) (mW : m (Str.ofString "ways") = some (.ref aW)) (mS : m (Str.ofString "start") = some (.int ((3 : Nat) : Int) tS))
    (cR : c.oR.data = .cell vR) (cQ : c.oQ.data = .cell vQ) (cX : c.oX.data = .cell (some (.ref aX))) (cM : c.oM.data = .cell (some (.ref aM))) (cS : c.oS.data = .cell (some (.ref aS))) (cF : c.oF.data = .cell (some (.ref aF))) (cW : c.oW.data = .cell (some (.ref aP)))
    (hL : (aL, listOf (List.toArray lv) nL) ∈ T) (hlv : ValsF lv 3 (fun r v => ∃ t, v = .int (lsv y ws r) t)) (hW : Ways T aW (ws 3)) (hX : Texts T aX y) (hM : Marks T aM y) (hS : (aS, listOf (List.toArray (ras.map Value.ref)) nS) ∈ T) (hras : ras.length = 4) (hst : Stages w y T ras ws)
    (hy64 : ∀ i, y i < 64) (hfig : Figs T (.ref aF) y) (hp : IsPieces T aP (Str.ofString "") (Str.ofString ">") (Str.ofString "&lt;") (Str.ofString "&quot;")) (hk : Kept y ws 3) (hR : bestR y ≤ 108)
    (ret : ∀ h' tk' m' c' T' (st' : Nat), Fr g L h' m' → News g L h' (cellLed L c' ++ T') → Young L T' → (∀ p ∈ T, p ∈ T') → c'.oM = c.oM →
      m' (Str.ofString "rate") = m (Str.ofString "rate") → (∃ t, m' (Str.ofString "start") = some (.int (st' : Int) t)) → st' < 3 → Crit (mu y) st' → Q .next { s with heap := h', toks := tk' }) : wpP (model PySem.Challenge.rw_zo0012_01.row.prog w) (lawA w.params dp un (some []) L fa cd) (execs (((lawB w.params).drop 17).take 1) (lawEnv w.params L fa cd)) Q E { s with heap := h, toks := tk } :=
  pick_all k_segK.eq_1 segK_c ((w, mean, mg, mb), (A₀, dp, un, fa), (cd, base, g, L), (m, T, c, s), (tk, Q, E, aL), (aW, aX, aM, aS), (aF, aP, nL, nS), (lv, ras, y, ws), (tR, tS, vQ, vR)) h B X TT hd hu F N hy hE htk mL mR mW mS cR cQ cX cM cS cF cW hL hlv hW hX hM hS hras hst hy64 hfig hp hk hR ret
end
-- G33
section
theorem six18 {a : Nat} (h : a ≤ 18) : 6 * a ≤ 108 := by omega
theorem three18 {a b : Nat} (h : a ≤ 18) (h' : b ≤ 18) : 3 * (a + b) ≤ 108 := by omega
theorem two18 {a b c : Nat} (h : a ≤ 18) (h' : b ≤ 18) (h'' : c ≤ 18) : 2 * (a + b + c) ≤ 108 := by omega
theorem bestR_le (y : Nat → Nat) : bestR y ≤ 108 :=
  max8_le (six18 mu_le) (six18 mu_le) (six18 mu_le) (three18 mu_le mu_le) (three18 mu_le mu_le) (three18 mu_le mu_le) (two18 mu_le mu_le mu_le) (two18 mu_le mu_le mu_le)
/-- law's whole body gives True -/
theorem lawAll (w : World) {mean : ExcName → Option Value} {mg mb : Str → Option Value} {A₀ : Around} {dp un : Nat} {fa : Addr} {cd : Value} {base g : Heap} {L : Addr} {m : Str → Option Value} {T : List (Addr × Obj)} {c : LawCells} {s : Shared} {h : Heap} {tk : Nat} {Q : Flow → Shared → Prop} {E : Value → Shared → Prop}
    (B : Below A₀ base [] g) (X : (Mine.hd.heap_1 w.params).In g) (TT : Top Mine.hd.view_1 (looseW Mine.hd.view_1 []) mean mg mb g) (hd : dp + 40 < recursionLimit) (hu : un + 8 * 40 < cLine)
    (F : Fr g L h m) (N : News g L h (cellLed L c ++ T)) (hy : Young L T)
    (hE : PassesOwn (model PySem.Challenge.rw_zo0012_01.row.prog w) (lawA w.params dp un (some []) L fa cd) (lawEnv w.params L fa cd) E)
    {sl : Addr} {xs : List Int} (hm : m (Str.ofString "script") = some (.ref sl)) (hS : Scr g sl xs) {vF vP vW vV vX vM vD vR vS vG vQ : Option Value}
    (cF : c.oF.data = .cell vF) (cP : c.oP.data = .cell vP) (cW : c.oW.data = .cell vW) (cV : c.oV.data = .cell vV) (cX : c.oX.data = .cell vX) (cM : c.oM.data = .cell vM) (cD : c.oD.data = .cell vD) (cR : c.oR.data = .cell vR) (cS : c.oS.data = .cell vS) (cG : c.oG.data = .cell vG) (cQ : c.oQ.data = .cell vQ)
    (ret : ∀ h' tk' m' c' T', Fr g L h' m' → News g L h' (cellLed L c' ++ T') → Q (.ret (.bool true)) { s with heap := h', toks := tk' }) :
    wpP (model PySem.Challenge.rw_zo0012_01.row.prog w) (lawA w.params dp un (some []) L fa cd) (execs (lawB w.params) (lawEnv w.params L fa cd)) Q E { s with heap := h, toks := tk } := by
  refine wpP_execs_first 4 (wpP_of ?_)
  refine segA w (c := c) (T := T) B X TT hd hu F N hy hm hS cF cP cW cV ?_
  intro h1 tk1 oF oP oW oV T1 aF aP aW aV y F1 N1 y1 s1 dF dP dW dV hy64 hfig hpP hpW hwV
  dsimp only
  refine wpP_execs_from 4 1 5 rfl (wpP_of ?_)
  refine segB w (c := { c with oF := oF, oP := oP, oW := oW, oV := oV }) (T := T1) B X TT hd hu F1 N1 y1 dF dP cX hy64 hfig hpP ?_
  intro h2 tk2 oX T2 aX F2 N2 y2 s2 dX hX
  dsimp only
  refine wpP_execs_from 5 1 6 rfl (wpP_of ?_)
  refine segC w (c := { c with oF := oF, oP := oP, oW := oW, oV := oV, oX := oX }) (T := T2) B X TT hd hu F2 N2 y2 dF dV cM hy64 (figs_mono hfig s2) (by obtain ⟨t0, t1, t2, t3, n, e⟩ := hwV; exact ⟨t0, t1, t2, t3, n, s2 _ e⟩) ?_
  intro h3 tk3 oM T3 aM F3 N3 y3 s3 dM hM
  dsimp only
  refine wpP_execs_from 6 2 8 rfl (wpP_of ?_)
  refine segD w (c := { c with oF := oF, oP := oP, oW := oW, oV := oV, oX := oX, oM := oM }) (T := T3) B X TT hd hu F3 N3 y3 hE dX cD hy64 (texts_mono hX s3) ?_
  intro h4 tk4 oD T4 aD m4 F4 N4 y4 s4 dD hD
  dsimp only
  refine wpP_execs_from 8 1 9 rfl (wpP_of ?_)
  refine segE1 w (c := { c with oF := oF, oP := oP, oW := oW, oV := oV, oX := oX, oM := oM, oD := oD }) (T := T4) B X TT hd hu F4 N4 y4 ?_
  intro h5 tk5 T5 x m5 F5 N5 y5 s5 mO hO
  dsimp only
  refine wpP_execs_from 9 1 10 rfl (wpP_of ?_)
  refine segE2 w (c := { c with oF := oF, oP := oP, oW := oW, oV := oV, oX := oX, oM := oM, oD := oD }) (T := T5) B X TT hd hu F5 N5 y5 cS ?_
  intro h6 tk6 oS T6 aS a0 F6 N6 y6 s6 oaS hLS dS hst0
  dsimp only
  refine wpP_execs_from 10 1 11 rfl (wpP_of ?_)
  refine segE3 w (c := { c with oF := oF, oP := oP, oW := oW, oV := oV, oX := oX, oM := oM, oD := oD, oS := oS }) (T := (aS, listOf (List.toArray [.ref a0]) 0) :: T6) B X TT hd hu F6 N6 (young_cons hLS y6) ?_
  intro h7 tk7 aY oY F7 N7 y7 nY hY
  have sY : ∀ p ∈ T6, p ∈ (aY, oY) :: T6 := fun p hp => .tail _ hp
  have yY : Young L ((aY, oY) :: T6) := fun p hp => by
    rcases List.mem_cons.mp hp with hp | hp
    · exact hp ▸ y7 _ (.head _)
    · exact y6 p hp
  dsimp only
  refine wpP_execs_from 11 1 12 rfl (wpP_of ?_)
  refine segF8 w (c := { c with oF := oF, oP := oP, oW := oW, oV := oV, oX := oX, oM := oM, oD := oD, oS := oS }) (T := (aS, listOf (List.toArray [.ref a0]) 0) :: (aY, oY) :: T6) (T0 := (aY, oY) :: T6) (y := y) B X TT hd hu F7 (news_sub N7 ?zzsub) (young_cons hLS yY) hE dS cG dD cR ((if_neg (by decide +kernel)).trans mO) (if_pos rfl) rfl hLS ⟨Ne.symm (nY _ (.head _)), oaS⟩
    (order_mono hO fun p hp => sY p (s6 p hp)) (stageAt_mono hst0 sY) (doors_mono hD fun p hp => sY p (s6 p (s5 p hp))) ?zzhWy ?_
  case zzsub =>
    intro p hp
    revert hp
    simp only [List.mem_append, List.mem_cons]
    rintro (h | h | h | h) <;> simp [h]
  case zzhWy =>
    refine Mine.by_op fun P9 bk9 => ?_
    obtain ⟨vs, n, e1, e2⟩ := hY
    refine bk9 ?_; clear bk9 P9
    refine ⟨vs, n, ?_, e2⟩
    rcases List.mem_cons.mp e1 with e | e
    · exact e ▸ .head _
    · exact absurd rfl (nY _ e)
  intro h8 tk8 m8 oR oG T8 aW8 ws ras F8 N8 y8 s8 ⟨vR8, dR⟩ ⟨vG8, dG⟩ mW8 hSm hras hst hW8 hk
  have s38 : ∀ p ∈ T3, p ∈ T8 := fun p hp => s8 p (sY p (s6 p (s5 p (s4 p hp))))
  have s18 : ∀ p ∈ T1, p ∈ T8 := fun p hp => s38 p (s3 p (s2 p hp))
  dsimp only
  refine wpP_execs_from 12 2 14 rfl (wpP_of ?_)
  refine segG w (c := { c with oF := oF, oP := oP, oW := oW, oV := oV, oX := oX, oM := oM, oD := oD, oS := oS, oR := oR, oG := oG }) (T := T8) (y := y) (ws := ws) B X TT hd hu F8 N8 y8 hE dS dR hSm hras hst hk ?_
  intro h9 tk9 m9 oR9 T9 aL nL lv F9 N9 y9 s9 ⟨vR9, dR9⟩ hm9 mL9 hL9 hlv
  have s39 : ∀ p ∈ T3, p ∈ T9 := fun p hp => s9 p (s38 p hp)
  have s19 : ∀ p ∈ T1, p ∈ T9 := fun p hp => s9 p (s18 p hp)
  dsimp only
  refine wpP_execs_from 14 3 17 rfl (wpP_of ?_)
  refine segH w (c := { c with oF := oF, oP := oP, oW := oW, oV := oV, oX := oX, oM := oM, oD := oD, oS := oS, oR := oR9, oG := oG }) (T := T9) (y := y) (ws := ws) B X TT hd hu F9 N9 y9 mL9 dM hL9 hlv (marks_mono hM s39) hk (karp_of hk) ?_
  intro h10 tk10 m10 tR tS htk10 F10 N10 hm10 mR10 mS10
  dsimp only
  refine wpP_execs_from 17 1 18 rfl ?_
  refine segK w (c := { c with oF := oF, oP := oP, oW := oW, oV := oV, oX := oX, oM := oM, oD := oD, oS := oS, oR := oR9, oG := oG }) (T := T9) (y := y) (ws := ws) B X TT hd hu F10 N10 y9 hE htk10 ((hm10 _ (by decide +kernel) (by decide +kernel)).trans mL9) mR10 ((hm10 _ (by decide +kernel) (by decide +kernel)).trans ((hm9 _ (by decide +kernel)).trans mW8)) mS10 dR9 cQ dX dM dS dF dW
    hL9 hlv (ways_mono hW8 s9) (texts_mono hX fun p hp => s39 p (s3 p hp)) (marks_mono hM s39) (s9 _ hSm) hras (stages_mono hst s9) hy64 (figs_mono hfig s19) (pieces_mono hpW s19) hk (bestR_le y) ?_
  intro h11 tk11 m11 c11 T11 st F11 N11 y11 s11 eM mR11 ⟨tS11, mS11⟩ lt hc
  dsimp only
  refine wpP_of ?_
  refine segJ w (c := c11) (T := T11) (y := y) (st := st) (R := bestR y) B X TT hd hu F11 N11 y11 mS11 (mR11.trans mR10) lt (bestR_le y) (by rw [eM]; exact dM) (marks_mono hM fun p hp => s11 p (s39 p hp)) (prices_hold lt hc) ?_
  intro h12 tk12 F12 N12
  exact ret h12 tk12 m11 c11 T11 F12 N12
end
-- H1
section
theorem good_true {c : ClaimW} {cl : Str → Option Addr} {mean : ExcName → Option Value} {args : List WData} {s₁ : Shared} {h' : Heap} {tk : Nat} (hr : ∀ cls, c.raises args cls = false) (hp : c.post args (.bool true) args = true)
    (hg : s₁.gens = #[]) (hk : ∀ b o, s₁.heap.get? b = some o → h'.get? b = some o) : GoodWG c cl mean args s₁ (.ok (.ret (.bool true))) { s₁ with heap := h', toks := tk } :=
  ⟨.inl ⟨_, _, [], rfl, hr, ReadsW.bool true, hp, fun _ => ⟨List.nodup_nil, fun _ hm => (nomatch hm)⟩⟩, .of_keep hk, rfl, .of_eq hg⟩
theorem cells_cons {cm : Str → Option Value} {n : Str} {a : Addr} {l : List (Str × Addr)} {cells : List (Addr × Obj)} (x : CellsAre cm ((n, a) :: l) cells) : ∃ o c', cells = (a, o) :: c' ∧ o.data = .cell (cm n) ∧ CellsAre cm l c' := by
  cases x with | cons h t => exact ⟨_, _, rfl, h, t⟩
theorem cells11 {cm : Str → Option Value} {L : Addr} {n1 n2 n3 n4 n5 n6 n7 n8 n9 n10 n11 : Str} {cells : List (Addr × Obj)} (x : CellsAre cm [(n11, (L + 1 + 1 + 1 + 1 + 1 + 1 + 1 + 1 + 1 + 1 + 1)), (n10, (L + 1 + 1 + 1 + 1 + 1 + 1 + 1 + 1 + 1 + 1)), (n9, (L + 1 + 1 + 1 + 1 + 1 + 1 + 1 + 1 + 1)), (n8, (L + 1 + 1 + 1 + 1 + 1 + 1 + 1 + 1)), (n7, (L + 1 + 1 + 1 + 1 + 1 + 1 + 1)), (n6, (L + 1 + 1 + 1 + 1 + 1 + 1)), (n5, (L + 1 + 1 + 1 + 1 + 1)), (n4, (L + 1 + 1 + 1 + 1)), (n3, (L + 1 + 1 + 1)), (n2, (L + 1 + 1)), (n1, (L + 1))] cells) :
    ∃ c : LawCells, cells = cellLed L c ∧ c.oF.data = .cell (cm n1) ∧ c.oP.data = .cell (cm n2) ∧ c.oW.data = .cell (cm n3) ∧ c.oV.data = .cell (cm n4) ∧ c.oX.data = .cell (cm n5) ∧ c.oM.data = .cell (cm n6) ∧ c.oD.data = .cell (cm n7) ∧ c.oR.data = .cell (cm n8) ∧ c.oS.data = .cell (cm n9) ∧ c.oG.data = .cell (cm n10) ∧ c.oQ.data = .cell (cm n11) := by
  refine by_op fun P9 bk9 => ?_
  obtain ⟨o11, c11, rfl, h11, x⟩ := cells_cons x
  obtain ⟨o10, c10, rfl, h10, x⟩ := cells_cons x
  obtain ⟨o9, c9, rfl, h9, x⟩ := cells_cons x
  obtain ⟨o8, o7, o6, o5, o4, o3, o2, o1, rfl, h8, h7, h6, h5, h4, h3, h2, h1⟩ := kc_eight x
  refine bk9 ?_; clear bk9 P9
  exact ⟨⟨o1, o2, o3, o4, o5, o6, o7, o8, _, _, _⟩, rfl, h1, h2, h3, h4, h5, h6, h7, h8, h9, h10, h11⟩
theorem lawHolds : PySem.Challenge.rw_zo0012_01.Holds := by
  refine holds_law Mine.wellSaid fun said => Mine.hd ⟨said, ?_⟩
  w_on
  k_fill
  intro w s₀ s₁ mg mb G Y fa o pm cd doc dV kV ho hd hcd hD hmg hg args vals as hpre hlay hrd hwl hlo
  have KX := kIn_of Y
  have T := G.T
  clear G Y
  have he := Dflts.none hD rfl
  subst he
  have he := Dflts.noKw hD
  subst he
  clear hD
  wrow_args hpre hlay hrd hwl hlo
  rename_i xs _ _ _ _ _ _ _ sl vals' _ hL _ _ _ hI _ hlen _
  have hS : Scr s₁.heap sl xs := ⟨by omega, vals', hL, hI⟩
  have fin : ∀ h' tk, (∀ b o, s₁.heap.get? b = some o → h'.get? b = some o) → GoodWG (PySem.Challenge.rw_zo0012_01.row.toRowW).claim (classAt s₀.heap) (ExcName.means s₀.heap) [ofPy (PyData.list (List.map PyData.int xs))] s₁ (.ok (.ret (.bool true))) { s₁ with heap := h', toks := tk } :=
    fun h' tk hk => good_true (fun _ => rfl) (by wrow_post) hg hk
  refine ⟨fin s₁.heap s₁.toks fun _ _ e => e, enter_callP ?_⟩
  refine call_cellsP (by decide) ho (fd_plain hd) T.nolimit hcd (BindsTo.of_eq rfl) rfl (by decide +kernel) ?_ rfl rfl rfl
  intro h₁ tk₁ cells F N X
  clear hd
  refine Mine.by_op fun P9 bk9 => ?_
  obtain ⟨c, rfl, cF, cP, cW, cV, cX, cM, cD, cR, cS, cG, cQ⟩ := cells11 X
  refine bk9 ?_; clear bk9 P9
  clear X
  refine wpP_mono (Q := fun f s' => f = .ret (.bool true) ∧ ∃ h' tk, s' = { s₁ with heap := h', toks := tk } ∧ ∀ b o, s₁.heap.get? b = some o → h'.get? b = some o) (E := fun _ _ => False) ?_ (fun f s' hq => ?_) (fun _ _ q => q.elim)
  · show wpP (model PySem.Challenge.rw_zo0012_01.row.prog w) (lawA w.params (callerA.depth + 1) (callerA.units + 3) (some []) s₁.heap.objs.size fa cd) (execs (lawB w.params) (lawEnv w.params s₁.heap.objs.size fa cd)) _ _ _
    refine lawAll w (c := c) (T := []) (xs := xs) (sl := sl) (below_caller s₁.heap) KX T (by decide) (by decide) F (by rw [List.append_nil]; exact N) (fun p hp => nomatch hp) PassesOwn.never rfl hS cF cP cW cV cX cM cD cR cS cG cQ ?_
    intro h' tk' m' c' T' F' N'
    exact ⟨rfl, h', tk', rfl, F'.keep⟩
  · refine Mine.by_op fun P9 bk9 => ?_
    obtain ⟨rfl, h', tk, rfl, hk⟩ := hq
    refine bk9 ?_; clear bk9 P9
    exact fin h' tk hk
end
end
end
end Mine
end
set_option maxRecDepth 100000 in
set_option maxHeartbeats 8000000 in
theorem PySem.Challenge.cw_zo0012_01_holds : PySem.Challenge.rw_zo0012_01.Holds := by
  exact Mine.lawHolds
