import PyProof.Rows.All
import Wide.All
import OpenK.AllK
import Wide.FinOn
import PyProof.ToksMono
import PySem.Challenge.RW_sn0006_01
set_option Elab.async false
set_option compiler.extract_closed false
open PySem PySem.W PyProof.Rows
set_option maxRecDepth 100000
set_option maxHeartbeats 8000000
namespace Mine
open_top hd for PySem.Challenge.rw_sn0006_01
end Mine

open PySem PySem.W PyProof.Rows PySem.Spec PySem.Calls
set_option maxRecDepth 100000
set_option maxHeartbeats 8000000
namespace Mine
def fgt (a b : UInt64) : Bool := Float64.cmp a b == some Ordering.gt
def flt (a b : UInt64) : Bool := Float64.cmp a b == some Ordering.lt
def feq (a b : UInt64) : Bool := Float64.cmp a b == some Ordering.eq
def max2F (a b : UInt64) : UInt64 := if fgt b a then b else a
def min2F (a b : UInt64) : UInt64 := if flt b a then b else a
def max3F (a b c : UInt64) : UInt64 := max2F (max2F a b) c
def min3F (a b c : UInt64) : UInt64 := min2F (min2F a b) c

theorem cmp_fgt {prog : Program} {w : World} {A : Around} {P : Nat → Value → Prop} (val : Nat → UInt64) (hval : ∀ i v, P i v → ∃ t, v = .float (val i) t) :
    CmpOf prog w A .Gt P (fun i j => fgt (val i) (val j)) := fun i j vi vj s Q E hi hj h => by
  obtain ⟨t, rfl⟩ := hval i vi hi
  obtain ⟨u, rfl⟩ := hval j vj hj
  exact AutoFloatOps.gt_0 h
theorem cmp_flt {prog : Program} {w : World} {A : Around} {P : Nat → Value → Prop} (val : Nat → UInt64) (hval : ∀ i v, P i v → ∃ t, v = .float (val i) t) :
    CmpOf prog w A .Lt P (fun i j => flt (val i) (val j)) := fun i j vi vj s Q E hi hj h => by
  obtain ⟨t, rfl⟩ := hval i vi hi
  obtain ⟨u, rfl⟩ := hval j vj hj
  exact AutoFloatOps.lt_0 h
theorem args_max3 (a b c : Value) : argsOk "max" ⟨[a, b, c], []⟩ := by unfold argsOk; kernel_rfl
theorem args_min3 (a b c : Value) : argsOk "min" ⟨[a, b, c], []⟩ := by unfold argsOk; kernel_rfl
section
variable {prog : Program} {w : World} {A : Around} {E : Value → Shared → Prop} {s : Shared}

theorem call_max_n {xs : List Value} {Q : Value → Shared → Prop} (hx : 2 ≤ xs.length) (hsz : xs.length ≤ sizeLine) (hargs : argsOk "max" ⟨xs, []⟩)
    (h : wpAny (model prog w) A.in1 (pyIter (.ref s.heap.objs.size)) (fun it s₂ => ∃ I fp wr n P St bt, it = .ref I ∧ Walks prog w A.in1 I fp wr n P St ∧ St 0 s₂.heap ∧ (∀ b ∈ fp, b < s₂.heap.objs.size) ∧ 0 < n ∧ CmpOf prog w A.in1 .Gt P bt ∧
      ∀ v h' tk, P (argBest bt (n - 1)) v → (∀ b o, b ∉ wr → s₂.heap.get? b = some o → h'.get? b = some o) → Q v { s₂ with heap := h', toks := tk }) E
      { s with heap := s.heap.push { cls := .type "tuple", data := .seq xs.toArray } }) :
    wpAny (model prog w) A (call (.builtin "max") xs) Q E s := by
  have hname : (toString "max" ++ toString ".loop" : String) = "max.loop" := by decide
  obtain ⟨x1, x2, xr, rfl⟩ : ∃ x1 x2 xr, xs = x1 :: x2 :: xr := by
    match xs, hx with
    | x1 :: x2 :: xr, _ => exact ⟨x1, x2, xr, rfl⟩
  refine call_function_tree F.kind_max F.plain_max F.entry_max hargs ?_
  show wpAny _ A.in1 (Builtin.Builtins.bindParams "max" ["key", "default"] 0 ⟨[], []⟩ >>= _) _ _ s
  refine wpAny_bind (wpAny_of_eq (show Builtin.Builtins.bindParams "max" ["key", "default"] 0 ⟨[], []⟩ = pure [none, none] from rfl) ?_)
  show wpAny _ A.in1 (newTuple (x1 :: x2 :: xr) >>= _) _ _ s
  refine wpAny_bind (wpAny_newObj_type ?_ (by show (x1 :: x2 :: xr).toArray.size ≤ sizeLine; rw [List.size_toArray]; exact hsz))
  refine wpAny_bind (wpAny_mono h (fun it s₂ h₂ => ?_) fun _ _ e => e)
  obtain ⟨I, fp, wr, n, P, St, bt, rfl, W, hst, hfp, hn, hcmp, hQ⟩ := h₂
  refine wpAny_bind (wpAny_newObj_type ?_)
  have hSf : s₂.heap.objs.size ∉ fp := fun hm => Nat.lt_irrefl _ (hfp _ hm)
  rw [hname]
  refine wpAny_pure ⟨plainId_quiet F.plain_max_loop _, codeAny_max_loop_first W bt hcmp s₂.heap.objs.size hSf hn (W.frame _ _ _ hst fun b _ o e => Heap.get?_push_of_some _ e) (Heap.get?_push_size _ rfl) fun v h' tk hP hk => ?_⟩
  exact hQ v h' tk hP fun b o hbw e => hk b o hbw (Nat.ne_of_lt (Heap.lt_size e)) (Heap.get?_push_of_some _ e)

theorem call_min_n {xs : List Value} {Q : Value → Shared → Prop} (hx : 2 ≤ xs.length) (hsz : xs.length ≤ sizeLine) (hargs : argsOk "min" ⟨xs, []⟩)
    (h : wpAny (model prog w) A.in1 (pyIter (.ref s.heap.objs.size)) (fun it s₂ => ∃ I fp wr n P St bt, it = .ref I ∧ Walks prog w A.in1 I fp wr n P St ∧ St 0 s₂.heap ∧ (∀ b ∈ fp, b < s₂.heap.objs.size) ∧ 0 < n ∧ CmpOf prog w A.in1 .Lt P bt ∧
      ∀ v h' tk, P (argBest bt (n - 1)) v → (∀ b o, b ∉ wr → s₂.heap.get? b = some o → h'.get? b = some o) → Q v { s₂ with heap := h', toks := tk }) E
      { s with heap := s.heap.push { cls := .type "tuple", data := .seq xs.toArray } }) :
    wpAny (model prog w) A (call (.builtin "min") xs) Q E s := by
  have hname : (toString "min" ++ toString ".loop" : String) = "min.loop" := by decide
  obtain ⟨x1, x2, xr, rfl⟩ : ∃ x1 x2 xr, xs = x1 :: x2 :: xr := by
    match xs, hx with
    | x1 :: x2 :: xr, _ => exact ⟨x1, x2, xr, rfl⟩
  refine call_function_tree F.kind_min F.plain_min F.entry_min hargs ?_
  show wpAny _ A.in1 (Builtin.Builtins.bindParams "min" ["key", "default"] 0 ⟨[], []⟩ >>= _) _ _ s
  refine wpAny_bind (wpAny_of_eq (show Builtin.Builtins.bindParams "min" ["key", "default"] 0 ⟨[], []⟩ = pure [none, none] from rfl) ?_)
  show wpAny _ A.in1 (newTuple (x1 :: x2 :: xr) >>= _) _ _ s
  refine wpAny_bind (wpAny_newObj_type ?_ (by show (x1 :: x2 :: xr).toArray.size ≤ sizeLine; rw [List.size_toArray]; exact hsz))
  refine wpAny_bind (wpAny_mono h (fun it s₂ h₂ => ?_) fun _ _ e => e)
  obtain ⟨I, fp, wr, n, P, St, bt, rfl, W, hst, hfp, hn, hcmp, hQ⟩ := h₂
  refine wpAny_bind (wpAny_newObj_type ?_)
  have hSf : s₂.heap.objs.size ∉ fp := fun hm => Nat.lt_irrefl _ (hfp _ hm)
  rw [hname]
  refine wpAny_pure ⟨plainId_quiet F.plain_min_loop _, codeAny_min_loop_first W bt hcmp s₂.heap.objs.size hSf hn (W.frame _ _ _ hst fun b _ o e => Heap.get?_push_of_some _ e) (Heap.get?_push_size _ rfl) fun v h' tk hP hk => ?_⟩
  exact hQ v h' tk hP fun b o hbw e => hk b o hbw (Nat.ne_of_lt (Heap.lt_size e)) (Heap.get?_push_of_some _ e)

theorem iter_tup_n {xs : List Value} {Q : Value → Shared → Prop}
    (h : ∀ s₂ : Shared, (∃ h2, s₂ = { s with heap := h2 } ∧ h2.objs.size = s.heap.objs.size + 2 ∧ (∀ c o, s.heap.get? c = some o → h2.get? c = some o)) → 
      (s₂.heap.IsTupleIter (s.heap.objs.size + 1) s.heap.objs.size 0 ∧ s₂.heap.IsTuple s.heap.objs.size xs.toArray) →
      Q (.ref (s.heap.objs.size + 1)) s₂) :
    wpAny (model prog w) A (pyIter (.ref s.heap.objs.size)) Q E { s with heap := s.heap.push { cls := .type "tuple", data := .seq xs.toArray } } := by
  have hT : (s.heap.push { cls := .type "tuple", data := .seq xs.toArray }).IsTuple s.heap.objs.size xs.toArray := ⟨_, Heap.get?_push_size _ rfl, rfl, 0, rfl⟩
  have hsz : (s.heap.push { cls := .type "tuple", data := .seq xs.toArray }).objs.size = s.heap.objs.size + 1 := Heap.size_push ..
  refine wpAny_pyIter_tuple hT ?_
  have hg := Heap.get?_push_size (h := s.heap.push { cls := .type "tuple", data := .seq xs.toArray }) (o := { cls := .type "tuple_iterator", data := .fields #[.ref s.heap.objs.size, .int 0 0] }) rfl
  rw [hsz] at hg
  have := h { s with heap := (s.heap.push { cls := .type "tuple", data := .seq xs.toArray }).push { cls := .type "tuple_iterator", data := .fields #[.ref s.heap.objs.size, .int 0 0] } } ⟨_, rfl, by rw [Heap.size_push, hsz], fun c o e => Heap.get?_push_of_some _ (Heap.get?_push_of_some _ e)⟩ ⟨⟨_, hg, rfl, rfl⟩, hT.push _⟩
  simpa [hsz] using this

theorem two_lt {h2 h1 : Heap} {d : Addr} (hsz : h2.objs.size = h1.objs.size + 2) (hd : d ∈ [h1.objs.size + 1, h1.objs.size]) : d < h2.objs.size := by
  rw [hsz]
  rcases List.mem_cons.mp hd with e | hd
  · rw [e]; exact Nat.lt_succ_self _
  · rw [List.mem_singleton.mp hd]; exact Nat.lt_succ_of_lt (Nat.lt_succ_self _)
theorem two_old {h1 h2 h' : Heap} (hk2 : ∀ c o, h1.get? c = some o → h2.get? c = some o) (hk : ∀ b o, b ∉ [h1.objs.size + 1] → h2.get? b = some o → h'.get? b = some o) (c : Addr) (o : Obj) (e : h1.get? c = some o) : h'.get? c = some o := by
  refine hk c o (fun hm => ?_) (hk2 c o e)
  have := Heap.lt_size e
  rw [List.mem_singleton.mp hm] at this
  exact Nat.lt_irrefl _ (Nat.lt_of_succ_lt this)
theorem argBest_t (bt : Nat → Nat → Bool) (k : Nat) (h : bt (k + 1) (argBest bt k) = true) : argBest bt (k + 1) = k + 1 := by simp [argBest, h]
theorem argBest_f (bt : Nat → Nat → Bool) (k : Nat) (h : bt (k + 1) (argBest bt k) = false) : argBest bt (k + 1) = argBest bt k := by simp [argBest, h]
theorem max3_floats {a b c : UInt64} {t1 t2 t3 : Tok} {Q : Value → Shared → Prop} (hh : A.handled = none)
    (h : ∀ h' tk t', (∀ c o, s.heap.get? c = some o → h'.get? c = some o) → Q (.float (max3F a b c) t') { s with heap := h', toks := tk }) :
    wpAny (model prog w) A (call (.builtin "max") [.float a t1, .float b t2, .float c t3]) Q E s := by
  refine call_max_n (Nat.le_succ 2) (by rw [sizeLine_eq]; exact (by decide : 3 ≤ 16777216)) (args_max3 _ _ _) (iter_tup_n fun s₂ hs hT => ?_)
  obtain ⟨h2, rfl, hsz, hk2⟩ := hs
  refine ⟨_, _, _, _, _, _, _, rfl, Walks.tuple (A := A.in1) hh _ s.heap.objs.size (Nat.ne_of_lt (Nat.lt_succ_self _)) _, hT, fun d hd => ?_, Nat.zero_lt_succ 2,
    cmp_fgt (fun i => [a, b, c].getD i 0) (fun i v hi => ?_), fun v h' tk hP hk => ?_⟩
  · exact two_lt hsz hd
  · match i with
    | 0 => exact ⟨t1, by simpa using hi.symm⟩
    | 1 => exact ⟨t2, by simpa using hi.symm⟩
    | 2 => exact ⟨t3, by simpa using hi.symm⟩
    | n + 3 => simp at hi
  · have hv : ∃ t', v = .float (max3F a b c) t' := by
      have hP2 : #[Value.float a t1, Value.float b t2, Value.float c t3][argBest (fun i j => fgt ([a, b, c].getD i 0) ([a, b, c].getD j 0)) 2]? = some v := hP
      unfold max3F max2F
      cases c1 : fgt b a with
      | true =>
        have e1 : argBest (fun i j => fgt ([a, b, c].getD i 0) ([a, b, c].getD j 0)) 1 = 1 := argBest_t _ _ c1
        simp only [if_true]
        cases c2 : fgt c b with
        | true =>
          rw [argBest_t _ 1 (by rw [e1]; exact c2)] at hP2
          exact ⟨t3, by simpa using hP2.symm⟩
        | false =>
          rw [argBest_f _ 1 (by rw [e1]; exact c2), e1] at hP2
          exact ⟨t2, by simpa using hP2.symm⟩
      | false =>
        have e1 : argBest (fun i j => fgt ([a, b, c].getD i 0) ([a, b, c].getD j 0)) 1 = 0 := argBest_f _ _ c1
        simp only [Bool.false_eq_true, if_false]
        cases c2 : fgt c a with
        | true =>
          rw [argBest_t _ 1 (by rw [e1]; exact c2)] at hP2
          exact ⟨t3, by simpa using hP2.symm⟩
        | false =>
          rw [argBest_f _ 1 (by rw [e1]; exact c2), e1] at hP2
          exact ⟨t1, by simpa using hP2.symm⟩
    obtain ⟨t', rfl⟩ := hv
    exact h h' tk t' (two_old hk2 hk)

theorem min3_floats {a b c : UInt64} {t1 t2 t3 : Tok} {Q : Value → Shared → Prop} (hh : A.handled = none)
    (h : ∀ h' tk t', (∀ c o, s.heap.get? c = some o → h'.get? c = some o) → Q (.float (min3F a b c) t') { s with heap := h', toks := tk }) :
    wpAny (model prog w) A (call (.builtin "min") [.float a t1, .float b t2, .float c t3]) Q E s := by
  refine call_min_n (Nat.le_succ 2) (by rw [sizeLine_eq]; exact (by decide : 3 ≤ 16777216)) (args_min3 _ _ _) (iter_tup_n fun s₂ hs hT => ?_)
  obtain ⟨h2, rfl, hsz, hk2⟩ := hs
  refine ⟨_, _, _, _, _, _, _, rfl, Walks.tuple (A := A.in1) hh _ s.heap.objs.size (Nat.ne_of_lt (Nat.lt_succ_self _)) _, hT, fun d hd => ?_, Nat.zero_lt_succ 2,
    cmp_flt (fun i => [a, b, c].getD i 0) (fun i v hi => ?_), fun v h' tk hP hk => ?_⟩
  · exact two_lt hsz hd
  · match i with
    | 0 => exact ⟨t1, by simpa using hi.symm⟩
    | 1 => exact ⟨t2, by simpa using hi.symm⟩
    | 2 => exact ⟨t3, by simpa using hi.symm⟩
    | n + 3 => simp at hi
  · have hv : ∃ t', v = .float (min3F a b c) t' := by
      have hP2 : #[Value.float a t1, Value.float b t2, Value.float c t3][argBest (fun i j => flt ([a, b, c].getD i 0) ([a, b, c].getD j 0)) 2]? = some v := hP
      unfold min3F min2F
      cases c1 : flt b a with
      | true =>
        have e1 : argBest (fun i j => flt ([a, b, c].getD i 0) ([a, b, c].getD j 0)) 1 = 1 := argBest_t _ _ c1
        simp only [if_true]
        cases c2 : flt c b with
        | true =>
          rw [argBest_t _ 1 (by rw [e1]; exact c2)] at hP2
          exact ⟨t3, by simpa using hP2.symm⟩
        | false =>
          rw [argBest_f _ 1 (by rw [e1]; exact c2), e1] at hP2
          exact ⟨t2, by simpa using hP2.symm⟩
      | false =>
        have e1 : argBest (fun i j => flt ([a, b, c].getD i 0) ([a, b, c].getD j 0)) 1 = 0 := argBest_f _ _ c1
        simp only [Bool.false_eq_true, if_false]
        cases c2 : flt c a with
        | true =>
          rw [argBest_t _ 1 (by rw [e1]; exact c2)] at hP2
          exact ⟨t3, by simpa using hP2.symm⟩
        | false =>
          rw [argBest_f _ 1 (by rw [e1]; exact c2), e1] at hP2
          exact ⟨t1, by simpa using hP2.symm⟩
    obtain ⟨t', rfl⟩ := hv
    exact h h' tk t' (two_old hk2 hk)

theorem max2_floats {a b : UInt64} {t1 t2 : Tok} {Q : Value → Shared → Prop} (hh : A.handled = none)
    (h : ∀ h' tk t', (∀ c o, s.heap.get? c = some o → h'.get? c = some o) → Q (.float (max2F a b) t') { s with heap := h', toks := tk }) :
    wpAny (model prog w) A (call (.builtin "max") [.float a t1, .float b t2]) Q E s := by
  refine call_max_n (Nat.le_refl 2) (by rw [sizeLine_eq]; exact (by decide : 2 ≤ 16777216)) (PySem.F.args_max2 _ _) (iter_tup_n fun s₂ hs hT => ?_)
  obtain ⟨h2, rfl, hsz, hk2⟩ := hs
  refine ⟨_, _, _, _, _, _, _, rfl, Walks.tuple (A := A.in1) hh _ s.heap.objs.size (Nat.ne_of_lt (Nat.lt_succ_self _)) _, hT, fun d hd => ?_, Nat.zero_lt_succ 1,
    cmp_fgt (fun i => [a, b].getD i 0) (fun i v hi => ?_), fun v h' tk hP hk => ?_⟩
  · exact two_lt hsz hd
  · match i with
    | 0 => exact ⟨t1, by simpa using hi.symm⟩
    | 1 => exact ⟨t2, by simpa using hi.symm⟩
    | n + 2 => simp at hi
  · have hv : ∃ t', v = .float (max2F a b) t' := by
      have hP2 : #[Value.float a t1, Value.float b t2][argBest (fun i j => fgt ([a, b].getD i 0) ([a, b].getD j 0)) 1]? = some v := hP
      unfold max2F
      cases c1 : fgt b a with
      | true =>
        rw [argBest_t _ 0 c1] at hP2
        exact ⟨t2, by simpa using hP2.symm⟩
      | false =>
        rw [argBest_f _ 0 c1] at hP2
        exact ⟨t1, by simpa [argBest] using hP2.symm⟩
    obtain ⟨t', rfl⟩ := hv
    exact h h' tk t' (two_old hk2 hk)

variable {h₀ : Heap} {L : Addr} {m : Str → Option Value} {news : List (Addr × Obj)}
theorem max3_N {a b c : UInt64} {t1 t2 t3 : Tok} {Q : Value → Shared → Prop} (hh : A.handled = none) (F : Fr h₀ L s.heap m) (N : News h₀ L s.heap news)
    (h : ∀ h' tk t', Fr h₀ L h' m → News h₀ L h' news → Q (.float (max3F a b c) t') { s with heap := h', toks := tk }) :
    wpAny (model prog w) A (call (.builtin "max") [.float a t1, .float b t2, .float c t3]) Q E s :=
  max3_floats hh fun h' tk t' hk => h h' tk t' (F.grownK hk) (N.grown hk)
theorem min3_N {a b c : UInt64} {t1 t2 t3 : Tok} {Q : Value → Shared → Prop} (hh : A.handled = none) (F : Fr h₀ L s.heap m) (N : News h₀ L s.heap news)
    (h : ∀ h' tk t', Fr h₀ L h' m → News h₀ L h' news → Q (.float (min3F a b c) t') { s with heap := h', toks := tk }) :
    wpAny (model prog w) A (call (.builtin "min") [.float a t1, .float b t2, .float c t3]) Q E s :=
  min3_floats hh fun h' tk t' hk => h h' tk t' (F.grownK hk) (N.grown hk)
theorem max2_N {a b : UInt64} {t1 t2 : Tok} {Q : Value → Shared → Prop} (hh : A.handled = none) (F : Fr h₀ L s.heap m) (N : News h₀ L s.heap news)
    (h : ∀ h' tk t', Fr h₀ L h' m → News h₀ L h' news → Q (.float (max2F a b) t') { s with heap := h', toks := tk }) :
    wpAny (model prog w) A (call (.builtin "max") [.float a t1, .float b t2]) Q E s :=
  max2_floats hh fun h' tk t' hk => h h' tk t' (F.grownK hk) (N.grown hk)
end
end Mine

open PySem PySem.W PyProof.Rows PySem.Spec PySem.Calls
set_option maxRecDepth 100000
set_option maxHeartbeats 8000000
namespace Mine
/-- what rgb_to_hsv hands back (none: it raises) -/
def rgbF (r g b : UInt64) : Option (UInt64 × UInt64 × UInt64) :=
  if (Float64.cmp (min3F r g b) (max3F r g b) == some Ordering.eq) = true then some (0, 0, max3F r g b)
  else if Float64.isZero (max3F r g b) = true then none
  else if Float64.isZero (Float64.sub (max3F r g b) (min3F r g b)) = true then none
  else
    let s := Float64.div (Float64.sub (max3F r g b) (min3F r g b)) (max3F r g b)
    let rc := Float64.div (Float64.sub (max3F r g b) r) (Float64.sub (max3F r g b) (min3F r g b))
    let gc := Float64.div (Float64.sub (max3F r g b) g) (Float64.sub (max3F r g b) (min3F r g b))
    let bc := Float64.div (Float64.sub (max3F r g b) b) (Float64.sub (max3F r g b) (min3F r g b))
    let h := if (Float64.cmp r (max3F r g b) == some Ordering.eq) = true then Float64.sub bc gc else if (Float64.cmp g (max3F r g b) == some Ordering.eq) = true then Float64.sub (Float64.add 4611686018427387904 rc) bc else Float64.sub (Float64.add 4616189618054758400 gc) rc
    some ((Float64.divmod (Float64.div h 4618441417868443648) 4607182418800017408).2, s, max3F r g b)
/-- what hsv_to_rgb hands back (none: it raises) -/
def hsvF (h s v : UInt64) : Option (UInt64 × UInt64 × UInt64) :=
  if (Float64.cmp s 0 == some Ordering.eq) = true then some (v, v, v)
  else if Float64.isFinite (Float64.mul h 4618441417868443648) = true then
    if 2 ^ 1024 - 2 ^ 970 ≤ (Flt.toInt Float64.truncOf (Float64.mul h 4618441417868443648)).natAbs then none
    else
      let i := Flt.toInt Float64.truncOf (Float64.mul h 4618441417868443648)
      let f := Float64.sub (Float64.mul h 4618441417868443648) (Float64.ofInt i)
      let p := Float64.mul v (Float64.sub 4607182418800017408 s)
      let q := Float64.mul v (Float64.sub 4607182418800017408 (Float64.mul s f))
      let t := Float64.mul v (Float64.sub 4607182418800017408 (Float64.mul s (Float64.sub 4607182418800017408 f)))
      if (Flt.toInt Float64.truncOf (Float64.mul h 4618441417868443648)).fmod 6 = 0 then some (v, t, p)
      else if (Flt.toInt Float64.truncOf (Float64.mul h 4618441417868443648)).fmod 6 = 1 then some (q, v, p)
      else if (Flt.toInt Float64.truncOf (Float64.mul h 4618441417868443648)).fmod 6 = 2 then some (p, v, t)
      else if (Flt.toInt Float64.truncOf (Float64.mul h 4618441417868443648)).fmod 6 = 3 then some (p, q, v)
      else if (Flt.toInt Float64.truncOf (Float64.mul h 4618441417868443648)).fmod 6 = 4 then some (t, p, v)
      else if (Flt.toInt Float64.truncOf (Float64.mul h 4618441417868443648)).fmod 6 = 5 then some (v, p, q)
      else none
  else none
theorem nan_fin {x : UInt64} (h : Float64.isNaN x = true) : Float64.isFinite x = false := by
  rcases Flt.three x with ⟨hd, _⟩ | ⟨_, hd, _⟩ | ⟨_, _, _, hd, _⟩
  · unfold Float64.isFinite; rw [hd]
  · unfold Float64.isFinite; rw [hd]
  · unfold Float64.isNaN at h; rw [hd] at h; cases h
theorem inf_fin {x : UInt64} (h : Float64.isInf x = true) : Float64.isFinite x = false := by
  rcases Flt.three x with ⟨hd, _⟩ | ⟨_, hd, _⟩ | ⟨_, _, _, hd, _⟩
  · unfold Float64.isFinite; rw [hd]
  · unfold Float64.isFinite; rw [hd]
  · unfold Float64.isInf at h; rw [hd] at h; cases h
abbrev tup3 (x y z : UInt64) (t1 t2 t3 : Tok) : Obj := { cls := .type "tuple", data := .seq #[.float x t1, .float y t2, .float z t3] }
end Mine

open PySem PySem.W PyProof.Rows PySem.Spec PySem.Calls
set_option maxRecDepth 100000
set_option maxHeartbeats 8000000
namespace Mine
def apGo : Nat → Nat → List UInt8 → List UInt8
  | 0, _, acc => acc
  | f + 1, n, acc => if n = 0 then acc else apGo f (n / 16) (UInt8.ofNat (65 + n % 16) :: acc)
def apF (n : Nat) (acc : List UInt8) : List UInt8 := apGo 20 n acc
/-- Int2AP's loop: what holds of num and val -/
def IP (n num : Int) (val : Array UInt8) : Prop := 0 ≤ num ∧ val.size ≤ 20 ∧ num.toNat < 16 ^ (20 - val.size) ∧ apGo (20 - val.size) num.toNat val.toList = apF n.natAbs []
theorem IP.start {n : Int} (hn : n.natAbs < 16 ^ 20) : IP n (if n < 0 then -n else n) #[] := by
  have e : (if n < 0 then -n else n).toNat = n.natAbs := by by_cases h : n < 0 <;> simp only [h, if_true, if_false] <;> omega
  refine ⟨by by_cases h : n < 0 <;> simp only [h, if_true, if_false] <;> omega, by decide, ?_, ?_⟩
  · rw [e]; exact hn
  · rw [e]; rfl
theorem IP.small {n num : Int} {val : Array UInt8} (h : IP n num val) (h0 : num ≠ 0) : val.size < 20 := by
  obtain ⟨h1, h2, h3, _⟩ := h
  rcases Nat.lt_or_ge val.size 20 with q | q
  · exact q
  · have e : 20 - val.size = 0 := by omega
    rw [e] at h3
    omega
theorem IP.sz {n num : Int} {val : Array UInt8} (h : IP n num val) : val.size ≤ 20 := h.2.1
theorem IP.done {n num : Int} {val : Array UInt8} (h : IP n num val) (h0 : num = 0) : val = (apF n.natAbs []).toArray := by
  obtain ⟨h1, h2, h3, h4⟩ := h
  subst h0
  apply Array.ext'
  rw [← h4]
  cases q : 20 - val.size with
  | zero => rfl
  | succ k => rfl
abbrev APs : Array UInt8 := #[65, 66, 67, 68, 69, 70, 71, 72, 73, 74, 75, 76, 77, 78, 79, 80]
theorem ap_cut (k : Nat) (hk : k < 16) : KBy.picked APs (some (k : Int)) (some ((k : Int) + 1)) = #[UInt8.ofNat (65 + k)] := by
  have : k = 0 ∨ k = 1 ∨ k = 2 ∨ k = 3 ∨ k = 4 ∨ k = 5 ∨ k = 6 ∨ k = 7 ∨ k = 8 ∨ k = 9 ∨ k = 10 ∨ k = 11 ∨ k = 12 ∨ k = 13 ∨ k = 14 ∨ k = 15 := by omega
  rcases this with rfl | rfl | rfl | rfl | rfl | rfl | rfl | rfl | rfl | rfl | rfl | rfl | rfl | rfl | rfl | rfl <;> decide +kernel
theorem ap_cutI {num : Int} (h0 : 0 ≤ num) : KBy.picked APs (some (num.fmod 16)) (some (num.fmod 16 + 1)) = #[UInt8.ofNat (65 + num.toNat % 16)] := by
  have e : num.fmod 16 = ((num.toNat % 16 : Nat) : Int) := by rw [Int.fmod_eq_emod_of_nonneg _ (by decide)]; omega
  rw [e]; exact ap_cut _ (Nat.mod_lt _ (by decide))
theorem IP.step {n num : Int} {val : Array UInt8} (h : IP n num val) (h0 : num ≠ 0) : IP n (num.fdiv 16) (KBy.picked APs (some (num.fmod 16)) (some (num.fmod 16 + 1)) ++ val) := by
  have hs := h.small h0
  obtain ⟨h1, h2, h3, h4⟩ := h
  rw [ap_cutI h1]
  have e : num.fdiv 16 = ((num.toNat / 16 : Nat) : Int) := by rw [Int.fdiv_eq_ediv_of_nonneg _ (by decide)]; omega
  have sz : (#[UInt8.ofNat (65 + num.toNat % 16)] ++ val).size = val.size + 1 := by simp [Nat.add_comm]
  have e20 : 20 - val.size = (20 - (val.size + 1)) + 1 := by omega
  rw [e]
  refine ⟨by omega, by rw [sz]; omega, ?_, ?_⟩
  · rw [sz]
    show num.toNat / 16 < _
    rw [e20, Nat.pow_succ] at h3
    exact Nat.div_lt_of_lt_mul (by rw [Nat.mul_comm]; exact h3)
  · rw [sz, ← h4, e20]
    have hz : ¬ num.toNat = 0 := by omega
    show apGo _ (num.toNat / 16) _ = apGo (_ + 1) num.toNat val.toList
    rw [apGo, if_neg hz]
    congr 1
    simp
theorem IP.less {n num : Int} {val : Array UInt8} (h : IP n num val) (h0 : num ≠ 0) : (num.fdiv 16).toNat < num.toNat := by
  have h1 := h.1
  rw [Int.fdiv_eq_ediv_of_nonneg _ (by decide)]
  omega
section
variable {prog : Program} {w : World} {A : Around} {E : Value → Shared → Prop} {s : Shared} {value slice : PySem.Expr} {b c : Array UInt8} {t u : Tok} {h₀ : Heap} {L : Addr} {m : PySem.Str → Option Value} {news : List (Addr × Obj)} {l r : Value} {lo hi : Option Int} {Q : Value → Shared → Prop}
theorem bslice (hF : Fr h₀ L s.heap m) (hN : News h₀ L s.heap news) (hl : IsPart l lo) (hu : IsPart r hi) (hz : b.size ≤ 16777216)
    (h : ∀ h' t' k, Fr h₀ L h' m → News h₀ L h' news → Q (.bytes (KBy.picked b lo hi) t') { s with heap := h', toks := k })
    (hs : subscripted slice false (.bytes b t) (.ref s.heap.objs.size) = operate [.ref s.heap.objs.size, .bytes b t] (getItem (.bytes b t) (.ref s.heap.objs.size)) := by with_unfolding_all rfl)
    (ht : ∀ r, letTemporaryGo value (.bytes b t) r = pure () := by intro _; with_unfolding_all rfl) :
    wpAny (model prog w) A (subscriptTail value slice (.bytes b t) (.ref s.heap.objs.size)) Q E { s with heap := s.heap.push { cls := .type "slice", data := .fields #[l, r, .none] } } :=
  KBc.slice_K hF hN rfl hl hu (by rw [KBw.ints_length]; exact hz) (fun h' t' k F' N' _ => h h' t' k F' N') hs ht
theorem badd (hsz : b.size + c.size ≤ 16777216) (h : ∀ t' k, Q (.bytes (b ++ c) t') { s with toks := k }) : wpAny (model prog w) A (binaryOp .Add (.bytes b t) (.bytes c u)) Q E s :=
  KBa.add_K rfl rfl (by rw [KBw.ints_length, KBw.ints_length]; exact hsz) (fun t' k _ => h t' k)
end
end Mine

open PySem PySem.W PyProof.Rows PySem.Spec PySem.Calls
set_option maxRecDepth 100000
set_option maxHeartbeats 8000000
namespace Mine
open Builtin Builtin.Re Builtin.Str
theorem slot_re_sub : Slot "re.Pattern" "sub" "re.Pattern.sub" :=
  .of (owner := "re.Pattern") (n := "sub") (by rw [typeLookup_type, builtinLookup_eq_fast]; kernel_rfl) (by decide +kernel) (by decide +kernel) (by decide +kernel)
    (by first | exact .inl (by decide +kernel) | exact .inr (by decide +kernel)) (by rw [isSubtype_type]; kernel_rfl)
theorem type_re_sub : typeOf (.builtin "re.Pattern.sub") = pure (.type "method_descriptor") := by show builtinType _ = _; rw [builtinType_eq_fast]; kernel_rfl
theorem entry_re_sub : entryFor table "re.Pattern.sub" = some Builtin.«re.Pattern.sub» := entryFor_of_fast (by kernel_rfl)
theorem entry_re_loop : entryFor table "re.Pattern.sub.loop" = some Builtin.«re.Pattern.sub.loop» := entryFor_of_fast (by kernel_rfl)
theorem plain_re_loop : plainId "re.Pattern.sub.loop" = true := by decide +kernel
theorem args_re_sub (a b c : Value) : argsOk "re.Pattern.sub" ⟨[a, b, c], []⟩ := by unfold argsOk; kernel_rfl
theorem attrs_re : PlainAttrs "re.Pattern" := ⟨⟨"object.__getattribute__", by rw [typeLookup_type, builtinLookup_eq_fast]; kernel_rfl, by decide +kernel⟩, by rw [typeLookup_type, builtinLookup_eq_fast]; kernel_rfl⟩
theorem str_no_call : typeLookup (.type "str") "__call__" = pure none := by rw [typeLookup_type, builtinLookup_eq_fast]; kernel_rfl
end Mine

open PySem PySem.W PyProof.Rows PySem.Spec PySem.Calls
set_option maxRecDepth 100000
set_option maxHeartbeats 8000000
namespace Mine
open Builtin Builtin.Re Builtin.Str
theorem runFor_done (n : Nat) {m : Sre.M} (h : m.outcome.isSome = true) : m.runFor n = m := by
  cases n with
  | zero => rfl
  | succ n => unfold Sre.M.runFor; rw [if_pos h]
theorem runFor_add (a b : Nat) (m : Sre.M) : m.runFor (a + b) = (m.runFor a).runFor b := by
  induction a generalizing m with
  | zero => rw [Nat.zero_add]; rfl
  | succ a ih =>
    by_cases h : m.outcome.isSome = true
    · rw [runFor_done _ h, runFor_done _ h, runFor_done _ h]
    · rw [Nat.succ_add]
      show (if m.outcome.isSome then m else Sre.M.runFor (a + b) m.step) = Sre.M.runFor b (if m.outcome.isSome then m else Sre.M.runFor a m.step)
      rw [if_neg h, if_neg h]
      exact ih _
theorem runFor_ge {n k : Nat} {m : Sre.M} (h : (m.runFor n).outcome.isSome = true) (hk : n ≤ k) : m.runFor k = m.runFor n := by
  obtain ⟨d, rfl⟩ := Nat.exists_eq_add_of_le hk
  rw [runFor_add, runFor_done _ h]

section
variable {M : Model} {A : Around} {s : Shared}
theorem wpAny_drive {E : Value → Shared → Prop} {Q : Sre.M → Shared → Prop} : ∀ (F n : Nat) (m : Sre.M), n ≤ 4 * F → 0 < F → (m.runFor n).outcome.isSome = true → Q (m.runFor n) s → wpAny M A (reDrive F m) Q E s
  | 0, _, _, _, h0, _, _ => absurd h0 (Nat.lt_irrefl _)
  | F + 1, n, m, hn, _, hd, hQ => by
    show wpAny M A (if (m.runFor 4).outcome.isSome = true then pure (m.runFor 4) else (rule "sre.turn" >>= fun _ => reDrive F (m.runFor 4))) Q E s
    by_cases h4 : (m.runFor 4).outcome.isSome = true
    · rw [if_pos h4]
      have : m.runFor n = m.runFor 4 := by
        rcases Nat.le_total n 4 with q | q
        · exact (runFor_ge hd q).symm
        · exact runFor_ge h4 q
      rw [this] at hQ
      exact wpAny_pure hQ
    · rw [if_neg h4]
      have hlt : 4 < n := by
        rcases Nat.lt_or_ge 4 n with q | q
        · exact q
        · exact absurd (by rw [runFor_ge hd q]; exact hd) h4
      obtain ⟨k, rfl⟩ := Nat.exists_eq_add_of_lt hlt
      have e : m.runFor (4 + k + 1) = (m.runFor 4).runFor (k + 1) := by rw [Nat.add_assoc, runFor_add]
      rw [e] at hd hQ
      exact wpAny_bind (wpAny_rule (wpAny_drive F (k + 1) _ (by omega) (by omega) hd hQ))

theorem wpAny_run {E : Value → Shared → Prop} {Q : Option Sre.M → Shared → Prop} {n : Nat} {m : Sre.M} (hn : n ≤ 2 ^ 60)
    (h : ((m.runFor n).outcome = some .matched ∧ Q (some (m.runFor n)) s) ∨ ((m.runFor n).outcome = some .failed ∧ Q none s)) : wpAny M A (reRunToEnd m) Q E s := by
  have hd : (m.runFor n).outcome.isSome = true := by rcases h with ⟨e, _⟩ | ⟨e, _⟩ <;> rw [e] <;> rfl
  unfold reRunToEnd
  refine wpAny_bind (wpAny_drive (2 ^ 64) n m (Nat.le_trans hn (by decide)) (by decide) hd ?_)
  refine wpAny_bind (wpAny_forIn_list _ (fun _ _ s' => s' = s) _ ?_ ?_ _ _ rfl)
  · rintro x rest b s' rfl
    by_cases hx : (m.runFor n).seen.has x = true
    · simp only [hx, if_true]
      exact wpAny_bind (wpAny_rule (wpAny_pure rfl))
    · simp only [hx, if_false, Bool.false_eq_true]
      exact wpAny_pure rfl
  · rintro b s' rfl
    rcases h with ⟨e, hQ⟩ | ⟨e, hQ⟩
    · rw [e]; exact wpAny_pure hQ
    · rw [e]; exact wpAny_pure hQ
end

/-- a search from s (no empty match is asked for) finds [a, b) or nothing -/
def FindsAt (code text : Array Nat) (s : Nat) (r : Option (Nat × Nat)) : Prop :=
  ∃ n, n ≤ 2 ^ 60 ∧ (match r with
    | some (a, b) => ((Sre.forSearch code text 0 s text.size false).runFor n).outcome = some .matched ∧ ((Sre.forSearch code text 0 s text.size false).runFor n).start = a ∧ ((Sre.forSearch code text 0 s text.size false).runFor n).handed = b
    | none => ((Sre.forSearch code text 0 s text.size false).runFor n).outcome = some .failed)
inductive SubRun (code text : Array Nat) (repl : Str) : Nat → List Str → Prop
  | last {s : Nat} : FindsAt code text s none → SubRun code text repl s (if s < text.size then [⟨text.extract s text.size⟩] else [])
  | more {s a b : Nat} {rest : List Str} : FindsAt code text s (some (a, b)) → s ≤ a → a < b → SubRun code text repl b rest →
      SubRun code text repl s ((if s < a then [⟨text.extract s a⟩] else []) ++ repl :: rest)

/-- what stands at a compiled pattern's address -/
structure PatAt (h : Heap) (p : Addr) (code : Array Nat) : Prop where
  at_ : ∃ (fs : Array Value) (c : Addr) (o : Obj) (items : Array Value) (n : Nat), h.get? p = some { cls := .type "re.Pattern", data := .fields fs } ∧ fs.getD 6 .none = rawInt 0 ∧ fs.getD 2 .none = rawInt 0 ∧ fs.getD 5 .none = .ref c ∧
    h.get? c = some o ∧ o.data = .seq items n ∧ (items.map reRawOf).map (·.toNat) = code
theorem PatAt.keeps {h h' : Heap} {p : Addr} {code : Array Nat} (P : PatAt h p code) (k : ∀ b o, h.get? b = some o → h'.get? b = some o) : PatAt h' p code := by
  obtain ⟨fs, c, o, items, n, h1, h2, h3, h4, h5, h6⟩ := P.at_
  exact ⟨fs, c, o, items, n, k _ _ h1, h2, h3, h4, k _ _ h5, h6⟩
section
variable {M : Model} {A : Around} {E : Value → Shared → Prop} {s : Shared}
theorem wpAny_whole {p : Addr} {code : Array Nat} {x : Str} {t : Tok} {Q : ReTarget → Shared → Prop} (P : PatAt s.heap p code)
    (h : Q { pattern := .ref p, string := .str x t, code := code, text := x.cps, kind := 0, groups := 0, pos := 0, lim := x.cps.size } s) : wpAny M A (reWholeTarget (.ref p) (.str x t)) Q E s := by
  obtain ⟨fs, c, o, items, n, h1, h2, h3, h4, h5, h6, h7⟩ := P.at_
  unfold reWholeTarget
  refine wpAny_bind (wpAny_fieldsOf h1 rfl ?_)
  refine wpAny_bind (wpAny_of_eq (show reTextOf (.str x t) = pure (x.cps, 0) from rfl) ?_)
  rw [h2, h3, h4]
  show wpAny M A (reNoCollectionInside (.str x t) 0 >>= _) Q E s
  refine wpAny_bind (wpAny_of_eq (show reNoCollectionInside (.str x t) 0 = pure () from rfl) ?_)
  unfold reRawItems
  refine wpAny_bind (wpAny_bind (wpAny_seqItems h5 h6 (wpAny_pure ?_)))
  refine wpAny_pure ?_
  show Q { pattern := .ref p, string := .str x t, code := (items.map reRawOf).map (·.toNat), text := x.cps, kind := 0, groups := 0, pos := 0, lim := x.cps.size } s
  rw [h7]; exact h
end

def lens (l : List Str) : Nat := (l.map (·.length)).sum
theorem lens_append (a b : List Str) : lens (a ++ b) = lens a + lens b := by simp [lens]
theorem notLong {l : List (Str × Tok)} (h : lens (l.map (·.1)) ≤ 16777216) : tooLong ((l.map (·.1)).toArray.foldl (· + ·.length + (Str.empty).length) 0) = false := by
  have e : ∀ (ps : List Str) (k : Nat), ps.foldl (fun n (s : Str) => n + s.length + (Str.empty).length) k = k + lens ps := by
    intro ps
    induction ps with
    | nil => intro k; simp [lens]
    | cons p r ih =>
      intro k
      rw [List.foldl_cons, ih]
      have : (Str.empty).length = 0 := rfl
      simp only [lens, List.map_cons, List.sum_cons, this]
      omega
  unfold tooLong
  rw [List.foldl_toArray, e]
  rw [sizeLine_eq]
  exact decide_eq_false (by omega)
theorem glued_one (p : Str) : glued Str.empty [p] = p := rfl
theorem glued_nil : glued Str.empty [] = Str.empty := rfl

section
variable {prog : Program} {w : World} {A : Around} {R : Result → Shared → Prop}
theorem join_values {E : Value → Shared → Prop} {s : Shared} {D : Addr} {acc : List (Str × Tok)} {Q : Value → Shared → Prop} {c : Nat} {t : Tok} (hD : s.heap.get? D = some { cls := .type "list", data := .seq (strValues acc).toArray c })
    (hl : lens (acc.map (·.1)) ≤ 16777216) (h : ∀ t' tk, Q (.str (glued Str.empty (acc.map (·.1))) t') { s with toks := tk }) :
    wpAny (model prog w) A (call (.builtin "str.join") [.str Str.empty t, .ref D]) Q E s := by
  refine call_meets PySem.F.slot_str_join rfl PySem.F.entry_str_join (PySem.F.args_str_join_2 _ _) (meets_str_join_list Str.empty t D acc (notLong hl)) ⟨⟨_, hD, rfl, c, rfl⟩, ?_⟩
  cases acc with
  | nil => exact ⟨by rw [sizeLine_eq]; exact Nat.zero_le _, h _ _⟩
  | cons p r => cases r with
    | nil => exact h p.2 s.toks
    | cons q r => exact ⟨by rw [size_glued, sizeLine_eq]; show lens _ + (_ - 1) * 0 ≤ _; omega, h _ _⟩

theorem push_at {h : Heap} {D : Addr} {acc : List (Str × Tok)} {c : Nat} {y : Str} {u : Tok} (hD : h.get? D = some { cls := .type "list", data := .seq (strValues acc).toArray c }) :
    (h.update D (Obj.mapSeq fun xs => xs.push (.str y u))).get? D = some { cls := .type "list", data := .seq (strValues (acc ++ [(y, u)])).toArray (c + 1) } := by
  rw [Heap.get?_update_self _ hD rfl]
  have e : (strValues acc).toArray.push (.str y u) = (strValues (acc ++ [(y, u)])).toArray := by simp [strValues]
  show some (Obj.mk (.type "list") none (.seq ((strValues acc).toArray.push (.str y u)) (if ((strValues acc).toArray.push (.str y u)).size == (strValues acc).toArray.size then c else c + 1)) #[]) = _
  rw [e]
  have hne : ((strValues (acc ++ [(y, u)])).toArray.size == (strValues acc).toArray.size) = false := by simp [strValues]
  rw [hne]; rfl
theorem push_other {h : Heap} {D b : Addr} {o : Obj} {f : Obj → Obj} (hb : b ≠ D) (e : h.get? b = some o) : (h.update D f).get? b = some o := (Heap.get?_update_other _ _ (Ne.symm hb)).trans e
theorem push_fits {acc : List (Str × Tok)} {y : Str} {u : Tok} {k : Nat} (h : acc.length + k ≤ 16777216) (hk : 1 ≤ k) : (strValues acc).toArray.size ≤ sizeLine ∧ ((strValues acc).toArray.push (.str y u)).size ≤ sizeLine + 1 := by
  rw [sizeLine_eq]
  simp only [strValues, List.size_toArray, List.length_map, Array.size_push]
  omega
theorem sub_loop {p D : Addr} {code : Array Nat} {x r : Str} {t tr : Tok} {hb : Heap} (P : PatAt hb p code) (hD : hb.get? D = none) {s0 : Nat} {pieces : List Str} (H : SubRun code x.cps r s0 pieces) :
    ∀ (st : Shared) (acc : List (Str × Tok)) (c : Nat) (n : Int), (∀ b o, hb.get? b = some o → st.heap.get? b = some o) → st.heap.get? D = some { cls := .type "list", data := .seq (strValues acc).toArray c } →
      lens (acc.map (·.1)) + lens pieces ≤ 16777216 → acc.length + pieces.length ≤ 16777216 → x.length ≤ 16777216 →
      (∀ h' tk t', (∀ b o, b ≠ D → st.heap.get? b = some o → h'.get? b = some o) → R (.ok (.ret (.str (glued Str.empty (acc.map (·.1) ++ pieces)) t'))) { st with heap := h', toks := tk }) →
      codeAny (model prog w) A (.builtin "re.Pattern.sub.loop" ⟨[.ref p, .str x t, .str r tr, rawInt 0, rawInt 0, rawInt n, rawInt s0, rawInt s0, .bool false, .ref D, .bool false], []⟩) R st := by
  induction H with
  | @last s hf =>
    intro st acc c n hk hL hl hc hx hR
    obtain ⟨k, hk1, hf⟩ := hf
    refine codeAny_builtin entry_re_loop ?_
    rw [Around.under_plainId plain_re_loop _]
    show wpAny _ A.in1 (reWholeTarget (.ref p) (.str x t) >>= _) _ _ st
    refine wpAny_bind (wpAny_whole (P.keeps hk) ?_)
    show wpAny _ A.in1 (reLiteralCannotBeTurned (.str r tr) >>= _) _ _ st
    refine wpAny_bind (wpAny_of_eq (show reLiteralCannotBeTurned (.str r tr) = pure () from rfl) ?_)
    show wpAny _ A.in1 (reRunToEnd (Sre.forSearch code x.cps 0 s x.cps.size false) >>= _) _ _ st
    refine wpAny_bind (wpAny_run hk1 (.inr ⟨hf, ?_⟩))
    have fin : ∀ (st' : Shared) (acc' : List (Str × Tok)) (c' : Nat), st'.heap.get? D = some { cls := .type "list", data := .seq (strValues acc').toArray c' } → lens (acc'.map (·.1)) ≤ 16777216 →
        (∀ t' tk, R (.ok (.ret (.str (glued Str.empty (acc'.map (·.1))) t'))) { st' with toks := tk }) →
        wpAny (model prog w) A.in1 (mkStr ⟨x.cps.extract 0 0⟩ >>= fun joiner => (do
          let text ← if ((← seqItems? (.ref D)).getD #[]).isEmpty = true then pure joiner else call (.builtin "str.join") [joiner, .ref D]
          ret text)) (fun fin s' => match fin with | .done f => R (.ok f) s' | .again c' => c'.quiet = true ∧ codeAny (model prog w) A c' R s') (fun e s' => R (.error e) s') st' := by
      intro st' acc' c' hL' hl' hR'
      have e0 : (⟨x.cps.extract 0 0⟩ : Str) = Str.empty := by
        have : x.cps.extract 0 0 = #[] := by simp
        rw [this]; rfl
      rw [e0]
      refine wpAny_bind (wpAny_mkStr ?_ (by rw [sizeLine_eq]; exact Nat.zero_le _))
      refine wpAny_bind (wpAny_seqItems (s := { st' with toks := st'.toks + 1 }) hL' rfl ?_)
      cases acc' with
      | nil =>
        show wpAny _ A.in1 (pure (Value.str Str.empty st'.toks) >>= fun text => ret text) _ _ _
        exact wpAny_bind (wpAny_pure (wpAny_pure (hR' _ _)))
      | cons q l =>
        show wpAny _ A.in1 (call (.builtin "str.join") [Value.str Str.empty st'.toks, .ref D] >>= fun text => ret text) _ _ _
        exact wpAny_bind (join_values (c := c') (acc := q :: l) hL' hl' fun t' tk => wpAny_pure (hR' t' tk))
    by_cases hs : s < x.cps.size
    · rw [if_pos hs] at hl hc hR
      show wpAny _ A.in1 (if s < x.cps.size then _ else _) _ _ st
      rw [if_pos hs]
      have hpl : (⟨x.cps.extract s x.cps.size⟩ : Str).length ≤ 16777216 := by
        simp only [lens, List.map_cons, List.map_nil, List.sum_cons, List.sum_nil] at hl
        omega
      show wpAny _ A.in1 (mkStr ⟨x.cps.extract s x.cps.size⟩ >>= _) _ _ st
      refine wpAny_bind (wpAny_mkStr ?_ (by rw [sizeLine_eq]; exact hpl))
      have hfit := push_fits (y := ⟨x.cps.extract s x.cps.size⟩) (u := st.toks) hc (Nat.le_refl 1)
      refine wpAny_bind (wpAny_updateSeq (s := { st with toks := st.toks + 1 }) hL rfl ?_ hfit.1 hfit.2)
      refine fin _ (acc ++ [(⟨x.cps.extract s x.cps.size⟩, st.toks)]) (c + 1) (push_at hL) ?_ fun t' tk => ?_
      · rw [List.map_append, lens_append]; exact hl
      · have := hR (st.heap.update D (Obj.mapSeq fun xs => xs.push (.str ⟨x.cps.extract s x.cps.size⟩ st.toks))) tk t' fun b o hb e => push_other hb e
        rw [List.map_append]
        exact this
    · rw [if_neg hs] at hl hc hR
      show wpAny _ A.in1 (if s < x.cps.size then _ else _) _ _ st
      rw [if_neg hs]
      refine fin st acc c hL (by omega) fun t' tk => ?_
      have := hR st.heap tk t' fun b o _ e => e
      rw [List.append_nil] at this
      exact this
  | @more s a b rest hf hsa hab H ih =>
    intro st acc c n hk hL hl hc hx hR
    obtain ⟨k, hk1, hf1, hf2, hf3⟩ := hf
    refine codeAny_builtin entry_re_loop ?_
    rw [Around.under_plainId plain_re_loop _]
    show wpAny _ A.in1 (reWholeTarget (.ref p) (.str x t) >>= _) _ _ st
    refine wpAny_bind (wpAny_whole (P.keeps hk) ?_)
    show wpAny _ A.in1 (reLiteralCannotBeTurned (.str r tr) >>= _) _ _ st
    refine wpAny_bind (wpAny_of_eq (show reLiteralCannotBeTurned (.str r tr) = pure () from rfl) ?_)
    show wpAny _ A.in1 (reRunToEnd (Sre.forSearch code x.cps 0 s x.cps.size false) >>= _) _ _ st
    refine wpAny_bind (wpAny_run hk1 (.inl ⟨hf1, ?_⟩))
    have hDn : ∀ {h' : Heap}, (∀ b o, b ≠ D → st.heap.get? b = some o → h'.get? b = some o) → ∀ b o, hb.get? b = some o → h'.get? b = some o := fun k b o e => k b o (fun q => by rw [q, hD] at e; cases e) (hk b o e)
    have fin : ∀ (st' : Shared) (acc' : List (Str × Tok)) (c' : Nat), (∀ b o, b ≠ D → st.heap.get? b = some o → st'.heap.get? b = some o) → st'.heap.get? D = some { cls := .type "list", data := .seq (strValues acc').toArray c' } →
        lens (acc'.map (·.1)) + (r.length + lens rest) ≤ 16777216 → acc'.length + (1 + rest.length) ≤ 16777216 → (∃ tk, { st with heap := st'.heap, toks := tk } = st') →
        (∀ h' tk t', (∀ b o, b ≠ D → st.heap.get? b = some o → h'.get? b = some o) → R (.ok (.ret (.str (glued Str.empty (acc'.map (·.1) ++ r :: rest)) t'))) { st with heap := h', toks := tk }) →
        wpAny (model prog w) A.in1 (updateSeq D (fun xs => xs.push (.str r tr)) >>= fun _ => (again (.builtin "re.Pattern.sub.loop" ⟨[.ref p, .str x t, .str r tr, rawInt 0, rawInt 0, rawInt (n + 1), rawInt b, rawInt b, .bool false, .ref D, .bool false], []⟩)))
          (fun fin s' => match fin with | .done f => R (.ok f) s' | .again c' => c'.quiet = true ∧ codeAny (model prog w) A c' R s') (fun e s' => R (.error e) s') st' := by
      intro st' acc' c' hk' hL' hl' hc' hst hR'
      have hfit := push_fits (y := r) (u := tr) hc' (by omega)
      refine wpAny_bind (wpAny_updateSeq hL' rfl ?_ hfit.1 hfit.2)
      refine wpAny_pure ⟨plainId_quiet plain_re_loop _, ?_⟩
      refine ih _ (acc' ++ [(r, tr)]) (c' + 1) (n + 1) ?_ (push_at hL') ?_ ?_ hx ?_
      · exact hDn fun b o hb e => push_other hb (hk' b o hb e)
      · rw [List.map_append, lens_append]
        simp only [lens, List.map_cons, List.map_nil, List.sum_cons, List.sum_nil] at hl' ⊢
        omega
      · rw [List.length_append]; simp only [List.length_cons, List.length_nil]; omega
      · intro h' tk t' hkk
        have e : (acc' ++ [(r, tr)]).map (·.1) ++ rest = acc'.map (·.1) ++ r :: rest := by simp
        rw [e]
        obtain ⟨tk0, hst⟩ := hst
        have := hR' h' tk t' fun b o hb e => hkk b o hb (push_other hb (hk' b o hb e))
        rw [← hst]
        exact this
    have hm : (b == a) = false := beq_false_of_ne (by omega)
    by_cases hs : s < a
    · rw [if_pos hs] at hl hc hR
      show wpAny _ A.in1 (if s < ((Sre.forSearch code x.cps 0 s x.cps.size false).runFor k).start then _ else _) _ _ st
      rw [hf2, hf3, hm, if_pos hs]
      have hpl : (⟨x.cps.extract s a⟩ : Str).length ≤ 16777216 := by
        simp only [lens, List.map_append, List.map_cons, List.map_nil, List.sum_append, List.sum_cons, List.sum_nil] at hl
        omega
      show wpAny _ A.in1 (mkStr ⟨x.cps.extract s a⟩ >>= fun v => updateSeq D (fun xs => xs.push v) >>= fun _ => (updateSeq D (fun xs => xs.push (.str r tr)) >>= fun _ =>
        again (.builtin "re.Pattern.sub.loop" ⟨[.ref p, .str x t, .str r tr, rawInt 0, rawInt 0, rawInt (n + 1), rawInt b, rawInt b, .bool false, .ref D, .bool false], []⟩))) _ _ st
      refine wpAny_bind (wpAny_mkStr ?_ (by rw [sizeLine_eq]; exact hpl))
      have hfit := push_fits (y := ⟨x.cps.extract s a⟩) (u := st.toks) hc (by simp only [List.length_append, List.length_cons]; omega)
      refine wpAny_bind (wpAny_updateSeq (s := { st with toks := st.toks + 1 }) hL rfl ?_ hfit.1 hfit.2)
      refine fin _ (acc ++ [(⟨x.cps.extract s a⟩, st.toks)]) (c + 1) (fun b o hb e => push_other hb e) (push_at hL) ?_ ?_ ⟨_, rfl⟩ fun h' tk t' hkk => ?_
      · simp only [lens, List.map_append, List.map_cons, List.map_nil, List.sum_append, List.sum_cons, List.sum_nil] at hl ⊢
        omega
      · simp only [List.length_append, List.length_cons, List.length_nil] at hc ⊢
        omega
      · have := hR h' tk t' hkk
        rw [List.map_append, List.append_assoc]
        exact this
    · rw [if_neg hs] at hl hc hR
      show wpAny _ A.in1 (if s < ((Sre.forSearch code x.cps 0 s x.cps.size false).runFor k).start then _ else _) _ _ st
      rw [hf2, hf3, hm, if_neg hs]
      show wpAny _ A.in1 (updateSeq D (fun xs => xs.push (.str r tr)) >>= fun _ =>
        again (.builtin "re.Pattern.sub.loop" ⟨[.ref p, .str x t, .str r tr, rawInt 0, rawInt 0, rawInt (n + 1), rawInt b, rawInt b, .bool false, .ref D, .bool false], []⟩)) _ _ st
      refine fin st acc c (fun _ _ _ e => e) hL ?_ ?_ ⟨st.toks, rfl⟩ fun h' tk t' hkk => ?_
      · simp only [lens, List.nil_append, List.map_cons, List.sum_cons] at hl ⊢
        omega
      · simp only [List.nil_append, List.length_cons] at hc ⊢
        omega
      · exact hR h' tk t' hkk

theorem PatAt.typeIs {s : Shared} {p : Addr} {code : Array Nat} (P : PatAt s.heap p code) : s.TypeIs (.ref p) "re.Pattern" := by
  obtain ⟨fs, c, o, items, n, h1, _⟩ := P.at_
  exact ⟨_, h1, rfl⟩
theorem PatAt.nodict {h : Heap} {p : Addr} {code : Array Nat} (P : PatAt h p code) : ∃ o, h.get? p = some o ∧ o.dict = none := by
  obtain ⟨fs, c, o, items, n, h1, _⟩ := P.at_
  exact ⟨_, h1, rfl⟩
variable {E : Value → Shared → Prop} {s : Shared}
theorem call_sub {p : Addr} {code : Array Nat} {x r : Str} {t tr : Tok} {pieces : List Str} {Q : Value → Shared → Prop} (P : PatAt s.heap p code) (hr : r.cps.contains 92 = false) (H : SubRun code x.cps r 0 pieces)
    (hl : lens pieces ≤ 16777216) (hc : pieces.length ≤ 16777216) (hx : x.length ≤ 16777216)
    (h : ∀ h' tk t', (∀ b o, s.heap.get? b = some o → h'.get? b = some o) → Q (.str (glued Str.empty pieces) t') { s with heap := h', toks := tk }) :
    wpAny (model prog w) A (call (.builtin "re.Pattern.sub") [.ref p, .str r tr, .str x t]) Q E s := by
  refine wpAny_call (codeAny_call_builtin slot_re_sub.plain entry_re_sub (slot_re_sub.check _ _ _ _ _ _ _ _ P.typeIs (args_re_sub _ _ _) ?_))
  show wpAny _ A.in1 (reNamed "re.Pattern.sub" "sub" ["repl", "string", "count"] 2 [.str r tr, .str x t] [] >>= _) _ _ s
  refine wpAny_bind (wpAny_of_eq (show reNamed "re.Pattern.sub" "sub" ["repl", "string", "count"] 2 [.str r tr, .str x t] [] = pure [some (.str r tr), some (.str x t), none] from rfl) ?_)
  refine wpAny_bind (wpAny_pure ?_)
  refine wpAny_bind (wpAny_specialOf (T := "str") rfl str_no_call ?_)
  refine wpAny_bind (wpAny_bind (wpAny_of_eq (show asStr? (.str r tr) = pure (some r) from rfl) (wpAny_pure ?_)))
  show wpAny _ A.in1 (if (!r.cps.contains 92) = true then _ else _) _ _ s
  rw [hr]
  show wpAny _ A.in1 (reWholeTarget (.ref p) (.str x t) >>= fun _ => newList [] >>= fun l =>
    again (.builtin "re.Pattern.sub.loop" ⟨[.ref p, .str x t, .str r tr, rawInt 0, rawInt 0, rawInt 0, rawInt 0, rawInt 0, .bool false, l, .bool false], []⟩)) _ _ s
  refine wpAny_bind (wpAny_whole P ?_)
  refine wpAny_bind (wpAny_newObj_type ?_)
  refine wpAny_pure ⟨plainId_quiet plain_re_loop _, ?_⟩
  have hD : s.heap.get? s.heap.objs.size = none := by
    cases q : s.heap.get? s.heap.objs.size with
    | none => rfl
    | some o => exact absurd (Heap.lt_size q) (Nat.lt_irrefl _)
  refine sub_loop P hD H _ [] 0 0 (fun b o e => Heap.get?_push_of_some _ e) (Heap.get?_push_size _ rfl) (by simpa [lens] using hl) (by simpa using hc) hx fun h' tk t' hk => ?_
  exact h h' tk t' fun b o e => hk b o (fun q => by rw [q, hD] at e; cases e) (Heap.get?_push_of_some _ e)
variable {h₀ : Heap} {L : Addr} {m : PySem.Str → Option Value} {news : List (Addr × Obj)}
theorem call_sub_N {p : Addr} {code : Array Nat} {x r : Str} {t tr : Tok} {pieces : List Str} {Q : Value → Shared → Prop} (F : Fr h₀ L s.heap m) (N : News h₀ L s.heap news) (P : PatAt s.heap p code) (hr : r.cps.contains 92 = false)
    (H : SubRun code x.cps r 0 pieces) (hl : lens pieces ≤ 16777216) (hc : pieces.length ≤ 16777216) (hx : x.length ≤ 16777216)
    (h : ∀ h' tk t', Fr h₀ L h' m → News h₀ L h' news → Q (.str (glued Str.empty pieces) t') { s with heap := h', toks := tk }) :
    wpAny (model prog w) A (call (.builtin "re.Pattern.sub") [.ref p, .str r tr, .str x t]) Q E s :=
  call_sub P hr H hl hc hx fun h' tk t' hk => h h' tk t' (F.grownK hk) (N.grown hk)
theorem getMethod_sub {p : Addr} {code : Array Nat} {pl : Sem Bool} {M : Model} {Q : Value × List Value → Shared → Prop} (P : PatAt s.heap p code) (h : Q (.builtin "re.Pattern.sub", [.ref p]) s) : wpAny M A (getMethod (.ref p) "sub" pl) Q E s :=
  getMethod_builtin P.typeIs attrs_re slot_re_sub type_re_sub (fun a e => by cases e; exact P.nodict) h
end
end Mine

open PySem PySem.W PyProof.Rows PySem.Spec PySem.Calls
set_option maxRecDepth 100000
set_option maxHeartbeats 8000000
namespace Mine
open Builtin Builtin.Re Builtin.Str
abbrev code1 : Array Nat := #[14, 4, 0, 1, 1, 6, 1, 16, 46, 1]
/-- the machine as it tries the dot's pattern at s -/
def att1 (text : Array Nat) (s : Nat) (seen : Sre.Seen) (first : Bool) : Sre.M :=
  { code := code1, text := text, lim := text.size, start := s, lastStart := text.size, pc := 5, pos := s, handed := s, outermost := first, marks := #[], frames := [{ wait := .nextStart, pc := 5, pos := s, outermost := first }], weight := 1, seen := seen }
def begAt (text : Array Nat) (s : Nat) : Bool := s == 0 || text.getD (s - 1) 0 == 10
theorem att1_at (text : Array Nat) (s : Nat) (seen : Sre.Seen) (first : Bool) :
    (att1 text s seen first).step = (if begAt text s = true then { att1 text s ((seen.add 6).add 44) first with pc := 7 } else (att1 text s ((seen.add 6).add 44) first).say false) := rfl

theorem att1_off (text : Array Nat) (s : Nat) (seen : Sre.Seen) (first : Bool) (h : s ≥ text.size) :
    ({ att1 text s seen first with pc := 7 } : Sre.M).step = { att1 text s (seen.add 16) first with pc := 7, answer := some false } := by
  show (if s ≥ text.size then ({ att1 text s (seen.add 16) first with pc := 7, answer := some false } : Sre.M) else _) = _
  rw [if_pos h]
theorem att1_lit (text : Array Nat) (s : Nat) (seen : Sre.Seen) (first : Bool) (h : s < text.size) :
    ({ att1 text s seen first with pc := 7 } : Sre.M).step = (if text.getD s 0 = 46 then { att1 text s (seen.add 16) first with pc := 9, pos := s + 1 } else { att1 text s (seen.add 16) first with pc := 7, answer := some false }) := by
  show (if s ≥ text.size then ({ att1 text s (seen.add 16) first with pc := 7, answer := some false } : Sre.M) else (match Sre.accepts code1 7 (text.getD s 0) (seen.add 16) with
    | .error why => _
    | .ok (false, seen) => ({ att1 text s seen first with pc := 7, answer := some false } : Sre.M)
    | .ok (true, seen) => { att1 text s seen first with pc := 9, pos := s + 1 })) = _
  rw [if_neg (by omega)]
  have e : Sre.accepts code1 7 (text.getD s 0) (seen.add 16) = .ok (text.getD s 0 == 46, seen.add 16) := rfl
  rw [e]
  by_cases q : text.getD s 0 = 46
  · rw [if_pos q, beq_iff_eq.mpr q]
  · rw [if_neg q, beq_false_of_ne q]

theorem att1_no (text : Array Nat) (s pc : Nat) (seen : Sre.Seen) (first : Bool) :
    ({ att1 text s seen first with pc := pc, answer := some false } : Sre.M).step = (if s < text.size then att1 text (s + 1) seen false else { att1 text s seen first with pc := 5, frames := [], weight := 0, answer := some false }) := by
  show (if s < text.size then _ else _) = _
  by_cases h : s < text.size
  · rw [if_pos h, if_pos h]; rfl
  · rw [if_neg h, if_neg h]; rfl
theorem att1_yes (text : Array Nat) (s : Nat) (seen : Sre.Seen) (first : Bool) :
    ∃ m, ({ att1 text s seen first with pc := 9, pos := s + 1 } : Sre.M).step.step.step = m ∧ m.outcome = some .matched ∧ m.start = s ∧ m.handed = s + 1 ∧
      ({ att1 text s seen first with pc := 9, pos := s + 1 } : Sre.M).step.step.outcome = none ∧ ({ att1 text s seen first with pc := 9, pos := s + 1 } : Sre.M).step.outcome = none := by
  cases first <;> exact ⟨_, rfl, rfl, rfl, rfl, rfl, rfl⟩
theorem runFor_step {n : Nat} {m : Sre.M} (h : m.outcome = none) : m.runFor (n + 1) = m.step.runFor n := by
  show (if m.outcome.isSome then m else Sre.M.runFor n m.step) = _
  rw [h]; rfl

/-- what a run that starts at m comes to, in n steps -/
def Ends (m : Sre.M) (n : Nat) (r : Option (Nat × Nat)) : Prop := match r with
  | some (a, b) => (m.runFor n).outcome = some .matched ∧ (m.runFor n).start = a ∧ (m.runFor n).handed = b
  | none => (m.runFor n).outcome = some .failed
theorem Ends.step {m : Sre.M} {n : Nat} {r : Option (Nat × Nat)} (h : m.outcome = none) (e : Ends m.step n r) : Ends m (n + 1) r := by
  unfold Ends at *
  rw [runFor_step h]; exact e
theorem Ends.zero {m : Sre.M} {a b : Nat} (h : m.outcome = some .matched) (ha : m.start = a) (hb : m.handed = b) : Ends m 0 (some (a, b)) := ⟨h, ha, hb⟩
theorem Ends.zeroN {m : Sre.M} (h : m.outcome = some .failed) : Ends m 0 none := h
def dotAt (text : Array Nat) (s : Nat) : Prop := s < text.size ∧ begAt text s = true ∧ text.getD s 0 = 46

theorem r1_none (text : Array Nat) (seen : Sre.Seen) (first : Bool) : ∃ n, n ≤ 4 ∧ Ends (att1 text text.size seen first) n none := by
  by_cases hb : begAt text text.size = true
  · refine ⟨4, by omega, .step rfl ?_⟩
    rw [att1_at, if_pos hb]
    refine .step rfl ?_
    rw [att1_off _ _ _ _ (Nat.le_refl _)]
    refine .step rfl ?_
    rw [att1_no, if_neg (Nat.lt_irrefl _)]
    exact .step rfl (.zeroN rfl)
  · refine ⟨3, by omega, .step rfl ?_⟩
    rw [att1_at, if_neg hb]
    refine .step rfl ?_
    have := att1_no text text.size 5 ((seen.add 6).add 44) first
    rw [if_neg (Nat.lt_irrefl _)] at this
    have e : ((att1 text text.size ((seen.add 6).add 44) first).say false) = ({ att1 text text.size ((seen.add 6).add 44) first with pc := 5, answer := some false } : Sre.M) := rfl
    rw [e, this]
    exact .step rfl (.zeroN rfl)
theorem r1_skip {text : Array Nat} {s : Nat} {r : Option (Nat × Nat)} {k : Nat} (hs : s < text.size) (hd : ¬ dotAt text s) (H : ∀ seen first, ∃ n, n ≤ k ∧ Ends (att1 text (s + 1) seen first) n r) (seen : Sre.Seen) (first : Bool) :
    ∃ n, n ≤ k + 3 ∧ Ends (att1 text s seen first) n r := by
  by_cases hb : begAt text s = true
  · have h46 : ¬ text.getD s 0 = 46 := fun q => hd ⟨hs, hb, q⟩
    obtain ⟨n, hn, e⟩ := H (((seen.add 6).add 44).add 16) false
    refine ⟨n + 3, by omega, .step rfl ?_⟩
    rw [att1_at, if_pos hb]
    refine .step rfl ?_
    rw [att1_lit _ _ _ _ hs, if_neg h46]
    refine .step rfl ?_
    rw [att1_no, if_pos hs]
    exact e
  · obtain ⟨n, hn, e⟩ := H ((seen.add 6).add 44) false
    refine ⟨n + 2, by omega, .step rfl ?_⟩
    rw [att1_at, if_neg hb]
    refine .step rfl ?_
    have := att1_no text s 5 ((seen.add 6).add 44) first
    rw [if_pos hs] at this
    have e' : ((att1 text s ((seen.add 6).add 44) first).say false) = ({ att1 text s ((seen.add 6).add 44) first with pc := 5, answer := some false } : Sre.M) := rfl
    rw [e', this]
    exact e
theorem r1_hit {text : Array Nat} {s : Nat} (hd : dotAt text s) (seen : Sre.Seen) (first : Bool) : Ends (att1 text s seen first) 5 (some (s, s + 1)) := by
  refine .step rfl ?_
  rw [att1_at, if_pos hd.2.1]
  refine .step rfl ?_
  rw [att1_lit _ _ _ _ hd.1, if_pos hd.2.2]
  obtain ⟨m, e, h1, h2, h3, h4, h5⟩ := att1_yes text s (((seen.add 6).add 44).add 16) first
  refine .step rfl (.step h5 (.step h4 ?_))
  rw [e]
  exact .zero h1 h2 h3
theorem finds1 {text : Array Nat} {s n : Nat} {r : Option (Nat × Nat)} (hs : s < text.size) (hn : n ≤ 2 ^ 60) (e : Ends (att1 text s (({} : Sre.Seen).add 14) true) n r) : FindsAt code1 text s r := by
  have q : Sre.forSearch code1 text 0 s text.size false = att1 text s (({} : Sre.Seen).add 14) true := by
    show (if (decide (s > text.size) || decide (text.size - s < 1)) = true then _ else _) = _
    rw [if_neg (by simp; omega)]
    rfl
  refine ⟨n, hn, ?_⟩
  rw [q]
  cases r with
  | none => exact e
  | some p => exact e
theorem finds1_end (text : Array Nat) : FindsAt code1 text text.size none := by
  have q : ∃ m, Sre.forSearch code1 text 0 text.size text.size false = m ∧ m.answer = some false ∧ m.frames = [] ∧ m.outcome = none := by
    refine ⟨_, rfl, ?_⟩
    show (if (decide (text.size > text.size) || decide (text.size - text.size < 1)) = true then _ else _ : Sre.M).answer = _ ∧ (if (decide (text.size > text.size) || decide (text.size - text.size < 1)) = true then _ else _ : Sre.M).frames = _ ∧ (if (decide (text.size > text.size) || decide (text.size - text.size < 1)) = true then _ else _ : Sre.M).outcome = _
    rw [if_pos (by simp)]
    exact ⟨rfl, rfl, rfl⟩
  obtain ⟨m, e, h1, h2, h3⟩ := q
  refine ⟨1, by decide, ?_⟩
  rw [e]
  show (m.runFor 1).outcome = _
  rw [runFor_step h3]
  show (m.step).outcome = _
  unfold Sre.M.step
  rw [h3, h1, h2]
  rfl

def cat (l : List Str) : List Nat := l.flatMap fun p => p.cps.toList
theorem glued_cat (l : List Str) : glued Str.empty l = ⟨(cat l).toArray⟩ := by
  have key : ∀ (r : List Str) (acc : Array Nat), r.foldl (fun acc (p : Str) => acc ++ (Str.empty).cps ++ p.cps) acc = acc ++ (cat r).toArray := by
    intro r
    induction r with
    | nil => intro acc; simp [cat]
    | cons p r ih =>
      intro acc
      rw [List.foldl_cons, ih]
      have e : (Str.empty).cps = #[] := rfl
      rw [e, Array.append_empty]
      apply Array.ext'
      simp [cat]
  cases l with
  | nil => rfl
  | cons p r =>
    show Str.mk (r.foldl (fun acc (p : Str) => acc ++ (Str.empty).cps ++ p.cps) p.cps) = _
    rw [key]
    congr 1
    apply Array.ext'
    simp [cat]
theorem lens_cat (l : List Str) : lens l = (cat l).length := by
  induction l with
  | nil => rfl
  | cons p r ih =>
    simp only [lens, List.map_cons, List.sum_cons, cat, List.flatMap_cons, List.length_append] at *
    rw [ih]
    rfl
def dots : Bool → List Nat → List Nat
  | _, [] => []
  | b, c :: r => if b = true ∧ c = 46 then 46 :: 46 :: dots (c == 10) r else c :: dots (c == 10) r
theorem drop_cons {text : Array Nat} {s : Nat} (h : s < text.size) : text.toList.drop s = text.getD s 0 :: text.toList.drop (s + 1) := by
  have h' : s < text.toList.length := by simpa using h
  rw [List.drop_eq_getElem_cons h']
  simp [h]
theorem begAt_succ {text : Array Nat} (s : Nat) : begAt text (s + 1) = (text.getD s 0 == 10) := by
  unfold begAt
  simp
theorem extract_list (text : Array Nat) (s a : Nat) : (text.extract s a).toList = (text.toList.drop s).take (a - s) := by
  rw [Array.toList_extract]

theorem scan1 (text : Array Nat) : ∀ (k s : Nat), s + k = text.size → ∃ r, (∀ seen first, ∃ n, n ≤ 3 * k + 5 ∧ Ends (att1 text s seen first) n r) ∧
    (match r with
    | none => dots (begAt text s) (text.toList.drop s) = text.toList.drop s
    | some (a, b) => s ≤ a ∧ b = a + 1 ∧ a < text.size ∧ dots (begAt text s) (text.toList.drop s) = (text.toList.drop s).take (a - s) ++ 46 :: 46 :: dots (begAt text (a + 1)) (text.toList.drop (a + 1)))
  | 0, s, h => by
    have hs : s = text.size := by omega
    subst hs
    refine ⟨none, fun seen first => ?_, ?_⟩
    · obtain ⟨n, hn, e⟩ := r1_none text seen first
      exact ⟨n, by omega, e⟩
    · have : text.toList.drop text.size = [] := by simp
      rw [this]; rfl
  | k + 1, s, h => by
    have hs : s < text.size := by omega
    by_cases hd : dotAt text s
    · refine ⟨some (s, s + 1), fun seen first => ⟨5, by omega, r1_hit hd seen first⟩, Nat.le_refl _, rfl, hs, ?_⟩
      rw [drop_cons hs, Nat.sub_self, List.take_zero, hd.2.1, hd.2.2, begAt_succ, hd.2.2]
      rfl
    · obtain ⟨r, H, C⟩ := scan1 text k (s + 1) (by omega)
      have hstep : dots (begAt text s) (text.toList.drop s) = text.getD s 0 :: dots (begAt text (s + 1)) (text.toList.drop (s + 1)) := by
        rw [drop_cons hs, begAt_succ]
        show (if begAt text s = true ∧ text.getD s 0 = 46 then _ else _) = _
        rw [if_neg fun q => hd ⟨hs, q.1, q.2⟩]
      refine ⟨r, fun seen first => ?_, ?_⟩
      · obtain ⟨n, hn, e⟩ := r1_skip hs hd H seen first
        exact ⟨n, by omega, e⟩
      · cases r with
        | none =>
          show dots _ _ = _
          rw [hstep, drop_cons hs]
          have C' : dots (begAt text (s + 1)) (text.toList.drop (s + 1)) = text.toList.drop (s + 1) := C
          rw [C']
        | some p =>
          obtain ⟨a, b⟩ := p
          obtain ⟨c1, c2, c3, c4⟩ := C
          refine ⟨by omega, c2, c3, ?_⟩
          rw [hstep, c4, drop_cons hs]
          have : a - s = (a - (s + 1)) + 1 := by omega
          rw [this, List.take_succ_cons]
          rfl

abbrev dd : Str := Str.ofString ".."
theorem sub1 (text : Array Nat) (hz : text.size ≤ 16777216) : ∀ (k s : Nat), text.size - s ≤ k → s ≤ text.size → ∃ pieces, SubRun code1 text dd s pieces ∧ cat pieces = dots (begAt text s) (text.toList.drop s) ∧ pieces.length ≤ 2 * (text.size - s) + 1
  | k, s, hk, hs => by
    rcases Nat.lt_or_ge s text.size with q | q
    · obtain ⟨r, H, C⟩ := scan1 text (text.size - s) s (by omega)
      obtain ⟨n, hn, e⟩ := H (({} : Sre.Seen).add 14) true
      have hf := finds1 q (Nat.le_trans hn (by omega)) e
      cases r with
      | none =>
        have C' : dots (begAt text s) (text.toList.drop s) = text.toList.drop s := C
        refine ⟨_, .last hf, ?_, ?_⟩
        · rw [if_pos q, C']
          simp only [cat, List.flatMap_cons, List.flatMap_nil, List.append_nil]
          rw [extract_list, List.take_of_length_le (by simp)]
        · rw [if_pos q]; simp
      | some p =>
        obtain ⟨a, b⟩ := p
        obtain ⟨c1, rfl, c3, c4⟩ := C
        cases k with
        | zero => omega
        | succ k =>
          obtain ⟨rest, R, E1, E2⟩ := sub1 text hz k (a + 1) (by omega) (by omega)
          refine ⟨_, .more hf c1 (Nat.lt_succ_self _) R, ?_, ?_⟩
          · rw [c4]
            have e46 : (Str.ofString "..").cps.toList = [46, 46] := by decide
            by_cases hsa : s < a
            · rw [if_pos hsa]
              simp only [cat, List.flatMap_append, List.flatMap_cons, List.flatMap_nil, List.append_nil] at *
              rw [extract_list, E1, e46]
              rfl
            · rw [if_neg hsa]
              have : a - s = 0 := by omega
              simp only [cat, List.nil_append, List.flatMap_cons] at *
              rw [E1, e46, this]
              rfl
          · by_cases hsa : s < a
            · rw [if_pos hsa]; simp only [List.length_append, List.length_cons, List.length_nil]; omega
            · rw [if_neg hsa]; simp only [List.nil_append, List.length_cons]; omega
    · have : s = text.size := by omega
      subst this
      refine ⟨_, .last (finds1_end text), ?_, ?_⟩
      · rw [if_neg (Nat.lt_irrefl _)]
        have : text.toList.drop text.size = [] := by simp
        rw [this]; rfl
      · rw [if_neg (Nat.lt_irrefl _)]; exact Nat.zero_le _
end Mine

open PySem PySem.W PyProof.Rows PySem.Spec PySem.Calls
set_option maxRecDepth 100000
set_option maxHeartbeats 8000000
namespace Mine
open Builtin Builtin.Re Builtin.Str
abbrev code2 : Array Nat := #[14, 9, 4, 1, 2, 16, 10, 16, 13, 0, 7, 7, 16, 13, 16, 10, 15, 18, 5, 16, 10, 15, 13, 11, 16, 13, 5, 5, 0, 16, 10, 1, 15, 2, 0, 1]
/-- the machine as it tries the line ends' pattern at s -/
def att2 (text : Array Nat) (s : Nat) (seen : Sre.Seen) (first : Bool) : Sre.M :=
  { code := code2, text := text, lim := text.size, start := s, lastStart := text.size, pc := 10, pos := s, handed := s, outermost := first, marks := #[], frames := [{ wait := .nextStart, pc := 10, pos := s, outermost := first }], weight := 1, seen := seen }
abbrev isEnd (c : Nat) : Prop := c = 10 ∨ c = 13
theorem inset2 (c : Nat) (seen : Sre.Seen) : (isEnd c → ∃ seen', Sre.inSet code2 c 36 5 true seen = .ok (true, seen')) ∧ (¬ isEnd c → ∃ seen', Sre.inSet code2 c 36 5 true seen = .ok (false, seen')) := by
  have e : Sre.inSet code2 c 36 5 true seen = (if (c == 10) = true then .ok (true, seen.add 16) else if (c == 13) = true then .ok (true, (seen.add 16).add 16) else .ok (false, ((seen.add 16).add 16).add 0)) := rfl
  rw [e]
  constructor
  · rintro (h | h)
    · subst h; exact ⟨_, rfl⟩
    · subst h; exact ⟨_, rfl⟩
  · intro h
    have h1 : ¬ (c == 10) = true := fun q => h (.inl (beq_iff_eq.mp q))
    have h2 : ¬ (c == 13) = true := fun q => h (.inr (beq_iff_eq.mp q))
    rw [if_neg h1, if_neg h2]
    exact ⟨_, rfl⟩
/-- the first line end from s on -/
def next2 (text : Array Nat) : Nat → Nat → Option Nat
  | 0, _ => none
  | k + 1, s => if isEnd (text.getD s 0) then some s else next2 text k (s + 1)
theorem admitted2 (m : Sre.M) (hm : m.code = code2) (hl : m.lim = m.text.size) : ∀ (k s : Nat) (seen : Sre.Seen), s + k = m.text.size → ∃ seen', Sre.M.admitted m (k + 1) s seen = .ok (next2 m.text k s, seen')
  | 0, s, seen, h => by
    unfold Sre.M.admitted
    rw [if_pos (by omega)]
    exact ⟨_, rfl⟩
  | k + 1, s, seen, h => by
    unfold Sre.M.admitted
    rw [if_neg (by omega), hm]
    have e36 : code2.size = 36 := rfl
    rw [e36]
    unfold next2
    by_cases q : isEnd (m.text.getD s 0)
    · obtain ⟨seen', e⟩ := (inset2 (m.text.getD s 0) seen).1 q
      rw [e, if_pos q]
      exact ⟨_, rfl⟩
    · obtain ⟨seen', e⟩ := (inset2 (m.text.getD s 0) seen).2 q
      rw [e, if_neg q]
      exact admitted2 m hm hl k (s + 1) seen' (by omega)
def mk2 (text : Array Nat) (s pc pos handed : Nat) (om : Bool) (frames : List Sre.Frame) (weight : Nat) (seen : Sre.Seen) (ans : Option Bool) : Sre.M :=
  { code := code2, text := text, lim := text.size, start := s, lastStart := text.size, pc := pc, pos := pos, handed := handed, outermost := om, marks := #[], frames := frames, weight := weight, seen := seen, answer := ans }
abbrev fS (s : Nat) (om : Bool) : Sre.Frame := { wait := .nextStart, pc := 10, pos := s, outermost := om }
abbrev fB (p s : Nat) (om : Bool) : Sre.Frame := { wait := .nextBranch, pc := p, pos := s, outermost := om }
abbrev fN (s : Nat) (om : Bool) : Sre.Frame := { wait := .lookNot, pc := 26, pos := s, outermost := om }
theorem lit2 (text : Array Nat) (s p v pos handed : Nat) (om : Bool) (frames : List Sre.Frame) (weight : Nat) (seen : Sre.Seen) (hp : (p = 12 ∧ v = 13) ∨ (p = 14 ∧ v = 10) ∨ (p = 19 ∧ v = 10) ∨ (p = 24 ∧ v = 13) ∨ (p = 29 ∧ v = 10)) :
    (mk2 text s p pos handed om frames weight seen none).step = (if pos < text.size ∧ text.getD pos 0 = v then mk2 text s (p + 2) (pos + 1) handed om frames weight (seen.add 16) none else mk2 text s p pos handed om frames weight (seen.add 16) (some false)) := by
  have key : ∀ (p v : Nat), (mk2 text s p pos handed om frames weight seen none).step = (if pos ≥ text.size then mk2 text s p pos handed om frames weight (seen.add 16) (some false) else
      (match Sre.accepts code2 p (text.getD pos 0) (seen.add 16) with
      | .error why => (mk2 text s p pos handed om frames weight (seen.add 16) none).stick why
      | .ok (false, seen) => mk2 text s p pos handed om frames weight seen (some false)
      | .ok (true, seen) => mk2 text s (p + 2) (pos + 1) handed om frames weight seen none)) → Sre.accepts code2 p (text.getD pos 0) (seen.add 16) = .ok (text.getD pos 0 == v, seen.add 16) →
      (mk2 text s p pos handed om frames weight seen none).step = (if pos < text.size ∧ text.getD pos 0 = v then mk2 text s (p + 2) (pos + 1) handed om frames weight (seen.add 16) none else mk2 text s p pos handed om frames weight (seen.add 16) (some false)) := by
    intro p v h1 h2
    rw [h1, h2]
    by_cases hs : pos ≥ text.size
    · rw [if_pos hs, if_neg (fun q => absurd q.1 (Nat.not_lt.mpr hs))]
    · rw [if_neg hs]
      by_cases q : text.getD pos 0 = v
      · rw [if_pos ⟨Nat.lt_of_not_le hs, q⟩, beq_iff_eq.mpr q]
      · rw [if_neg (fun z => q z.2), beq_false_of_ne q]
  rcases hp with ⟨rfl, rfl⟩ | ⟨rfl, rfl⟩ | ⟨rfl, rfl⟩ | ⟨rfl, rfl⟩ | ⟨rfl, rfl⟩
  · exact key 12 13 rfl rfl
  · exact key 14 10 rfl rfl
  · exact key 19 10 rfl rfl
  · exact key 24 13 rfl rfl
  · exact key 29 10 rfl rfl
theorem tail2 (text : Array Nat) (s p pos hd : Nat) (om : Bool) (seen : Sre.Seen) : Ends (mk2 text s 35 pos hd om [fB p s om, fS s om] 2 seen none) 4 (some (s, pos)) := by
  cases om <;> exact ⟨by kernel_rfl, by kernel_rfl, by kernel_rfl⟩
theorem hit2A {text : Array Nat} {s : Nat} (h1 : s + 1 < text.size) (h2 : text.getD s 0 = 13) (h3 : text.getD (s + 1) 0 = 10) (seen : Sre.Seen) (om : Bool) : Ends (att2 text s seen om) 8 (some (s, s + 2)) := by
  refine .step rfl ?_
  show Ends (mk2 text s 12 s s om [fB 11 s om, fS s om] 2 _ none) _ _
  refine .step rfl ?_
  rw [lit2 _ _ 12 13 _ _ _ _ _ _ (by simp), if_pos ⟨by omega, h2⟩]
  refine .step rfl ?_
  rw [lit2 _ _ 14 10 _ _ _ _ _ _ (by simp), if_pos ⟨h1, h3⟩]
  refine .step rfl ?_
  exact tail2 ..
theorem hit2B {text : Array Nat} {s : Nat} (h1 : s < text.size) (h2 : text.getD s 0 = 10) (seen : Sre.Seen) (om : Bool) : Ends (att2 text s seen om) 9 (some (s, s + 1)) := by
  refine .step rfl ?_
  show Ends (mk2 text s 12 s s om [fB 11 s om, fS s om] 2 _ none) _ _
  refine .step rfl ?_
  rw [lit2 _ _ 12 13 _ _ _ _ _ _ (by simp), if_neg (by rw [h2]; simp)]
  refine .step rfl ?_
  show Ends (mk2 text s 19 s s om [fB 18 s om, fS s om] 2 _ none) _ _
  refine .step rfl ?_
  rw [lit2 _ _ 19 10 _ _ _ _ _ _ (by simp), if_pos ⟨h1, h2⟩]
  refine .step rfl ?_
  exact tail2 ..
theorem hit2C {text : Array Nat} {s : Nat} (h1 : s < text.size) (h2 : text.getD s 0 = 13) (h3 : ¬ (s + 1 < text.size ∧ text.getD (s + 1) 0 = 10)) (seen : Sre.Seen) (om : Bool) : Ends (att2 text s seen om) 15 (some (s, s + 1)) := by
  refine .step rfl ?_
  show Ends (mk2 text s 12 s s om [fB 11 s om, fS s om] 2 _ none) _ _
  refine .step rfl ?_
  rw [lit2 _ _ 12 13 _ _ _ _ _ _ (by simp), if_pos ⟨h1, h2⟩]
  refine .step rfl ?_
  rw [lit2 _ _ 14 10 _ _ _ _ _ _ (by simp), if_neg h3]
  refine .step rfl ?_
  show Ends (mk2 text s 19 s s om [fB 18 s om, fS s om] 2 _ none) _ _
  refine .step rfl ?_
  rw [lit2 _ _ 19 10 _ _ _ _ _ _ (by simp), if_neg (by rw [h2]; simp)]
  refine .step rfl ?_
  show Ends (mk2 text s 24 s s om [fB 23 s om, fS s om] 2 _ none) _ _
  refine .step rfl ?_
  rw [lit2 _ _ 24 13 _ _ _ _ _ _ (by simp), if_pos ⟨h1, h2⟩]
  refine .step rfl ?_
  show Ends (mk2 text s 29 (s + 1) (s + 1) false [fN (s + 1) om, fB 23 s om, fS s om] 3 _ none) _ _
  refine .step rfl ?_
  rw [lit2 _ _ 29 10 _ _ _ _ _ _ (by simp), if_neg h3]
  refine .step rfl ?_
  show Ends (mk2 text s 32 (s + 1) (s + 1) om [fB 23 s om, fS s om] 2 _ none) _ _
  refine .step rfl ?_
  exact tail2 ..
end Mine

open PySem PySem.W PyProof.Rows PySem.Spec PySem.Calls
set_option maxRecDepth 100000
set_option maxHeartbeats 8000000
namespace Mine
open Builtin Builtin.Re Builtin.Str
theorem next2_some {text : Array Nat} : ∀ {k s a : Nat}, s + k = text.size → next2 text k s = some a → s ≤ a ∧ a < text.size ∧ isEnd (text.getD a 0) ∧ ∀ i, s ≤ i → i < a → ¬ isEnd (text.getD i 0)
  | 0, s, a, _, e => by cases e
  | k + 1, s, a, h, e => by
    unfold next2 at e
    by_cases q : isEnd (text.getD s 0)
    · rw [if_pos q] at e
      cases e
      exact ⟨Nat.le_refl _, by omega, q, fun i h1 h2 => by omega⟩
    · rw [if_neg q] at e
      obtain ⟨h1, h2, h3, h4⟩ := next2_some (by omega) e
      refine ⟨by omega, h2, h3, fun i g1 g2 => ?_⟩
      rcases Nat.eq_or_lt_of_le g1 with rfl | g1
      · exact q
      · exact h4 i g1 g2
theorem next2_none {text : Array Nat} : ∀ {k s : Nat}, s + k = text.size → next2 text k s = none → ∀ i, s ≤ i → i < text.size → ¬ isEnd (text.getD i 0)
  | 0, s, h, _, i, h1, h2 => by omega
  | k + 1, s, h, e, i, h1, h2 => by
    unfold next2 at e
    by_cases q : isEnd (text.getD s 0)
    · rw [if_pos q] at e; cases e
    · rw [if_neg q] at e
      rcases Nat.eq_or_lt_of_le h1 with rfl | g1
      · exact q
      · exact next2_none (by omega) e i g1 h2
theorem search2 (text : Array Nat) (s : Nat) (hs : s < text.size) :
    (next2 text (text.size - s) s = none ∧ ∃ m, Sre.forSearch code2 text 0 s text.size false = m ∧ m.answer = some false ∧ m.frames = [] ∧ m.outcome = none) ∨
    (∃ a, next2 text (text.size - s) s = some a ∧ ∃ seen, Sre.forSearch code2 text 0 s text.size false = att2 text a seen true) := by
  let m0 : Sre.M := { code := code2, text := text, lim := text.size, start := s, lastStart := text.size, pc := 10, pos := s, handed := s, marks := #[], seen := ({} : Sre.Seen).add 14 }
  have q : Sre.forSearch code2 text 0 s text.size false = m0.attemptFrom s true := by
    show (if (decide (s > text.size) || decide (text.size - s < 1)) = true then _ else _) = _
    rw [if_neg (by simp; omega)]
    rfl
  have q2 : m0.attemptFrom s true = (match Sre.M.admitted m0 (text.size + 1 - s) s (({} : Sre.Seen).add 14) with
    | .ok (some a, seen) => att2 text a seen true
    | .ok (none, seen) => ({ m0 with seen } : Sre.M).say false
    | .error why => m0.stick why) := rfl
  obtain ⟨seen', e⟩ := admitted2 m0 rfl rfl (text.size - s) s (({} : Sre.Seen).add 14) (by show s + (text.size - s) = text.size; omega)
  have e1 : text.size + 1 - s = (text.size - s) + 1 := by omega
  rw [q, q2, e1, e]
  show (next2 text (text.size - s) s = none ∧ _) ∨ (∃ a, next2 text (text.size - s) s = some a ∧ _)
  have e2 : m0.text = text := rfl
  rw [e2]
  cases hn : next2 text (text.size - s) s with
  | none => exact .inl ⟨rfl, _, rfl, rfl, rfl, rfl⟩
  | some a => exact .inr ⟨a, rfl, _, rfl⟩
theorem finds_no {code text : Array Nat} {s : Nat} {m : Sre.M} (e : Sre.forSearch code text 0 s text.size false = m) (h1 : m.answer = some false) (h2 : m.frames = []) (h3 : m.outcome = none) : FindsAt code text s none := by
  refine ⟨1, by decide, ?_⟩
  rw [e]
  show (m.runFor 1).outcome = _
  rw [runFor_step h3]
  show (m.step).outcome = _
  unfold Sre.M.step
  rw [h3, h1, h2]
  rfl
theorem finds2_end (text : Array Nat) : FindsAt code2 text text.size none := by
  have q : ∃ m, Sre.forSearch code2 text 0 text.size text.size false = m ∧ m.answer = some false ∧ m.frames = [] ∧ m.outcome = none := by
    refine ⟨_, rfl, ?_⟩
    show (if (decide (text.size > text.size) || decide (text.size - text.size < 1)) = true then _ else _ : Sre.M).answer = _ ∧ (if (decide (text.size > text.size) || decide (text.size - text.size < 1)) = true then _ else _ : Sre.M).frames = _ ∧ (if (decide (text.size > text.size) || decide (text.size - text.size < 1)) = true then _ else _ : Sre.M).outcome = _
    rw [if_pos (by simp)]
    exact ⟨rfl, rfl, rfl⟩
  obtain ⟨m, e, h1, h2, h3⟩ := q
  exact finds_no e h1 h2 h3
/-- each line end becomes a return with a feed -/
def nl : List Nat → List Nat
  | [] => []
  | c :: r => if c = 10 then 13 :: 10 :: nl r else if c = 13 then (match r with
    | d :: r' => if d = 10 then 13 :: 10 :: nl r' else 13 :: 10 :: nl (d :: r')
    | [] => [13, 10]) else c :: nl r
theorem nl_cons (c : Nat) (r : List Nat) : nl (c :: r) = (if c = 10 then 13 :: 10 :: nl r else if c = 13 then (match r with
    | d :: r' => if d = 10 then 13 :: 10 :: nl r' else 13 :: 10 :: nl (d :: r')
    | [] => [13, 10]) else c :: nl r) := by rw [nl.eq_def]
theorem nl_free : ∀ {l : List Nat}, (∀ c ∈ l, ¬ isEnd c) → ∀ t, nl (l ++ t) = l ++ nl t
  | [], _, _ => rfl
  | c :: r, h, t => by
    have hc := h c (List.mem_cons_self ..)
    have h10 : ¬ c = 10 := fun q => hc (.inl q)
    have h13 : ¬ c = 13 := fun q => hc (.inr q)
    show nl (c :: (r ++ t)) = _
    rw [nl_cons, if_neg h10, if_neg h13, nl_free (fun d hd => h d (List.mem_cons_of_mem _ hd)) t]
    rfl
theorem free_of {text : Array Nat} {s a : Nat} (ha : a ≤ text.size) (h : ∀ i, s ≤ i → i < a → ¬ isEnd (text.getD i 0)) : ∀ c ∈ (text.toList.drop s).take (a - s), ¬ isEnd c := by
  intro c hc
  obtain ⟨i, hi, rfl⟩ := List.getElem_of_mem hc
  simp only [List.length_take, List.length_drop, Array.length_toList] at hi
  have := h (s + i) (by omega) (by omega)
  simp only [List.getElem_take, List.getElem_drop, Array.getElem_toList]
  have e : text.getD (s + i) 0 = text[s + i]'(by omega) := by
    rw [Array.getD_eq_getD_getElem?, Array.getElem?_eq_getElem (by omega)]; rfl
  rw [e] at this
  exact this
theorem cut_at {text : Array Nat} {s a : Nat} (h : s ≤ a) : text.toList.drop s = (text.toList.drop s).take (a - s) ++ text.toList.drop a := by
  have := (List.take_append_drop (a - s) (text.toList.drop s)).symm
  rw [List.drop_drop] at this
  have e : s + (a - s) = a := by omega
  rw [e] at this
  exact this
abbrev crlf : Str := ⟨#[13, 10]⟩
theorem sub2 (text : Array Nat) (hz : text.size ≤ 16777216) : ∀ (k s : Nat), text.size - s ≤ k → s ≤ text.size → ∃ pieces, SubRun code2 text crlf s pieces ∧ cat pieces = nl (text.toList.drop s) ∧ pieces.length ≤ 2 * (text.size - s) + 1
  | k, s, hk, hs => by
    rcases Nat.lt_or_ge s text.size with q | q
    · rcases search2 text s q with ⟨hn, m, e, h1, h2, h3⟩ | ⟨a, hn, seen, e⟩
      · have hf := finds_no e h1 h2 h3
        refine ⟨_, .last hf, ?_, ?_⟩
        · rw [if_pos q]
          simp only [cat, List.flatMap_cons, List.flatMap_nil, List.append_nil]
          rw [extract_list]
          have hfree := free_of (Nat.le_refl _) (next2_none (by omega) hn)
          have hall : (text.toList.drop s).take (text.size - s) = text.toList.drop s := List.take_of_length_le (by simp)
          rw [hall] at hfree ⊢
          have := nl_free hfree []
          rw [List.append_nil] at this
          rw [this]; simp [nl]
        · rw [if_pos q]; simp
      · obtain ⟨c1, c2, c3, c4⟩ := next2_some (by omega) hn
        have hfree := free_of (Nat.le_of_lt c2) c4
        cases k with
        | zero => omega
        | succ k =>
          have fin : ∀ b, a < b → b ≤ text.size → (∃ n, n ≤ 2 ^ 60 ∧ Ends (att2 text a seen true) n (some (a, b))) → nl (text.toList.drop a) = 13 :: 10 :: nl (text.toList.drop b) →
              ∃ pieces, SubRun code2 text crlf s pieces ∧ cat pieces = nl (text.toList.drop s) ∧ pieces.length ≤ 2 * (text.size - s) + 1 := by
            rintro b hab hb ⟨n, hn60, en⟩ hnl
            have hf : FindsAt code2 text s (some (a, b)) := ⟨n, hn60, by rw [e]; exact en⟩
            obtain ⟨rest, R, E1, E2⟩ := sub2 text hz k b (by omega) hb
            refine ⟨_, .more hf c1 hab R, ?_, ?_⟩
            · rw [cut_at c1, nl_free hfree, hnl]
              by_cases hsa : s < a
              · rw [if_pos hsa]
                simp only [cat, List.flatMap_append, List.flatMap_cons, List.flatMap_nil, List.append_nil] at *
                rw [extract_list, E1]
                rfl
              · rw [if_neg hsa]
                have : a - s = 0 := by omega
                simp only [cat, List.nil_append, List.flatMap_cons] at *
                rw [E1, this]
                rfl
            · by_cases hsa : s < a
              · rw [if_pos hsa]; simp only [List.length_append, List.length_cons, List.length_nil]; omega
              · rw [if_neg hsa]; simp only [List.nil_append, List.length_cons]; omega
          rw [← Nat.zero_add (text.getD a 0)] at c3
          rw [Nat.zero_add] at c3
          rcases c3 with h10 | h13
          · refine fin (a + 1) (Nat.lt_succ_self _) c2 ⟨9, by decide, hit2B c2 h10 seen true⟩ ?_
            rw [drop_cons c2, h10, nl_cons, if_pos rfl]
          · by_cases hnext : a + 1 < text.size ∧ text.getD (a + 1) 0 = 10
            · refine fin (a + 2) (by omega) (by omega) ⟨8, by decide, hit2A hnext.1 h13 hnext.2 seen true⟩ ?_
              rw [drop_cons c2, drop_cons hnext.1, h13, hnext.2, nl_cons, if_neg (by decide), if_pos rfl]
              show (if 10 = 10 then _ else _) = _
              rw [if_pos rfl]
            · refine fin (a + 1) (Nat.lt_succ_self _) c2 ⟨15, by decide, hit2C c2 h13 hnext seen true⟩ ?_
              rw [drop_cons c2, h13, nl_cons, if_neg (by decide), if_pos rfl]
              rcases Nat.lt_or_ge (a + 1) text.size with g | g
              · have h3 : ¬ text.getD (a + 1) 0 = 10 := fun z => hnext ⟨g, z⟩
                rw [drop_cons g]
                show (if text.getD (a + 1) 0 = 10 then _ else _) = _
                rw [if_neg h3]
              · have : text.toList.drop (a + 1) = [] := by simp; omega
                rw [this]; rfl
    · have : s = text.size := by omega
      subst this
      refine ⟨_, .last (finds2_end text), ?_, ?_⟩
      · rw [if_neg (Nat.lt_irrefl _)]
        have : text.toList.drop text.size = [] := by simp
        rw [this]; rfl
      · rw [if_neg (Nat.lt_irrefl _)]; exact Nat.zero_le _
theorem dots_len : ∀ (l : List Nat) (b : Bool), (dots b l).length ≤ 2 * l.length
  | [], _ => Nat.le_refl _
  | c :: r, b => by
    have := dots_len r (c == 10)
    rw [dots]
    split <;> simp only [List.length_cons] <;> omega
theorem nl_len : ∀ (l : List Nat), (nl l).length ≤ 2 * l.length
  | [] => Nat.le_refl _
  | [c] => by
    rw [nl_cons]
    split
    · exact Nat.le_refl 2
    · split
      · exact Nat.le_refl 2
      · exact Nat.le_succ 1
  | c :: d :: r => by
    have h1 := nl_len r
    have h2 := nl_len (d :: r)
    rw [nl_cons]
    simp only [List.length_cons] at *
    split
    · simp only [List.length_cons]; omega
    · split
      · split
        · simp only [List.length_cons]; omega
        · simp only [List.length_cons]; omega
      · simp only [List.length_cons]; omega
section
variable {prog : Program} {w : World} {A : Around} {E : Value → Shared → Prop} {s : Shared} {h₀ : Heap} {L : Addr} {m : PySem.Str → Option Value} {news : List (Addr × Obj)}
theorem call_dots {p : Addr} {x : Str} {t tr : Tok} {Q : Value → Shared → Prop} (F : Fr h₀ L s.heap m) (N : News h₀ L s.heap news) (P : PatAt s.heap p code1) (hx : x.length ≤ 8000000)
    (h : ∀ h' tk t', Fr h₀ L h' m → News h₀ L h' news → Q (.str ⟨(dots true x.cps.toList).toArray⟩ t') { s with heap := h', toks := tk }) :
    wpAny (model prog w) A (call (.builtin "re.Pattern.sub") [.ref p, .str (Str.ofString "..") tr, .str x t]) Q E s := by
  have hx' : x.cps.size ≤ 8000000 := hx
  obtain ⟨pieces, H, e, hl⟩ := sub1 x.cps (by omega) x.cps.size 0 (by omega) (Nat.zero_le _)
  have e' : cat pieces = dots true x.cps.toList := e
  have hz : lens pieces ≤ 16777216 := by
    rw [lens_cat, e']
    have := dots_len x.cps.toList true
    have e3 : x.cps.toList.length = x.cps.size := Array.length_toList
    omega
  refine call_sub_N F N P (by decide +kernel) H hz (by omega) (by omega) fun h' tk t' F' N' => ?_
  rw [glued_cat, e']
  exact h h' tk t' F' N'
theorem call_nl {p : Addr} {x : Str} {t tr : Tok} {Q : Value → Shared → Prop} (F : Fr h₀ L s.heap m) (N : News h₀ L s.heap news) (P : PatAt s.heap p code2) (hx : x.length ≤ 8000000)
    (h : ∀ h' tk t', Fr h₀ L h' m → News h₀ L h' news → Q (.str ⟨(nl x.cps.toList).toArray⟩ t') { s with heap := h', toks := tk }) :
    wpAny (model prog w) A (call (.builtin "re.Pattern.sub") [.ref p, .str ⟨#[13, 10]⟩ tr, .str x t]) Q E s := by
  have hx' : x.cps.size ≤ 8000000 := hx
  obtain ⟨pieces, H, e, hl⟩ := sub2 x.cps (by omega) x.cps.size 0 (by omega) (Nat.zero_le _)
  have e' : cat pieces = nl x.cps.toList := e
  have hz : lens pieces ≤ 16777216 := by
    rw [lens_cat, e']
    have := nl_len x.cps.toList
    have e3 : x.cps.toList.length = x.cps.size := Array.length_toList
    omega
  refine call_sub_N F N P (by decide +kernel) H hz (by omega) (by omega) fun h' tk t' F' N' => ?_
  rw [glued_cat, e']
  exact h h' tk t' F' N'
end
end Mine

open PySem PySem.W PyProof.Rows PySem.Spec PySem.Calls
set_option maxRecDepth 100000
set_option maxHeartbeats 8000000
namespace Mine
section
variable {prog : Program} {w : World} {A : Around} {E : Value → Shared → Prop} {s : Shared} {env : Env} {h₀ : Heap} {x : Str} {body : List Stmt} {Q : Flow → Shared → Prop}

/-- a turn's end: a state again -/
def TurnEnd {σ : Type} (h₀ : Heap) (L : Addr) (Led : σ → List (Addr × Obj)) (Ps : σ → List (Str × Value)) (Inv : σ → Prop) (I : Addr) (oI : Obj) (s₁ s₂ : Shared) : Prop :=
  ∃ (c : σ) (h' : Heap) (tk : Nat) (m' : Str → Option Value) (news' : List (Addr × Obj)), s₂ = { s₁ with heap := h', toks := tk } ∧ Fr h₀ L h' m' ∧ News h₀ L h' news' ∧ (∀ p ∈ Led c, p ∈ news') ∧ (I, oI) ∈ news' ∧ (∀ p ∈ Led c, p.1 ≠ I) ∧ (∀ p ∈ Ps c, m' p.1 = some p.2) ∧ Inv c
def TurnPost {σ : Type} (h₀ : Heap) (L : Addr) (Led : σ → List (Addr × Obj)) (Ps : σ → List (Str × Value)) (Inv : σ → Prop) (I : Addr) (oI : Obj) (s₁ : Shared) (Q : Flow → Shared → Prop) (f : Flow) (s₂ : Shared) : Prop :=
  match f with
  | .ret v => Q (.ret v) s₂
  | .brk => Q .next s₂
  | _ => TurnEnd h₀ L Led Ps Inv I oI s₁ s₂
theorem turn_end {σ : Type} {h₀ : Heap} {L : Addr} {Led : σ → List (Addr × Obj)} {Ps : σ → List (Str × Value)} {Inv : σ → Prop} {I : Addr} {oI : Obj} {s₁ : Shared} {h' : Heap} {tk : Nat} {m' : Str → Option Value} {news' : List (Addr × Obj)} (c : σ)
    (F : Fr h₀ L h' m') (N : News h₀ L h' news') (hn : ∀ p ∈ Led c, p ∈ news') (hI : (I, oI) ∈ news') (hne : ∀ p ∈ Led c, p.1 ≠ I) (hp : ∀ p ∈ Ps c, m' p.1 = some p.2) (hj : Inv c) :
    TurnEnd h₀ L Led Ps Inv I oI s₁ { s₁ with heap := h', toks := tk } := ⟨c, h', tk, m', news', rfl, F, N, hn, hI, hne, hp, hj⟩
theorem kstB_self {m : Str → Option Value} {ps : List (Str × Value)} (h : ∀ p ∈ ps, m p.1 = some p.2) : kstB m ps = m := funext fun _ => kstB_eq h fun _ => rfl

/-- a loop over what an iterator of one object gives, by states; what beside the iterator is walked stands in every state's ledger -/
theorem walk_state {σ : Type} {I : Addr} {oI : Nat → Obj → Prop} {fp : List Addr} {keep : List (Addr × Obj)} {n : Nat} {P : Nat → Value → Prop} {St : Nat → Heap → Prop} (Led : σ → List (Addr × Obj)) (Ps : σ → List (Str × Value)) (Inv : Nat → σ → Prop) (c₀ : σ) {m₀ : Str → Option Value}
    (W : Walks prog w A I fp [I] n P St) (hfp : ∀ b ∈ fp, b = I ∨ b ∈ keep.map (·.1)) (hIfp : I ∈ fp) (hsome : ∀ i h, St i h → ∃ o, h.get? I = some o) (hkeep : ∀ c, ∀ p ∈ keep, p ∈ Led c) (hIL : env.locals ≠ I) (hIn : h₀.get? I = none) (hst : St 0 s.heap)
    (hI : ∀ p ∈ Led c₀, p.1 ≠ I) (F : Fr h₀ env.locals s.heap m₀) (N : News h₀ env.locals s.heap (Led c₀)) (hp : ∀ p ∈ Ps c₀, m₀ p.1 = some p.2) (hj : Inv 0 c₀)
    (turn : ∀ (c : σ) i v (u : Str → Option Value) h tk oI, i < n → P i v → (∀ p ∈ Led c, p.1 ≠ I) → Inv i c → Fr h₀ env.locals h (fun y => if y = x then some v else kstB u (Ps c) y) → News h₀ env.locals h ((I, oI) :: Led c) →
      wpAny (model prog w) A (execs body env) (TurnPost h₀ env.locals Led Ps (Inv (i + 1)) I oI { s with heap := h, toks := tk } Q) E { s with heap := h, toks := tk })
    (done : ∀ (c : σ) (u : Str → Option Value) h tk, Inv n c → Fr h₀ env.locals h (kstB u (Ps c)) → News h₀ env.locals h (Led c) → Q .next { s with heap := h, toks := tk }) :
    LoopAtV prog w A h₀ env x body Q E (.ref I) s := by
  refine ⟨I, fp, [I], n, P, St, m₀, Led c₀, (fun i m nx => ∃ c, nx = Led c ∧ (∀ p ∈ Ps c, m p.1 = some p.2) ∧ Inv i c), rfl, W, fun hL => ?_, fun b hb => ?_, fun p hp hq => ?_, hst, F, N, ⟨c₀, rfl, hp, hj⟩, ?_, ?_⟩
  · rcases hfp _ hL with q | q
    · exact hIL q
    · obtain ⟨p, hp, e⟩ := List.mem_map.mp q
      exact (N p (hkeep _ p hp)).2.1 e
  · rw [List.mem_singleton.mp hb]; exact hIn
  · exact hI p hp (List.mem_singleton.mp hq)
  · rintro i v m₁ news₁ s₁ own ⟨hh, tk, rfl⟩ hin hP ⟨c, rfl, hps, hJ⟩ hoff hown hget hall hst' F₁ N₁
    have hne : ∀ p ∈ Led c, p.1 ≠ I := fun p hp q => hoff p hp (List.mem_singleton.mpr q)
    obtain ⟨o, ho⟩ := hsome _ _ hst'
    have hmine : (I, o) ∈ own := hall I hIfp hIn o ho
    have N₂ : News h₀ env.locals hh ((I, o) :: Led c) := fun p hp => by
      rcases List.mem_cons.mp hp with rfl | q
      · exact N₁ _ (List.mem_append.mpr (.inl hmine))
      · exact N₁ p (List.mem_append.mpr (.inr q))
    rw [← kstB_self hps] at F₁
    refine wpAny_mono (turn c i v m₁ hh tk o hin hP hne hJ F₁ N₂) (fun f s₂ q => ?_) fun _ _ e => e
    have fin : TurnEnd h₀ env.locals Led Ps (Inv (i + 1)) I o { s with heap := hh, toks := tk } s₂ →
        LoopStepU h₀ env.locals [I] own (fun m nx => ∃ c, nx = Led c ∧ (∀ p ∈ Ps c, m p.1 = some p.2) ∧ Inv (i + 1) c) { s with heap := hh, toks := tk } .next s₂ := by
      rintro ⟨c', h', tk', m', news', e, F', N', hn, ho', hne', hps', hJ'⟩
      refine ⟨rfl, h', tk', m', Led c', e, F', fun p hp => ?_, fun p hp hq => hne' p hp (List.mem_singleton.mp hq), ⟨c', rfl, hps', hJ'⟩⟩
      rcases List.mem_append.mp hp with q | q
      · rcases hfp _ (hown p q) with r | r
        · have g1 : hh.get? p.1 = some p.2 := hget p q
          rw [r, ho] at g1
          have : p = (I, o) := Prod.ext r (Option.some.inj g1).symm
          rw [this]; exact N' _ ho'
        · obtain ⟨p', hp', e'⟩ := List.mem_map.mp r
          have g1 : hh.get? p.1 = some p.2 := hget p q
          have g2 := (N₁ p' (List.mem_append.mpr (.inr (hkeep c p' hp')))).1
          have g3 : hh.get? p'.1 = some p'.2 := g2
          rw [e', g1] at g3
          have : p = p' := Prod.ext e'.symm (Option.some.inj g3)
          rw [this]; exact N' p' (hn p' (hkeep c' p' hp'))
      · exact N' p (hn p q)
    cases f with
    | ret v => exact .ret q
    | brk => exact .brk q
    | next => exact .next (fin q)
    | cont => exact .cont (fin q)
  · rintro h' tk m' news' F' N' _ ⟨c, rfl, hps, hJ⟩
    rw [← kstB_self hps] at F'
    exact done c m' h' tk hJ F' N'

/-- over a list that every state's ledger bears -/
theorem state_list {σ : Type} {l : Addr} {vs : List Value} {nn : Nat} {m₀ : Str → Option Value} (Led : σ → List (Addr × Obj)) (Ps : σ → List (Str × Value)) (Inv : Nat → σ → Prop) (c₀ : σ)
    (hh : A.handled = none) (hl : ∀ c, (l, ({ cls := .type "list", data := .seq vs.toArray nn } : Obj)) ∈ Led c) (F : Fr h₀ env.locals s.heap m₀) (N : News h₀ env.locals s.heap (Led c₀)) (hp : ∀ p ∈ Ps c₀, m₀ p.1 = some p.2) (hj : Inv 0 c₀)
    (turn : ∀ (c : σ) I i v (u : Str → Option Value) h tk oI, vs[i]? = some v → (∀ p ∈ Led c, p.1 ≠ I) → Inv i c → Fr h₀ env.locals h (fun y => if y = x then some v else kstB u (Ps c) y) → News h₀ env.locals h ((I, oI) :: Led c) →
      wpAny (model prog w) A (execs body env) (TurnPost h₀ env.locals Led Ps (Inv (i + 1)) I oI { s with heap := h, toks := tk } Q) E { s with heap := h, toks := tk })
    (done : ∀ (c : σ) (u : Str → Option Value) h tk, Inv vs.length c → Fr h₀ env.locals h (kstB u (Ps c)) → News h₀ env.locals h (Led c) → Q .next { s with heap := h, toks := tk }) :
    wpAny (model prog w) A (pyIter (.ref l)) (fun it s₂ => LoopAtV prog w A h₀ env x body Q E it s₂) E s := by
  have hol := (N _ (hl c₀)).1
  have hls : s.heap.IsList l vs.toArray := ⟨_, hol, rfl, nn, rfl⟩
  have hne : l ≠ s.heap.objs.size := Nat.ne_of_lt (Heap.lt_size hol)
  refine wpAny_pyIter_list hls ?_
  have W := Walks.list (prog := prog) (w := w) hh s.heap.objs.size l hne vs.toArray
  rw [List.size_toArray] at W
  refine walk_state (keep := [(l, ({ cls := .type "list", data := .seq vs.toArray nn } : Obj))]) (oI := fun _ _ => True) Led Ps Inv c₀ W ?_ (List.Mem.head _) ?_ ?_ (Nat.ne_of_lt F.ns.lt) (next_is_new F) ⟨⟨_, Heap.get?_push_size _ rfl, rfl, rfl⟩, hls.at fun o e => Heap.get?_push_of_some _ e⟩ ?_ (F.push _) (fun p hp => ⟨Heap.get?_push_of_some _ (N p hp).1, (N p hp).2⟩) hp hj ?_ done
  · intro b hb
    rcases List.mem_cons.mp hb with q | q
    · exact .inl q
    · exact .inr (by rw [List.mem_singleton.mp q]; exact List.mem_singleton.mpr rfl)
  · rintro i h ⟨⟨o, ho, _⟩, _⟩
    exact ⟨o, ho⟩
  · intro c p hp
    rw [List.mem_singleton.mp hp]; exact hl c
  · intro p hp q
    exact absurd (Heap.lt_size (N p hp).1) (by rw [q]; exact Nat.lt_irrefl _)
  · intro c i v u h tk oI hi hP hne hJ F₁ N₁
    exact turn c _ i v u h tk oI (by simpa using hP) hne hJ F₁ N₁

/-- over a range by ones -/
theorem state_range {σ : Type} {r : Addr} {a₀ b₀ : Int} {t₀ u₀ v₀ : Tok} {n : Nat} {m₀ : Str → Option Value} (Led : σ → List (Addr × Obj)) (Ps : σ → List (Str × Value)) (Inv : Nat → σ → Prop) (c₀ : σ)
    (hh : A.handled = none) (hr : IsRange s.heap r a₀ b₀ 1 t₀ u₀ v₀) (hsmall : Builtin.Range.small a₀ b₀ 1 = true) (hn : Builtin.Range.rangeSize a₀ b₀ 1 = (n : Int)) (F : Fr h₀ env.locals s.heap m₀) (N : News h₀ env.locals s.heap (Led c₀)) (hp : ∀ p ∈ Ps c₀, m₀ p.1 = some p.2) (hj : Inv 0 c₀)
    (turn : ∀ (c : σ) I (i : Nat) t (u : Str → Option Value) h tk oI, i < n → (∀ p ∈ Led c, p.1 ≠ I) → Inv i c → Fr h₀ env.locals h (fun y => if y = x then some (.int (a₀ + (i : Int)) t) else kstB u (Ps c) y) → News h₀ env.locals h ((I, oI) :: Led c) →
      wpAny (model prog w) A (execs body env) (TurnPost h₀ env.locals Led Ps (Inv (i + 1)) I oI { s with heap := h, toks := tk } Q) E { s with heap := h, toks := tk })
    (done : ∀ (c : σ) (u : Str → Option Value) h tk, Inv n c → Fr h₀ env.locals h (kstB u (Ps c)) → News h₀ env.locals h (Led c) → Q .next { s with heap := h, toks := tk }) :
    wpAny (model prog w) A (pyIter (.ref r)) (fun it s₂ => LoopAtV prog w A h₀ env x body Q E it s₂) E s := by
  refine wpAny_pyIter_range hr hsmall ?_
  have W : Walks prog w A s.heap.objs.size [s.heap.objs.size] [s.heap.objs.size] n (fun i v => ∃ t, v = .int (a₀ + i * 1) t)
      (fun i h => IsRangeIter h s.heap.objs.size (a₀ + (i : Nat) * 1) ((n : Int) - (i : Nat)) 1) := Walks.range hh _ a₀ 1 n
  refine walk_state (keep := []) (oI := fun _ _ => True) Led Ps Inv c₀ W ?_ (List.Mem.head _) ?_ ?_ (Nat.ne_of_lt F.ns.lt) (next_is_new F) (by show IsRangeIter _ _ _ _ _; rw [hn]; simpa using Heap.get?_push_size _ rfl) ?_ (F.push _) (fun p hp => ⟨Heap.get?_push_of_some _ (N p hp).1, (N p hp).2⟩) hp hj ?_ done
  · intro b hb
    exact .inl (List.mem_singleton.mp hb)
  · intro i h q
    exact ⟨_, q⟩
  · intro c p hp; cases hp
  · intro p hp q
    exact absurd (Heap.lt_size (N p hp).1) (by rw [q]; exact Nat.lt_irrefl _)
  · rintro c i v u h tk oI hi ⟨t, rfl⟩ hne hJ F₁ N₁
    have e1 : a₀ + (i : Int) * 1 = a₀ + (i : Int) := by omega
    rw [e1] at F₁
    exact turn c _ i t u h tk oI hi hne hJ F₁ N₁
end
end Mine

open PySem PySem.W PyProof.Rows PySem.Spec PySem.Calls
set_option maxRecDepth 100000
set_option maxHeartbeats 8000000
namespace Mine
section
variable {prog : Program} {w : World} {A₀ A : Around} {s : Shared} {base h₀ : Heap} {outer : List Env} {L : Addr} {m : Str → Option Value} {env : Env} {K : Frag} {p : Program} {loose : List Str} {mean : ExcName → Option Value} {mg mb : Str → Option Value}
  {R : Result → Shared → Prop} {name qual : Str} {params : Arguments} {body : List Stmt} {scope : Scope} {dV kV doc pm cdv ct oc : Value} {an od : Option Addr} {osl : Array (Option Value)} {f : Addr} {args : Args} {binds : List (Str × Value)}
/-- a def that is entered with nothing of the caller's in its ledger: all that stood before the call is its ground -/
theorem code_pure (B : Below A₀ base outer h₀) (F : Fr h₀ L s.heap m) (X₀ : K.In h₀) (T : Top p loose mean mg mb h₀) (hA : A.frames = some (env :: outer)) (hf : env.frame = some L) (hke : env.scope.kind = .function)
    (ho : K.lookup f = some ⟨oc, od, .func (fnOf name qual params body scope dV kV doc pm an cdv ct), osl⟩) (hcd : codeIn K cdv qual = true) (hroom : A.depth < recursionLimit)
    (hbind : BindsTo s (fnOf name qual params body scope dV kV doc pm an cdv ct) args binds) (hloc : ∀ y ∈ binds, scope.names.lookup y.1 = some .local)
    (h : ∀ L' h₁, Fr s.heap L' h₁ (fun y => binds.reverse.lookup y) → News s.heap L' h₁ [] → Below A base (env :: outer) s.heap → K.In s.heap → Top p loose mean mg mb s.heap →
      wpAny (model prog w) (A.deeper (envOf qual scope L' f cdv)) (execs body (envOf qual scope L' f cdv))
        (fun fl s' => LeaveK h₀ L m s.heap R (match fl with | .ret v => v | _ => .none) s')
        (fun e s' => wpAny (model prog w) (A.deeper (envOf qual scope L' f cdv)) (leaving (envOf qual scope L' f cdv) e) (fun _ s'' => R (.error e) s'') (fun e' s'' => R (.error e') s'') s')
        { s with heap := h₁, toks := s.toks + binds.length })
    (hco : scope.isCoroutine = false) (hgen : scope.isGenerator = false) (hk : scope.kind = .function)
    (hcell : ∀ x ∈ scope.names, x.2 ≠ .cell) : codeAny (model prog w) A (.call (.ref f) args) R s := by
  obtain ⟨_, BG, _, lv⟩ := groundX (R := R) B F News.nil hA hf hke
  have X := X₀.keeps F.keep
  refine codeAny_call_def (fd := fnOf name qual params body scope dV kV doc pm an cdv ct) (body := body) (binds := binds) hroom (X _ _ ho) rfl (T.nolimit.keeps F.keep) (codeRec_of X hcd) rfl hbind hcell hloc (fun h₁ hns hk₁ => ?_) hco hgen hk
  exact wpAny_mono (h s.heap.objs.size h₁ ⟨hns, hk₁, Nat.le_refl _⟩ News.nil BG X (T.keeps F.keep)) (fun fl s' hl => lv _ _ hl) fun _ _ y => y

theorem code_pureC (B : Below A₀ base outer h₀) (F : Fr h₀ L s.heap m) (X₀ : K.In h₀) (T : Top p loose mean mg mb h₀) (hA : A.frames = some (env :: outer)) (hf : env.frame = some L) (hke : env.scope.kind = .function)
    (ho : K.lookup f = some ⟨oc, od, .func (fnOf name qual params body scope dV kV doc pm an cdv ct), osl⟩) (hcd : codeIn K cdv qual = true) (hroom : A.depth < recursionLimit)
    (hbind : BindsTo s (fnOf name qual params body scope dV kV doc pm an cdv ct) args binds) (hkind : (binds.all fun y => scope.names.lookup y.1 == some .local || scope.names.lookup y.1 == some .cell) = true)
    (hnd : ((cellsFrom 0 scope.names []).map (·.1)).Nodup)
    (h : ∀ L' h₁ tk cells, Fr s.heap L' h₁ (bindL (envOfC qual scope L' f cdv).kindOf binds fun _ => none) → News s.heap L' h₁ cells →
      CellsAre (bindC (envOfC qual scope L' f cdv).kindOf binds fun _ => none) (cellsFrom (L' + 1) scope.names []) cells → Below A base (env :: outer) s.heap → K.In s.heap → Top p loose mean mg mb s.heap →
      wpAny (model prog w) (A.deeper (envOfC qual scope L' f cdv)) (execs body (envOfC qual scope L' f cdv))
        (fun fl s' => LeaveK h₀ L m s.heap R (match fl with | .ret v => v | _ => .none) s')
        (fun e s' => wpAny (model prog w) (A.deeper (envOfC qual scope L' f cdv)) (leaving (envOfC qual scope L' f cdv) e) (fun _ s'' => R (.error e) s'') (fun e' s'' => R (.error e') s'') s')
        { s with heap := h₁, toks := tk })
    (hco : scope.isCoroutine = false) (hgen : scope.isGenerator = false) (hk : scope.kind = .function) : codeAny (model prog w) A (.call (.ref f) args) R s := by
  obtain ⟨_, BG, _, lv⟩ := groundX (R := R) B F News.nil hA hf hke
  have X := X₀.keeps F.keep
  refine codeAny_call_function hroom (X _ _ ho) rfl hco hgen rfl (codeRec_of X hcd) (hbind _ _ _ _ ?_)
  refine wpAny_newFunctionEnv_cells hk (kindsX hkind _) fun env' he s' x => ?_
  subst he
  refine ⟨(T.nolimit.keeps F.keep).keeps x.toInCall.keep, codeAny_func ?_⟩
  obtain ⟨h₁, tk, rfl, _⟩ := x.done
  obtain ⟨cells, NC, Y⟩ := Cl.news (h₀ := s.heap) (Nat.le_refl _) fun n c hm => ⟨x.cell n c (lookup_of_mem_nodup (cellsFrom_names scope.names 0 (s.heap.objs.size + 1) [] [] rfl ▸ hnd) hm), x.above n c hm⟩
  exact wpAny_mono (h s.heap.objs.size h₁ tk cells ⟨x.toInCall.ns, x.toInCall.keep, Nat.le_refl _⟩ NC Y BG X (T.keeps F.keep)) (fun fl s' hl => lv _ _ hl) fun _ _ y => y
end
/-- what a call without a trace leaves: the frame's and the ledger's facts of the caller -/
theorem back_F {h₀ h h' : Heap} {L : Addr} {m : Str → Option Value} (F : Fr h₀ L h m) (k : ∀ b o, h.get? b = some o → h'.get? b = some o) : Fr h₀ L h' m := F.grownK k
theorem back_N {h₀ h h' : Heap} {L : Addr} {news : List (Addr × Obj)} (N : News h₀ L h news) (k : ∀ b o, h.get? b = some o → h'.get? b = some o) : News h₀ L h' news := N.grown k
/-- a thing that the call made, on the caller's ledger -/
theorem back_one {h₀ h h' : Heap} {L D : Addr} {o : Obj} {m : Str → Option Value} {news : List (Addr × Obj)} (F : Fr h₀ L h m) (N : News h₀ L h news) (k : ∀ b o, h.get? b = some o → h'.get? b = some o) (hD : h'.get? D = some o) (hn : h.get? D = none) :
    News h₀ L h' ((D, o) :: news) := by
  intro p hp
  rcases List.mem_cons.mp hp with rfl | hp
  · refine ⟨hD, fun q => ?_, ?_⟩
    · obtain ⟨oL, _, _, hL, _⟩ := F.ns
      have : h.get? D = some oL := by show h.get? (D, o).1 = _; rw [q]; exact hL
      rw [hn] at this; cases this
    · cases q : h₀.get? D with
      | none => rfl
      | some o' => rw [F.keep _ _ q] at hn; cases hn
  · exact back_N N k p hp
theorem back_ne {h₀ h : Heap} {L D : Addr} {news : List (Addr × Obj)} (N : News h₀ L h news) (hn : h.get? D = none) : ∀ p ∈ news, p.1 ≠ D := fun p hp q => by
  have := (N p hp).1
  rw [q, hn] at this; cases this
end Mine

open PySem PySem.W PyProof.Rows PySem.Spec PySem.Calls
set_option maxRecDepth 100000
set_option maxHeartbeats 8000000
namespace Mine
section
variable {prog : Program} {w : World} {A : Around} {E : Value → Shared → Prop} {s : Shared}
theorem isSame_float {a b : UInt64} {t u : Tok} {Q : Bool → Shared → Prop} (h0 : (t == 0 || u == 0) = false) (hb : NoneBooked s.heap) (hq : ∀ r, Q r s) : wpAny (model prog w) A (isSame (.float a t) (.float b u)) Q E s := by
  show wpAny _ A (isSame.created (a == b && !Float64.isNaN a) t u) Q E s
  unfold isSame.created
  refine wpAny_ite ?_
  split
  · rename_i h; rw [h0] at h; exact absurd h Bool.false_ne_true
  refine wpAny_ite ?_
  split
  · exact wpAny_pure (hq _)
  refine wpAny_ite ?_
  split
  · exact wpAny_pure (hq _)
  refine wpAny_bind (wpAny_sharingNotTold_none hb ?_)
  first | rw [if_neg Bool.false_ne_true] | simp only [Bool.false_eq_true, if_false]
  refine wpAny_bind (wpAny_sharingNotTold_none hb ?_)
  first | rw [if_neg Bool.false_ne_true] | simp only [Bool.false_eq_true, if_false]
  exact wpAny_bind (wpAny_rule (wpAny_bind (wpAny_askSetting (wpAny_pure (hq _)))))
/-- two equal floats, as the items of a list are compared -/
theorem eqAt_float {a b : UInt64} {t u : Tok} (h0 : (a = b ∧ t = u) ∨ (@Ne Nat t 0 ∧ @Ne Nat u 0)) (hc : (Float64.cmp a b == some Ordering.eq) = true) (hb : NoneBooked s.heap) : SeqAt.EqAt A s (.float a t) (.float b u) true := by
  intro prog w E Q hq
  unfold eqBool
  refine wpAny_holding ?_
  refine wpAny_ite ?_
  split
  · exact wpAny_bind (wpAny_rule (wpAny_pure hq))
  · rename_i hne
    have h1 : (t == 0 || u == 0) = false := by
      rcases h0 with ⟨rfl, rfl⟩ | ⟨h1, h2⟩
      · exact absurd (beq_self_eq_true _) hne
      · have h1' : ¬ t = 0 := h1
        have h2' : ¬ u = 0 := h2
        simp [h1', h2']
    refine wpAny_bind (isSame_float h1 hb fun r => ?_)
    cases r with
    | true => exact wpAny_pure hq
    | false =>
      simp only [Bool.false_eq_true, if_false]
      refine wpAny_bind ?_
      have g : wpAny (model prog w) A (compareOp .Eq (.float a t) (.float b u)) (fun v s' => wpAny (model prog w) A (truthOfDropped v) Q E s') E s := by
        refine AutoFloatOps.eq_0 ?_
        rw [hc]
        exact wpAny_pure hq
      exact g
theorem ne_tup3_same {D D' : Addr} {a b c a' b' c' : UInt64} {t1 t2 t3 u1 u2 u3 : Tok} {Q : Value → Shared → Prop} (hl : s.heap.get? D = some (tup3 a b c t1 t2 t3)) (hr : s.heap.get? D' = some (tup3 a' b' c' u1 u2 u3))
    (h1 : (a = a' ∧ t1 = u1) ∨ (@Ne Nat t1 0 ∧ @Ne Nat u1 0)) (h2 : (b = b' ∧ t2 = u2) ∨ (@Ne Nat t2 0 ∧ @Ne Nat u2 0)) (h3 : (c = c' ∧ t3 = u3) ∨ (@Ne Nat t3 0 ∧ @Ne Nat u3 0))
    (e1 : (Float64.cmp a a' == some Ordering.eq) = true) (e2 : (Float64.cmp b b' == some Ordering.eq) = true) (e3 : (Float64.cmp c c' == some Ordering.eq) = true)
    (hb : NoneBooked s.heap) (hu : A.units < cLine) (h : Q (.bool false) s) : wpAny (model prog w) A (compareOp .NotEq (.ref D) (.ref D')) Q E s := by
  have g := SeqAt.RcNeAt.tuples (e := fun _ => true) (l := D) (b := D') (A := A) (s := s) (items := #[.float a t1, .float b t2, .float c t3]) (items2 := #[.float a' u1, .float b' u2, .float c' u3]) ⟨_, hl, rfl, _, rfl⟩ ⟨_, hr, rfl, _, rfl⟩ hu (fun j i1 i2 => by
    match j, i1, i2 with
    | 0, _, _ => exact eqAt_float h1 e1 hb
    | 1, _, _ => exact eqAt_float h2 e2 hb
    | 2, _, _ => exact eqAt_float h3 e3 hb)
  exact g prog w E Q (by show Q (.bool (!((List.range 3).all (fun _ => true) && true))) s; exact h)
open Builtin in
theorem max3_T {a b c : UInt64} {t1 t2 t3 : Tok} {Q : Value → Shared → Prop} (hh : A.handled = none)
    (h : ∀ h' tk t', (∀ c o, s.heap.get? c = some o → h'.get? c = some o) → ((fgt b a = false ∧ fgt c a = false) → t' = t1) → Q (.float (max3F a b c) t') { s with heap := h', toks := tk }) :
    wpAny (model prog w) A (call (.builtin "max") [.float a t1, .float b t2, .float c t3]) Q E s := by
  refine call_max_n (Nat.le_succ 2) (by rw [sizeLine_eq]; exact (by decide : 3 ≤ 16777216)) (args_max3 _ _ _) (iter_tup_n fun s₂ hs hT => ?_)
  obtain ⟨h2, rfl, hsz, hk2⟩ := hs
  refine ⟨_, _, _, _, _, _, _, rfl, Walks.tuple (A := A.in1) hh _ s.heap.objs.size (Nat.ne_of_lt (Nat.lt_succ_self _)) _, hT, fun d hd => ?_, Nat.zero_lt_succ 2,
    cmp_fgt (fun i => [a, b, c].getD i 0) (fun i v hi => ?_), fun v h' tk hP hk => ?_⟩
  · exact two_lt hsz hd
  · match i with
    | 0 => exact ⟨t1, by simpa using hi.symm⟩
    | 1 => exact ⟨t2, by simpa using hi.symm⟩
    | 2 => exact ⟨t3, by simpa using hi.symm⟩
    | n + 3 => simp at hi
  · have hv : ∃ t', v = .float (max3F a b c) t' ∧ ((fgt b a = false ∧ fgt c a = false) → t' = t1) := by
      have hP2 : #[Value.float a t1, Value.float b t2, Value.float c t3][argBest (fun i j => fgt ([a, b, c].getD i 0) ([a, b, c].getD j 0)) 2]? = some v := hP
      unfold max3F max2F
      cases c1 : fgt b a with
      | true =>
        have e1 : argBest (fun i j => fgt ([a, b, c].getD i 0) ([a, b, c].getD j 0)) 1 = 1 := argBest_t _ _ c1
        simp only [if_true]
        cases c2 : fgt c b with
        | true =>
          rw [argBest_t _ 1 (by rw [e1]; exact c2)] at hP2
          exact ⟨t3, by simpa using hP2.symm, fun q => nomatch q.1⟩
        | false =>
          rw [argBest_f _ 1 (by rw [e1]; exact c2), e1] at hP2
          exact ⟨t2, by simpa using hP2.symm, fun q => nomatch q.1⟩
      | false =>
        have e1 : argBest (fun i j => fgt ([a, b, c].getD i 0) ([a, b, c].getD j 0)) 1 = 0 := argBest_f _ _ c1
        simp only [Bool.false_eq_true, if_false]
        cases c2 : fgt c a with
        | true =>
          rw [argBest_t _ 1 (by rw [e1]; exact c2)] at hP2
          exact ⟨t3, by simpa using hP2.symm, fun q => nomatch q.2⟩
        | false =>
          rw [argBest_f _ 1 (by rw [e1]; exact c2), e1] at hP2
          exact ⟨t1, by simpa using hP2.symm, fun _ => rfl⟩
    obtain ⟨t', rfl, ht⟩ := hv
    exact h h' tk t' (two_old hk2 hk) ht
variable {h₀ : Heap} {L : Addr} {m : Str → Option Value} {news : List (Addr × Obj)}
theorem max3_P {a b c : UInt64} {t1 t2 t3 : Tok} {Q : Value → Shared → Prop} (hp : 1 ≤ s.toks) (hh : A.handled = none) (F : Fr h₀ L s.heap m) (N : News h₀ L s.heap news)
    (h : ∀ h' tk t', Fr h₀ L h' m → News h₀ L h' news → ((fgt b a = false ∧ fgt c a = false) → t' = t1) → 1 ≤ tk → Q (.float (max3F a b c) t') { s with heap := h', toks := tk }) :
    wpAny (model prog w) A (call (.builtin "max") [.float a t1, .float b t2, .float c t3]) Q E s :=
  wpAny_with_toks hp (max3_T hh fun h' tk t' hk ht htk => h h' tk t' (F.grownK hk) (N.grown hk) ht htk) |> fun g => wpAny_mono g (fun _ _ q => q) (fun _ _ q => q)
theorem min3_P {a b c : UInt64} {t1 t2 t3 : Tok} {Q : Value → Shared → Prop} (hp : 1 ≤ s.toks) (hh : A.handled = none) (F : Fr h₀ L s.heap m) (N : News h₀ L s.heap news)
    (h : ∀ h' tk t', Fr h₀ L h' m → News h₀ L h' news → 1 ≤ tk → Q (.float (min3F a b c) t') { s with heap := h', toks := tk }) :
    wpAny (model prog w) A (call (.builtin "min") [.float a t1, .float b t2, .float c t3]) Q E s := by
  have hp' : 1 ≤ s.toks := hp
  refine wpAny_mono (wpAny_toks_of (n := 1) hp' (min3_N (E := E) (Q := fun v s' => ∃ h' tk t', v = .float (min3F a b c) t' ∧ s' = { s with heap := h', toks := tk } ∧ Fr h₀ L h' m ∧ News h₀ L h' news) hh F N fun h' tk t' F' N' => ⟨h', tk, t', rfl, rfl, F', N'⟩)) (fun v s' q => ?_) fun _ _ e => e.2
  obtain ⟨hk, h', tk, t', rfl, rfl, F', N'⟩ := q
  exact h h' tk t' F' N' hk
theorem max2_P {a b : UInt64} {t1 t2 : Tok} {Q : Value → Shared → Prop} (hp : 1 ≤ s.toks) (hh : A.handled = none) (F : Fr h₀ L s.heap m) (N : News h₀ L s.heap news)
    (h : ∀ h' tk t', Fr h₀ L h' m → News h₀ L h' news → 1 ≤ tk → Q (.float (max2F a b) t') { s with heap := h', toks := tk }) :
    wpAny (model prog w) A (call (.builtin "max") [.float a t1, .float b t2]) Q E s := by
  have hp' : 1 ≤ s.toks := hp
  refine wpAny_mono (wpAny_toks_of (n := 1) hp' (max2_N (E := E) (Q := fun v s' => ∃ h' tk t', v = .float (max2F a b) t' ∧ s' = { s with heap := h', toks := tk } ∧ Fr h₀ L h' m ∧ News h₀ L h' news) hh F N fun h' tk t' F' N' => ⟨h', tk, t', rfl, rfl, F', N'⟩)) (fun v s' q => ?_) fun _ _ e => e.2
  obtain ⟨hk, h', tk, t', rfl, rfl, F', N'⟩ := q
  exact h h' tk t' F' N' hk
theorem execs_gen {M : Model} {h : Heap} {g : Array GenState} {d : Drawn} {tk : Nat} {os : OsState} {b : List Stmt} {env : Env} {Q : Flow → Shared → Prop} (hp : 1 ≤ tk) (r : ∀ n, 1 ≤ n → wpAny M A (execs b env) Q E ⟨h, g, d, n, os⟩) : wpAny M A (execs b env) Q E ⟨h, g, d, tk, os⟩ := r tk hp
end
end Mine

open PySem PySem.W PyProof.Rows PySem.Spec PySem.Calls
set_option maxRecDepth 100000
set_option maxHeartbeats 8000000
namespace Mine
section
variable {prog : Program} {w : World} {A : Around} {E : Value → Shared → Prop} {s : Shared} {h₀ : Heap} {L : Addr} {m : Str → Option Value} {env : Env}
/-- where an element's evaluation ends when the ledger stays -/
def EltEnd (h₀ : Heap) (L : Addr) (m : Str → Option Value) (s : Shared) (led : List (Addr × Obj)) (G : Value → Prop) (y : Value) (s₂ : Shared) : Prop :=
  ∃ h' tk, s₂ = { s with heap := h', toks := tk } ∧ Fr h₀ L h' m ∧ News h₀ L h' led ∧ G y
theorem EltEnd.intro {led : List (Addr × Obj)} {G : Value → Prop} {y : Value} {h' : Heap} {tk : Nat} (F : Fr h₀ L h' m) (N : News h₀ L h' led) (g : G y) : EltEnd h₀ L m s led G y { s with heap := h', toks := tk } := ⟨h', tk, rfl, F, N, g⟩
/-- a comprehension's turns all at once: each element alone, the ledger unchanged -/
theorem comp_fold {elt : Expr} {x : Str} {scope : Scope} {cl : List (Str × Addr)} {S : List (Addr × Obj) → Prop} {P : Nat → Value → Prop} {Fin : List Value → List (Addr × Obj) → Prop} {news : List (Addr × Obj)} (G : Nat → Value → Prop) {n : Nat} (hS : S news)
    (turn : ∀ i v I oI C oC D m₂ ys h tk (E' : Value → Shared → Prop), i < n → P i v → LCg.NsObj oC m₂ → m₂ x = some v → Fr h₀ L h m → News h₀ L h ((I, oI) :: (C, oC) :: (D, LCg.lst ys) :: news) → LCg.Off3 I C D news → ((@Ne Nat I C) ∧ (@Ne Nat I D) ∧ (@Ne Nat C D)) →
      wpAny (model prog w) A (eval elt (compEnvC scope cl C env)) (EltEnd h₀ L m { s with heap := h, toks := tk } ((I, oI) :: (C, oC) :: (D, LCg.lst ys) :: news) (G i)) E' { s with heap := h, toks := tk })
    (done : ∀ ys : List Value, ys.length = n → (∀ i y, ys[i]? = some y → G i y) → Fin ys news) :
    LCg.CompRest prog w A h₀ L m env elt x scope cl s S P Fin n 0 [] news := by
  have all : ∀ k i (ys : List Value), i + k = n → ys.length = i → (∀ j y, ys[j]? = some y → G j y) → LCg.CompRest prog w A h₀ L m env elt x scope cl s S P Fin k i ys news := by
    intro k
    induction k with
    | zero => intro i ys hi hl hg; exact LCg.CompRest.zero (done ys (by omega) hg)
    | succ k ih =>
      intro i ys hi hl hg
      refine LCg.CompRest.succ fun v I oI C oC D m₂ h tk E' hP hC hx F N off ne => ?_
      refine wpAny_mono (turn i v I oI C oC D m₂ ys h tk E' (by omega) hP hC hx F N off ne) (fun y s₂ q => ?_) fun _ _ e => e
      obtain ⟨h', tk', rfl, F', N', g⟩ := q
      refine LCg.CompEnd.intro F' N' news (fun p hp => hp) off hS ?_
      refine ih (i + 1) (ys ++ [y]) (by omega) (by simp [hl]) fun j z hz => ?_
      rcases Nat.lt_or_ge j ys.length with q | q
      · rw [List.getElem?_append_left q] at hz; exact hg j z hz
      · rw [List.getElem?_append_right q] at hz
        have hj : j - ys.length = 0 := by
          rcases Nat.eq_zero_or_pos (j - ys.length) with e | e
          · exact e
          · obtain ⟨q', hq'⟩ : ∃ q', j - ys.length = q' + 1 := ⟨j - ys.length - 1, by omega⟩
            rw [hq'] at hz; simp at hz
        rw [hj] at hz
        have e1 : j = i := by omega
        have e2 : y = z := by simpa using hz
        rw [e1, ← e2]; exact g
  exact all n 0 [] (by omega) rfl (fun j y hy => by simp at hy)

/-- what a comprehension over bytes asks -/
def SrcB (prog : Program) (w : World) (A : Around) (h₀ : Heap) (L : Addr) (m : Str → Option Value) (env : Env) (elt : Expr) (x : Str) (scope : Scope) (cl : List (Str × Addr)) (Q : Value → Shared → Prop) (xv : Value) (s₁ : Shared) : Prop :=
  ∃ b t news, xv = .bytes b t ∧ A.handled = none ∧ Fr h₀ L s₁.heap m ∧ News h₀ L s₁.heap news ∧ b.size ≤ sizeLine ∧
    ∀ s₂ : Shared, (∃ h, s₂ = { s₁ with heap := h }) → LCg.CompRest prog w A h₀ L m env elt x scope cl s₂ (fun _ => True) (fun i v => ∃ c u, b[i]? = some c ∧ v = .int (c.toNat : Int) u) (LCg.FinE h₀ L m s₂ Q) b.size 0 [] news
theorem SrcB.intro {elt : Expr} {x : Str} {scope : Scope} {cl : List (Str × Addr)} {Q : Value → Shared → Prop} {b : Array UInt8} {t : Tok} {news : List (Addr × Obj)} {s₁ : Shared}
    (hh : A.handled = none) (F : Fr h₀ L s₁.heap m) (N : News h₀ L s₁.heap news) (hsz : b.size ≤ sizeLine)
    (h : ∀ g, LCg.CompRest prog w A h₀ L m env elt x scope cl { s₁ with heap := g } (fun _ => True) (fun i v => ∃ c u, b[i]? = some c ∧ v = .int (c.toNat : Int) u) (LCg.FinE h₀ L m { s₁ with heap := g } Q) b.size 0 [] news) :
    SrcB prog w A h₀ L m env elt x scope cl Q (.bytes b t) s₁ := ⟨b, t, news, rfl, hh, F, N, hsz, fun _ ⟨g, e⟩ => e ▸ h g⟩
theorem bytes_st {I : Addr} {b : Array UInt8} {t : Tok} : ∀ i (h h' : Heap) (o : Obj) (nw : List (Addr × Obj)), KBw.IsBytesIter h I b t i → h.get? I = some o → h'.get? I = some o → (∀ b o, h₀.get? b = some o → h'.get? b = some o) → News h₀ L h' nw → True → KBw.IsBytesIter h' I b t i :=
  fun i h h' o nw st e e' _ _ _ => by
    obtain ⟨o', q, r⟩ := st
    rw [e] at q; cases q
    exact ⟨o, e', r⟩
theorem ListComp_bytes {elt iter : Expr} {x : Str} {px : Pos} {scope : Scope} {cl : List (Str × Addr)} {pos : Pos} {Q : Value → Shared → Prop} (F₀ : Fr h₀ L s.heap m)
    (hclos : closureFor scope env = pure cl) (hcell : ∀ y ∈ scope.names, y.2 ≠ .cell) (hkind : scope.kind = .function)
    (hnames : ∀ y ∈ scope.names, y.2 = .local → scope.names.lookup y.1 = some .local) (hx : scope.names.lookup x = some .local)
    (h : wpAny (model prog w) A (eval iter env) (SrcB prog w A h₀ L m env elt x scope cl Q) E s)
    (hs : ∀ x, foldedSetIterable iter env x = pure x := by intro _; rfl) :
    wpAny (model prog w) A (eval (.ListComp elt [⟨.Name x px, iter, [], 0⟩] scope pos) env) Q E s := by
  rw [eval_ListComp]
  refine wpAny_comprehension_free (use := none) rfl hs hclos hkind hnames (wpAny_mono h (fun xv s₁ h₁ => ?_) fun _ _ e => e)
  obtain ⟨b, t, news, rfl, hh, F, N, hsz, R⟩ := h₁
  refine KBw.pyIter_bytes ?_
  refine LCg.block_U (KBw.walks hh s₁.heap.objs.size b t) hsz (fun i h st => by obtain ⟨o, e, _⟩ := st; exact ⟨o, e⟩) bytes_st hcell hkind hx (by exact ⟨_, Heap.get?_push_size _ rfl, rfl, rfl⟩) (fun b hb => ?_)
    (F.keeps fun _ _ e => Heap.get?_push_of_some _ e) (N.grown fun _ _ e => Heap.get?_push_of_some _ e) (Nat.ne_of_lt F.ns.lt) (next_is_new F) (fun p hp => Nat.ne_of_lt (Heap.lt_size (N p hp).1)) trivial (R _ ⟨_, rfl⟩) ?_
  · rw [List.mem_singleton.mp hb]
    show s₁.heap.objs.size < (s₁.heap.push _).objs.size
    rw [Heap.size_push]; exact Nat.lt_succ_self _
  · intro D C h tk m' ys news' F' N' o1 hn hC₀ hD₀ hCL hDL hCD offC fin
    refine ⟨m', hn, fun h'' hs'' => fin D h'' tk (F'.change hs'' hCL hC₀) (fun p hp => ?_) o1⟩
    refine ⟨hs''.extBut _ _ ?_ (N' p hp).1, (N' p hp).2⟩
    rcases List.mem_cons.mp hp with rfl | hp
    · exact Ne.symm hCD
    · exact offC p hp
/-- lists of texts compared -/
theorem carried_strs : ∀ {vs : List Value} {xs : List Str}, StrsAre vs xs → CarriedAll vs (xs.map PyData.str)
  | _, _, .nil => .nil
  | _, _, .cons _ t r => .cons (.str _ t) (carried_strs r)
theorem shaped_strs0 : ∀ xs : List Str, PyData.depthAll (xs.map PyData.str) = 0
  | [] => rfl
  | _ :: r => by simp [PyData.depthAll, PyData.depth, shaped_strs0 r]
theorem lay_strs : ∀ xs : List Str, (∀ x ∈ xs, PyData.strOk x = true) → PyData.canLayAll0 (xs.map PyData.str) = true
  | [], _ => rfl
  | x :: r, h => by simp [PyData.canLayAll0, PyData.canLay0, h x (.head _), lay_strs r fun y hy => h y (.tail _ hy)]
theorem same_strs : ∀ xs : List Str, PySem.Spec.sameAll (xs.map PyData.str) (xs.map PyData.str) = true
  | [] => by simp [PySem.Spec.sameAll]
  | x :: r => by simp [PySem.Spec.sameAll, PySem.Spec.same, same_strs r]
theorem ne_strs_same {a b : Addr} {xs ys : List Value} {ts : List Str} {Q : Value → Shared → Prop} (ha : s.heap.IsList a xs.toArray) (hb : s.heap.IsList b ys.toArray) (hi : CarriedAll xs (ts.map PyData.str)) (hj : CarriedAll ys (ts.map PyData.str)) (hok : ∀ x ∈ ts, PyData.strOk x = true)
    (hu : A.units + 64 < cLine) (h : Q (.bool false) s) : wpAny (model prog w) A (compareOp .NotEq (.ref a) (.ref b)) Q E s := by
  have sh : SeqAt.shaped (.list (ts.map PyData.str)) = true := by simp [SeqAt.shaped, PyData.canLay0, PyData.depth, lay_strs ts hok, shaped_strs0]
  exact ne_dataH_same (reads_newData ha hi) (reads_newData hb hj) sh sh hu (SeqAt.noMix_of_shape (.list .str) rfl _ _ (list_map_has fun _ => rfl) (list_map_has fun _ => rfl)) (by simp only [PySem.Spec.same]; rw [same_strs]; exact h)
end
end Mine

open PySem PySem.W PyProof.Rows PySem.Spec PySem.Calls
set_option maxRecDepth 100000
set_option maxHeartbeats 8000000
namespace Mine
abbrev lstQ (A : Array Value) (n : Nat) : Obj := { cls := .type "list", data := .seq A n }
section
variable {prog : Program} {w : World} {A : Around} {E : Value → Shared → Prop} {s : Shared} {h₀ : Heap} {L D : Addr} {m : Str → Option Value} {news news' : List (Addr × Obj)} {n : Nat} {k : Int} {t u : Tok}
theorem sub_lit {vs : List Value} {v : Value} {value slice : PySem.Expr} {Q : Value → Shared → Prop} (N : News h₀ L s.heap news) (hm : (D, lstQ vs.toArray n) ∈ news) (h0 : 0 ≤ k) (hhi : k < 2 ^ 63) (hx : vs[k.toNat]? = some v) (h : Q v s)
    (hs : subscripted slice false (.ref D) (.int k u) = operate [.ref D, .int k u] (getItem (.ref D) (.int k u)) := by with_unfolding_all rfl) : wpAny (model prog w) A (subscriptTail value slice (.ref D) (.int k u)) Q E s :=
  item_litK (vs := vs) (N.isList hm) h0 hhi hx h hs
theorem tup_lit {vs : List Value} {v : Value} {value slice : PySem.Expr} {j : Nat} {Q : Value → Shared → Prop} (N : News h₀ L s.heap news) (hm : (D, ({ cls := .type "tuple", data := .seq vs.toArray n } : Obj)) ∈ news) (h0 : -(2 ^ 63) ≤ k) (hhi : k < 2 ^ 63) (hj : seqIndex? k vs.length = some j) (hx : vs[j]? = some v) (h : Q v s)
    (hs : subscripted slice false (.ref D) (.int k u) = operate [.ref D, .int k u] (getItem (.ref D) (.int k u)) := by with_unfolding_all rfl) : wpAny (model prog w) A (subscriptTail value slice (.ref D) (.int k u)) Q E s :=
  item_tupleT (l := vs) (News.isTup N hm) h0 hhi hj hx h hs
theorem get_lit {vs : List Value} {v : Value} {Q : Value → Shared → Prop} (N : News h₀ L s.heap news) (hm : (D, lstQ vs.toArray n) ∈ news) (h0 : 0 ≤ k) (hhi : k < 2 ^ 63) (hx : vs[k.toNat]? = some v) (h : Q v s) : wpAny (model prog w) A (getItem (.ref D) (.int k u)) Q E s :=
  wpAny_getItem_list (N.isList hm) h0 hhi (by simpa using hx) h
theorem set_lit {items items' : Array Value} {v : Value} {Q : Unit → Shared → Prop} (F : Fr h₀ L s.heap m) (N : News h₀ L s.heap news) (U : Upd D (lstQ items n) (lstQ items' n) news news') (he : items.setIfInBounds k.toNat v = items') (h0 : 0 ≤ k) (h1 : k < items.size) (hfit : k < 2 ^ 63)
    (h : ∀ h', Fr h₀ L h' m → News h₀ L h' news' → Q () { s with heap := h' }) : wpAny (model prog w) A (setItem (.ref D) (.int k t) v) Q E s := by
  obtain ⟨pre, post, rfl, rfl, a, b⟩ := U.split
  have z := N (D, lstQ items n) (List.mem_append.mpr (.inr (.head _)))
  subst he
  refine ki_setAt z.1 h0 hfit h1 (h _ (F.change (Heap.SameBut.update ..) z.2.1 z.2.2) (ki_turn _ N a b ?_ ?_))
  · rfl
  · simp

/-- A[B][x] += P[x] where A[B] is a list of the ledger -/
theorem aug_cell {name : Str} {scope : Scope} {ad : Addr} {cd : Value} {a b x c : Str} {p1 p2 p3 p4 p5 p6 p7 p8 pos : Pos} {M T mj : Addr} {refs its tup : List Value} {nM nT nn : Nat} {pr j : Int} {tb tx t1 t2 : Tok} {f g : UInt64} {pre post : List (Addr × Obj)} {Q : Flow → Shared → Prop}
    (hk : scope.kind = .function) (ka : (envOf name scope L ad cd).kindOf a = some .local) (kb : (envOf name scope L ad cd).kindOf b = some .local) (kx : (envOf name scope L ad cd).kindOf x = some .local) (kc : (envOf name scope L ad cd).kindOf c = some .local)
    (da : (a == ("__debug__" : Str)) = false) (db : (b == ("__debug__" : Str)) = false) (dx : (x == ("__debug__" : Str)) = false) (dc : (c == ("__debug__" : Str)) = false)
    (F : Fr h₀ L s.heap m) (ha : m a = some (.ref M)) (hb : m b = some (.int pr tb)) (hx : m x = some (.int j tx)) (hc : m c = some (.ref T))
    (N : News h₀ L s.heap (pre ++ (mj, lstQ its.toArray nn) :: post)) (hM : (M, lstQ refs.toArray nM) ∈ pre ++ (mj, lstQ its.toArray nn) :: post) (hT : (T, ({ cls := .type "tuple", data := .seq tup.toArray nT } : Obj)) ∈ pre ++ (mj, lstQ its.toArray nn) :: post)
    (h0 : 0 ≤ pr) (h1 : pr < 2 ^ 63) (hr : refs[pr.toNat]? = some (.ref mj)) (j0 : 0 ≤ j) (j1 : j < 2 ^ 63) (hi : its[j.toNat]? = some (.float f t1)) (hs : seqIndex? j tup.length = some j.toNat) (ht : tup[j.toNat]? = some (.float g t2))
    (off : ∀ p ∈ pre, p.1 ≠ mj) (off' : ∀ p ∈ post, p.1 ≠ mj)
    (h : ∀ h' t tk, Fr h₀ L h' m → News h₀ L h' (pre ++ (mj, lstQ (its.set j.toNat (.float (Float64.add f g) t)).toArray nn) :: post) → Q .next { s with heap := h', toks := tk }) :
    wpAny (model prog w) A (exec (.AugAssign (.Subscript (.Subscript (.Name a p1) (.Name b p2) p3) (.Name x p4) p5) .Add (.Subscript (.Name c p6) (.Name x p7) p8) pos) (envOf name scope L ad cd)) Q E s := by
  refine wpAny_AugAssign_SubscriptAny ?_ (by intros; rfl)
  refine Subscript_ ?_
  refine ld F ha ?_ hk ka da
  refine ld F hb ?_ hk kb db
  refine sub_lit N hM h0 h1 hr ?_ (by with_unfolding_all rfl)
  refine ld F hx ?_ hk kx dx
  refine get_lit N (List.mem_append.mpr (.inr (.head _))) j0 j1 hi ?_
  refine Subscript_ ?_
  refine ld F hc ?_ hk kc dc
  refine ld F hx ?_ hk kx dx
  refine tup_lit N hT (by omega) j1 hs ht ?_ (by with_unfolding_all rfl)
  refine AutoFloatOps.iadd_0 ?_
  have hj : j < (its.length : Int) := by
    obtain ⟨q, _⟩ := List.getElem?_eq_some_iff.mp hi
    omega
  have U : ∀ t, Upd mj (lstQ its.toArray nn) (lstQ (its.set j.toNat (.float (Float64.add f g) t)).toArray nn) (pre ++ (mj, lstQ its.toArray nn) :: post) (pre ++ (mj, lstQ (its.set j.toNat (.float (Float64.add f g) t)).toArray nn) :: post) := by
    intro t
    clear hM hT N h
    induction pre with
    | nil => exact .head off'
    | cons p r ih => exact .tail (off p (.head _)) (ih fun q hq => off q (.tail _ hq))
  show wpAny _ _ (setItem (Value.ref mj) (Value.int j tx) (Value.float (Float64.add f g) s.toks)) _ _ _
  refine set_lit (s := { s with toks := s.toks + 1 }) F N (U s.toks) ?_ j0 (by simpa using hj) j1 fun h' F' N' => h h' s.toks _ F' N'
  simp
/-- the same, by the library's word for an entry that changes -/
theorem aug_cellU {name : Str} {scope : Scope} {ad : Addr} {cd : Value} {a b x c : Str} {p1 p2 p3 p4 p5 p6 p7 p8 pos : Pos} {M T mj : Addr} {refs its tup : List Value} {nM nT nn : Nat} {pr j : Int} {tb tx t1 t2 : Tok} {f g : UInt64} {gF : Obj → List (Addr × Obj)} {Q : Flow → Shared → Prop}
    (hk : scope.kind = .function) (ka : (envOf name scope L ad cd).kindOf a = some .local) (kb : (envOf name scope L ad cd).kindOf b = some .local) (kx : (envOf name scope L ad cd).kindOf x = some .local) (kc : (envOf name scope L ad cd).kindOf c = some .local)
    (da : (a == ("__debug__" : Str)) = false) (db : (b == ("__debug__" : Str)) = false) (dx : (x == ("__debug__" : Str)) = false) (dc : (c == ("__debug__" : Str)) = false)
    (F : Fr h₀ L s.heap m) (ha : m a = some (.ref M)) (hb : m b = some (.int pr tb)) (hx : m x = some (.int j tx)) (hc : m c = some (.ref T))
    (N : News h₀ L s.heap news) (hM : (M, lstQ refs.toArray nM) ∈ news) (hT : (T, ({ cls := .type "tuple", data := .seq tup.toArray nT } : Obj)) ∈ news)
    (h0 : 0 ≤ pr) (h1 : pr < 2 ^ 63) (hr : refs[pr.toNat]? = some (.ref mj)) (hm : (mj, lstQ its.toArray nn) ∈ news) (U : UpdF mj (lstQ its.toArray nn) news gF) (j0 : 0 ≤ j) (j1 : j < 2 ^ 63) (hi : its[j.toNat]? = some (.float f t1)) (hs : seqIndex? j tup.length = some j.toNat) (ht : tup[j.toNat]? = some (.float g t2))
    (h : ∀ h' t tk, Fr h₀ L h' m → News h₀ L h' (gF (lstQ (its.set j.toNat (.float (Float64.add f g) t)).toArray nn)) → Q .next { s with heap := h', toks := tk }) :
    wpAny (model prog w) A (exec (.AugAssign (.Subscript (.Subscript (.Name a p1) (.Name b p2) p3) (.Name x p4) p5) .Add (.Subscript (.Name c p6) (.Name x p7) p8) pos) (envOf name scope L ad cd)) Q E s := by
  obtain ⟨pre, post, e, e', off, off'⟩ := U.split
  subst e
  exact aug_cell hk ka kb kx kc da db dx dc F ha hb hx hc N hM hT h0 h1 hr j0 j1 hi hs ht off off' fun h' t tk F' N' => h h' t tk F' (by rw [e']; exact N')

theorem aug_c0 {name : Str} {scope : Scope} {ad : Addr} {cd : Value} {a b x c : Str} {p1 p2 p3 p4 p5 p6 p7 p8 pos : Pos} {M T mj : Addr} {refs tup : List Value} {nM nT nn : Nat} {pr j : Int} {tb tx t2 : Tok} {r0 r1 r2 g : UInt64} {r3 : Int} {u0 u1 u2 u3 : Tok} {gF : Obj → List (Addr × Obj)} {Q : Flow → Shared → Prop}
    (hk : scope.kind = .function) (ka : (envOf name scope L ad cd).kindOf a = some .local) (kb : (envOf name scope L ad cd).kindOf b = some .local) (kx : (envOf name scope L ad cd).kindOf x = some .local) (kc : (envOf name scope L ad cd).kindOf c = some .local)
    (da : (a == ("__debug__" : Str)) = false) (db : (b == ("__debug__" : Str)) = false) (dx : (x == ("__debug__" : Str)) = false) (dc : (c == ("__debug__" : Str)) = false)
    (F : Fr h₀ L s.heap m) (ha : m a = some (.ref M)) (hb : m b = some (.int pr tb)) (hx : m x = some (.int j tx)) (hc : m c = some (.ref T))
    (N : News h₀ L s.heap news) (hM : (M, lstQ refs.toArray nM) ∈ news)
    (h0 : 0 ≤ pr) (h1 : pr < 2 ^ 63) (hr : refs[pr.toNat]? = some (.ref mj)) (hm : (mj, lstQ #[.float r0 u0, .float r1 u1, .float r2 u2, .int r3 u3] nn) ∈ news) (U : UpdF mj (lstQ #[.float r0 u0, .float r1 u1, .float r2 u2, .int r3 u3] nn) news gF)
    (hj : j = 0) (hT : (T, ({ cls := .type "tuple", data := .seq tup.toArray nT } : Obj)) ∈ news) (hs : seqIndex? 0 tup.length = some 0) (ht : tup[0]? = some (.float g t2))
    (h : ∀ h' t tk, Fr h₀ L h' m → News h₀ L h' (gF (lstQ #[.float (Float64.add r0 g) t, .float r1 u1, .float r2 u2, .int r3 u3] nn)) → Q .next { s with heap := h', toks := tk }) :
    wpAny (model prog w) A (exec (.AugAssign (.Subscript (.Subscript (.Name a p1) (.Name b p2) p3) (.Name x p4) p5) .Add (.Subscript (.Name c p6) (.Name x p7) p8) pos) (envOf name scope L ad cd)) Q E s := by
  subst hj
  exact aug_cellU (its := [.float r0 u0, .float r1 u1, .float r2 u2, .int r3 u3]) hk ka kb kx kc da db dx dc F ha hb hx hc N hM hT h0 h1 hr hm U (by decide) (by decide) rfl hs ht h
theorem aug_c1 {name : Str} {scope : Scope} {ad : Addr} {cd : Value} {a b x c : Str} {p1 p2 p3 p4 p5 p6 p7 p8 pos : Pos} {M T mj : Addr} {refs tup : List Value} {nM nT nn : Nat} {pr j : Int} {tb tx t2 : Tok} {r0 r1 r2 g : UInt64} {r3 : Int} {u0 u1 u2 u3 : Tok} {gF : Obj → List (Addr × Obj)} {Q : Flow → Shared → Prop}
    (hk : scope.kind = .function) (ka : (envOf name scope L ad cd).kindOf a = some .local) (kb : (envOf name scope L ad cd).kindOf b = some .local) (kx : (envOf name scope L ad cd).kindOf x = some .local) (kc : (envOf name scope L ad cd).kindOf c = some .local)
    (da : (a == ("__debug__" : Str)) = false) (db : (b == ("__debug__" : Str)) = false) (dx : (x == ("__debug__" : Str)) = false) (dc : (c == ("__debug__" : Str)) = false)
    (F : Fr h₀ L s.heap m) (ha : m a = some (.ref M)) (hb : m b = some (.int pr tb)) (hx : m x = some (.int j tx)) (hc : m c = some (.ref T))
    (N : News h₀ L s.heap news) (hM : (M, lstQ refs.toArray nM) ∈ news)
    (h0 : 0 ≤ pr) (h1 : pr < 2 ^ 63) (hr : refs[pr.toNat]? = some (.ref mj)) (hm : (mj, lstQ #[.float r0 u0, .float r1 u1, .float r2 u2, .int r3 u3] nn) ∈ news) (U : UpdF mj (lstQ #[.float r0 u0, .float r1 u1, .float r2 u2, .int r3 u3] nn) news gF)
    (hj : j = 1) (hT : (T, ({ cls := .type "tuple", data := .seq tup.toArray nT } : Obj)) ∈ news) (hs : seqIndex? 1 tup.length = some 1) (ht : tup[1]? = some (.float g t2))
    (h : ∀ h' t tk, Fr h₀ L h' m → News h₀ L h' (gF (lstQ #[.float r0 u0, .float (Float64.add r1 g) t, .float r2 u2, .int r3 u3] nn)) → Q .next { s with heap := h', toks := tk }) :
    wpAny (model prog w) A (exec (.AugAssign (.Subscript (.Subscript (.Name a p1) (.Name b p2) p3) (.Name x p4) p5) .Add (.Subscript (.Name c p6) (.Name x p7) p8) pos) (envOf name scope L ad cd)) Q E s := by
  subst hj
  exact aug_cellU (its := [.float r0 u0, .float r1 u1, .float r2 u2, .int r3 u3]) hk ka kb kx kc da db dx dc F ha hb hx hc N hM hT h0 h1 hr hm U (by decide) (by decide) rfl hs ht h
theorem aug_c2 {name : Str} {scope : Scope} {ad : Addr} {cd : Value} {a b x c : Str} {p1 p2 p3 p4 p5 p6 p7 p8 pos : Pos} {M T mj : Addr} {refs tup : List Value} {nM nT nn : Nat} {pr j : Int} {tb tx t2 : Tok} {r0 r1 r2 g : UInt64} {r3 : Int} {u0 u1 u2 u3 : Tok} {gF : Obj → List (Addr × Obj)} {Q : Flow → Shared → Prop}
    (hk : scope.kind = .function) (ka : (envOf name scope L ad cd).kindOf a = some .local) (kb : (envOf name scope L ad cd).kindOf b = some .local) (kx : (envOf name scope L ad cd).kindOf x = some .local) (kc : (envOf name scope L ad cd).kindOf c = some .local)
    (da : (a == ("__debug__" : Str)) = false) (db : (b == ("__debug__" : Str)) = false) (dx : (x == ("__debug__" : Str)) = false) (dc : (c == ("__debug__" : Str)) = false)
    (F : Fr h₀ L s.heap m) (ha : m a = some (.ref M)) (hb : m b = some (.int pr tb)) (hx : m x = some (.int j tx)) (hc : m c = some (.ref T))
    (N : News h₀ L s.heap news) (hM : (M, lstQ refs.toArray nM) ∈ news)
    (h0 : 0 ≤ pr) (h1 : pr < 2 ^ 63) (hr : refs[pr.toNat]? = some (.ref mj)) (hm : (mj, lstQ #[.float r0 u0, .float r1 u1, .float r2 u2, .int r3 u3] nn) ∈ news) (U : UpdF mj (lstQ #[.float r0 u0, .float r1 u1, .float r2 u2, .int r3 u3] nn) news gF)
    (hj : j = 2) (hT : (T, ({ cls := .type "tuple", data := .seq tup.toArray nT } : Obj)) ∈ news) (hs : seqIndex? 2 tup.length = some 2) (ht : tup[2]? = some (.float g t2))
    (h : ∀ h' t tk, Fr h₀ L h' m → News h₀ L h' (gF (lstQ #[.float r0 u0, .float r1 u1, .float (Float64.add r2 g) t, .int r3 u3] nn)) → Q .next { s with heap := h', toks := tk }) :
    wpAny (model prog w) A (exec (.AugAssign (.Subscript (.Subscript (.Name a p1) (.Name b p2) p3) (.Name x p4) p5) .Add (.Subscript (.Name c p6) (.Name x p7) p8) pos) (envOf name scope L ad cd)) Q E s := by
  subst hj
  exact aug_cellU (its := [.float r0 u0, .float r1 u1, .float r2 u2, .int r3 u3]) hk ka kb kx kc da db dx dc F ha hb hx hc N hM hT h0 h1 hr hm U (by decide) (by decide) rfl hs ht h
/-- A[B][3] += 1 -/
theorem aug_one {name : Str} {scope : Scope} {ad : Addr} {cd : Value} {a b : Str} {p1 p2 p3 p4 p5 p6 pos : Pos} {M mj : Addr} {refs : List Value} {nM nn : Nat} {pr : Int} {tb : Tok} {r0 r1 r2 : UInt64} {r3 : Int} {u0 u1 u2 u3 : Tok} {gF : Obj → List (Addr × Obj)} {Q : Flow → Shared → Prop} {vl : Nat}
    (hk : scope.kind = .function) (ka : (envOf name scope L ad cd).kindOf a = some .local) (kb : (envOf name scope L ad cd).kindOf b = some .local) (da : (a == ("__debug__" : Str)) = false) (db : (b == ("__debug__" : Str)) = false) 
    (F : Fr h₀ L s.heap m) (ha : m a = some (.ref M)) (hb : m b = some (.int pr tb)) 
    (N : News h₀ L s.heap news) (hM : (M, lstQ refs.toArray nM) ∈ news)
    (h0 : 0 ≤ pr) (h1 : pr < 2 ^ 63) (hr : refs[pr.toNat]? = some (.ref mj)) (hm : (mj, lstQ #[.float r0 u0, .float r1 u1, .float r2 u2, .int r3 u3] nn) ∈ news) (U : UpdF mj (lstQ #[.float r0 u0, .float r1 u1, .float r2 u2, .int r3 u3] nn) news gF)
    (h : ∀ h' t tk, Fr h₀ L h' m → News h₀ L h' (gF (lstQ #[.float r0 u0, .float r1 u1, .float r2 u2, .int (r3 + 1) t] nn)) → Q .next { s with heap := h', toks := tk }) :
    wpAny (model prog w) A (exec (.AugAssign (.Subscript (.Subscript (.Name a p1) (.Name b p2) p3) (.Constant (.int 3) vl p4) p5) .Add (.Constant (.int 1) vl p6) pos) (envOf name scope L ad cd)) Q E s := by
  obtain ⟨pre, post, e, e', off, off'⟩ := U.split
  subst e
  refine wpAny_AugAssign_SubscriptAny ?_ (by intros; rfl)
  refine Subscript_ ?_
  refine ld F ha ?_ hk ka da
  refine ld F hb ?_ hk kb db
  refine sub_lit N hM h0 h1 hr ?_ (by with_unfolding_all rfl)
  refine wpAny_Constant_int ?_
  refine get_lit (vs := [.float r0 u0, .float r1 u1, .float r2 u2, .int r3 u3]) N (List.mem_append.mpr (.inr (.head _))) (by decide) (by decide) rfl ?_
  refine wpAny_Constant_int ?_
  refine AutoIntOps.iadd_0 ?_
  have U' : ∀ t, Upd mj (lstQ #[.float r0 u0, .float r1 u1, .float r2 u2, .int r3 u3] nn) (lstQ #[.float r0 u0, .float r1 u1, .float r2 u2, .int (r3 + 1) t] nn) (pre ++ (mj, lstQ #[.float r0 u0, .float r1 u1, .float r2 u2, .int r3 u3] nn) :: post) (pre ++ (mj, lstQ #[.float r0 u0, .float r1 u1, .float r2 u2, .int (r3 + 1) t] nn) :: post) := by
    intro t
    clear hM N h e' U hm
    induction pre with
    | nil => exact .head off'
    | cons p r ih => exact .tail (off p (.head _)) (ih fun q hq => off q (.tail _ hq))
  refine set_lit F N (U' _) rfl (by decide) (by show (3:Int) < 4; decide) (by decide) fun h' F' N' => h h' _ _ F' (by rw [e']; exact N')
end
end Mine

open PySem PySem.W PyProof.Rows PySem.Spec PySem.Calls
set_option maxRecDepth 100000
set_option maxHeartbeats 8000000
namespace Mine
section
variable {prog : Program} {w : World} {A : Around} {E : Value → Shared → Prop} {s : Shared} {h₀ : Heap} {L : Addr} {m : Str → Option Value} {news : List (Addr × Obj)} {env : Env}
theorem slice3_ints {value slice : PySem.Expr} {l : Addr} {vs : List Value} {ns : List Int} {vl vu vk : Value} {lo hi st : Option Int} {ops : List Value} {Q : Value → Shared → Prop} (F : Fr h₀ L s.heap m) (N : News h₀ L s.heap news) (hl : s.heap.IsList l vs.toArray) (hI : IntsAre vs ns) (pl : IsPart vl lo) (pu : IsPart vu hi) (pk : IsPart vk st) (h0 : st ≠ some 0) (hz : vs.length ≤ sizeLine)
    (h : ∀ D ws ks h', Fr h₀ L h' m → News h₀ L h' ((D, W.listOf ws.toArray 0) :: news) → (∀ p ∈ news, @Ne Nat p.1 D) → IntsAre ws ks → ws.length ≤ sizeLine → Q (.ref D) { s with heap := h' })
    (hs : subscripted slice false (.ref l) (.ref s.heap.objs.size) = operate ops (getItem (.ref l) (.ref s.heap.objs.size))) (ht : ∀ r, letTemporaryGo value (.ref l) r = pure ()) :
    wpAny (model prog w) A (subscriptTail value slice (.ref l) (.ref s.heap.objs.size)) Q E { s with heap := s.heap.push { cls := .type "slice", data := .fields #[vl, vu, vk] } } := by
  refine slice_list3 F N hl pl pu pk h0 (fun h' F' N' => h _ (slicePick vs.toArray lo hi st).toList _ h' F' ?_ (fun p hp => Nat.ne_of_lt (Nat.lt_succ_of_lt (Heap.lt_size (N p hp).1))) (hI.pick lo hi st) ?_) hs ht (by simpa using hz)
  · rw [Array.toArray_toList]; exact N'
  · have := slicePick_size_le vs.toArray lo hi st
    rw [Array.length_toList]
    exact Nat.le_trans this (by simpa using hz)
/-- a comprehension over a list of ints of the ledger -/
theorem CompSrc.ints {elt : Expr} {x : Str} {scope : Scope} {cl : List (Str × Addr)} {Q : Value → Shared → Prop} {ax : Addr} {vs : List Value} {ns : List Int} {k : Nat} {news : List (Addr × Obj)} {s₁ : Shared}
    (hh : A.handled = none) (F : Fr h₀ L s₁.heap m) (N : News h₀ L s₁.heap news) (hm : (ax, ({ cls := .type "list", data := .seq vs.toArray k } : Obj)) ∈ news) (hsz : vs.length ≤ sizeLine) (hI : IntsAre vs ns)
    (turn : ∀ (n : Int) (u : Tok) I oI C oC D m₂ ys h tk (E' : Value → Shared → Prop), LCg.NsObj oC m₂ → m₂ x = some (.int n u) → Fr h₀ L h m → News h₀ L h ((I, oI) :: (C, oC) :: (D, LCg.lst ys) :: news) → LCg.Off3 I C D news → ((@Ne Nat I C) ∧ (@Ne Nat I D) ∧ (@Ne Nat C D)) →
      wpAny (model prog w) A (eval elt (compEnvC scope cl C env)) (EltEnd h₀ L m { s₁ with heap := h, toks := tk } ((I, oI) :: (C, oC) :: (D, LCg.lst ys) :: news) (fun y => ∃ n t, 0 ≤ n ∧ y = .int n t)) E' { s₁ with heap := h, toks := tk })
    (done : ∀ D ys ks h tk, Fr h₀ L h m → News h₀ L h ((D, LCg.lst ys) :: news) → LCg.Off1 D news → IntsAre ys ks → 0 ≤ ks.sum → Q (.ref D) { s₁ with heap := h, toks := tk }) :
    LCg.CompSrc prog w A h₀ L m env elt x scope cl (fun s => LCg.FinE h₀ L m s Q) (.ref ax) s₁ := by
  refine LCg.CompSrc.ledger hh F N hm (by simpa using hsz) fun g => ?_
  refine comp_fold (fun _ y => ∃ n t, 0 ≤ n ∧ y = .int n t) (.inr ⟨_, hm, rfl, _, rfl⟩) ?_ ?_
  · intro i v I oI C oC D m₂ ys h tk E' hi hv hC hx F' N' off ne
    obtain ⟨n, t, rfl, hn⟩ := hI.at i v (by simpa using hv)
    exact turn n t I oI C oC D m₂ ys h tk E' hC hx F' N' off ne
  · intro ys hlen hG D h tk F' N' o1
    have : ∀ zs : List Value, (∀ y ∈ zs, ∃ n t, 0 ≤ n ∧ y = .int n t) → ∃ ks, IntsAre zs ks ∧ 0 ≤ ks.sum := by
      intro zs
      induction zs with
      | nil => intro _; exact ⟨[], .nil, by simp⟩
      | cons z r ih =>
        intro hz
        obtain ⟨n, t, h0, rfl⟩ := hz z (.head _)
        obtain ⟨ks, a, b⟩ := ih fun y hy => hz y (.tail _ hy)
        exact ⟨n :: ks, .cons _ t a, by simp only [List.sum_cons]; omega⟩
    obtain ⟨ks, a, b⟩ := this ys fun y hy => by
      obtain ⟨i, hi⟩ := List.getElem?_of_mem hy
      exact hG i y hi
    exact done D ys ks h tk F' N' o1 a b
end
end Mine

open PySem PySem.W PyProof.Rows PySem.Spec PySem.Calls
set_option maxRecDepth 100000
set_option maxHeartbeats 8000000
set_option linter.unusedVariables false
namespace Mine
local macro_rules | `(tactic| walk_at "call builtin:max") => `(tactic| ((with_reducible show wpAny _ _ (call (Value.builtin _) [Value.float _ _, Value.float _ _, Value.float _ _]) _ _ _); (rename News _ _ _ _ => N'); (with_unfolding_all apply max3_P); (case hp => first | assumption | (show (1:Nat) ≤ _; omega)); (case hh => with_unfolding_all rfl); (case N => exact N'); (case F => assumption); clear N'; intro _ _ _ _ _ _ _))
local macro_rules | `(tactic| walk_at "call builtin:min") => `(tactic| ((with_reducible show wpAny _ _ (call (Value.builtin _) [Value.float _ _, Value.float _ _, Value.float _ _]) _ _ _); (rename News _ _ _ _ => N'); (with_unfolding_all apply min3_P); (case hp => first | assumption | (show (1:Nat) ≤ _; omega)); (case hh => with_unfolding_all rfl); (case N => exact N'); (case F => assumption); clear N'; intro _ _ _ _ _ _))
local macro_rules | `(tactic| walk_at "call builtin:max") => `(tactic| ((with_reducible show wpAny _ _ (call (Value.builtin _) [Value.float _ _, Value.float _ _]) _ _ _); (rename News _ _ _ _ => N'); (with_unfolding_all apply max2_P); (case hp => first | assumption | (show (1:Nat) ≤ _; omega)); (case hh => with_unfolding_all rfl); (case N => exact N'); (case F => assumption); clear N'; intro _ _ _ _ _ _))
local macro_rules | `(tactic| walk_at "execs cons") => `(tactic| ((refine execs_gen (by first | assumption | (show (1:Nat) ≤ _; omega) | (simp only [List.length_cons, List.length_nil, List.length_append, List.length_map]; omega) | exact Nat.le_trans (by decide : (1:Nat) ≤ 3) (Nat.le_add_left 3 _)) ?_); intro tkP hkP; (with_reducible refine wpAny_execs_cons ?_); try dsimp only))
theorem rgb_call {r g b x y z : UInt64} {t1 t2 t3 : Tok} (hspec : rgbF r g b = some (x, y, z)) {w : World} {mean : ExcName → Option Value} {mg mb : Str → Option Value} {news : List (Addr × Obj)}
  {dp un : Nat} {gd : Option (List Code)} {cn : Str} {cs : Scope} {a : Addr} {ccd : Value} {cl : List (Str × Addr)} {outer : List Env} {A₀ : Around} {base h₀ : Heap} {L : Addr} {m : Str → Option Value} {s : Shared} {Q E : Value → Shared → Prop}
  (B : Below A₀ base outer h₀) (F : Fr h₀ L s.heap m) (X : (hd.heap_39 w.params).In h₀) (N : News h₀ L s.heap news)
  (T : Top Mine.hd.view_39 (looseW Mine.hd.view_39 [Str.ofString "_twin_re_1", Str.ofString "_twin_re_2"]) mean mg mb h₀) (hk : cs.kind = .function)
  (hd : dp + 1 < recursionLimit) (hu : un + 8 < cLine)
  (hret : ∀ D t1' t2' t3' h' tk', Fr h₀ L h' m → News h₀ L h' ((D, tup3 x y z t1' t2' t3') :: news) → (∀ p ∈ news, p.1 < D) → @Ne Nat t1' 0 → @Ne Nat t2' 0 → ((fgt g r = false ∧ fgt b r = false) → t3' = t1) → 1 ≤ tk' → Q (.ref D) { s with heap := h', toks := tk' }) :
  wpAny (model PySem.Challenge.rw_sn0006_01.row.prog w) (ktrTop dp un gd cn cs L a ccd cl outer) (call (.ref 38) [.float r t1, .float g t2, .float b t3]) Q E s := by
  w_top off
  k_with_none
  revert X; k_fill; intro X
  refine wpAny_call ?_
  k_dflt cell_enter
  k_steps
  all_goals simp only [rgbF, *, if_true, if_false, Bool.false_eq_true, reduceCtorEq, Option.some.injEq, Prod.mk.injEq] at hspec
  all_goals (obtain ⟨rfl, rfl, rfl⟩ := hspec; refine hret _ _ _ _ _ _ (by assumption) (by assumption) (by assumption) (by omega) (by omega) (by assumption) (by omega))
end Mine

open PySem PySem.W PyProof.Rows PySem.Spec PySem.Calls
set_option maxRecDepth 100000
set_option maxHeartbeats 8000000
set_option linter.unusedVariables false
namespace Mine
set_option exponentiation.threshold 2000
theorem hsv_call {hh hs hv x y z : UInt64} {t1 t2 t3 : Tok} (hspec : hsvF hh hs hv = some (x, y, z)) {w : World} {mean : ExcName → Option Value} {mg mb : Str → Option Value} {news : List (Addr × Obj)}
  {dp un : Nat} {gd : Option (List Code)} {cn : Str} {cs : Scope} {a : Addr} {ccd : Value} {cl : List (Str × Addr)} {outer : List Env} {A₀ : Around} {base h₀ : Heap} {L : Addr} {m : Str → Option Value} {s : Shared} {Q E : Value → Shared → Prop}
  (B : Below A₀ base outer h₀) (F : Fr h₀ L s.heap m) (X : (hd.heap_39 w.params).In h₀) (N : News h₀ L s.heap news)
  (T : Top Mine.hd.view_39 (looseW Mine.hd.view_39 [Str.ofString "_twin_re_1", Str.ofString "_twin_re_2"]) mean mg mb h₀) (hk : cs.kind = .function)
  (hd : dp + 1 < recursionLimit) (hu : un + 8 < cLine)
  (hret : ∀ D t1 t2 t3 h' tk', Fr h₀ L h' m → News h₀ L h' ((D, tup3 x y z t1 t2 t3) :: news) → (∀ p ∈ news, p.1 < D) → Q (.ref D) { s with heap := h', toks := tk' }) :
  wpAny (model PySem.Challenge.rw_sn0006_01.row.prog w) (ktrTop dp un gd cn cs L a ccd cl outer) (call (.ref 45) [.float hh t1, .float hs t2, .float hv t3]) Q E s := by
  w_top off
  k_with_none
  revert X; k_fill; intro X
  refine wpAny_call ?_
  k_dflt cell_enter
  k_steps
  all_goals (try (rename Float64.isNaN _ = true => hna; have hnf := nan_fin hna))
  all_goals (try (rename Float64.isInf _ = true => hin; have hnf := inf_fin hin))
  all_goals (try (rename _ < 2 ^ 1024 - 2 ^ 970 => hlt; have hnl := Nat.not_le_of_lt hlt))
  all_goals simp only [hsvF, *, if_true, if_false, Bool.false_eq_true, reduceCtorEq, Option.some.injEq, Prod.mk.injEq] at hspec
  all_goals (obtain ⟨rfl, rfl, rfl⟩ := hspec; exact hret _ _ _ _ _ _ (by assumption) (by assumption) (by assumption))
end Mine

open PySem PySem.W PyProof.Rows PySem.Spec PySem.Calls
set_option maxRecDepth 100000
set_option maxHeartbeats 8000000
set_option linter.unusedVariables false
namespace Mine

local macro_rules | `(tactic| walk_at "subscriptTail") => `(tactic| (k_here; (with_reducible show wpAny _ _ (subscriptTail _ (Expr.Slice _ _ none _) (Value.bytes _ _) (Value.ref _)) _ _ _); (with_reducible rename Fr _ _ _ _ => F'); (with_reducible rename News _ _ _ _ => N'); (refine bslice (s := ⟨_, _, _, _, _⟩) F' N' (by constructor) (by constructor) (by decide) ?_); intro _ _ _ _ _))
local macro_rules | `(tactic| walk_at "binaryOp Add bytes bytes") => `(tactic| (k_here; (with_reducible show wpAny _ _ (binaryOp Operator.Add (Value.bytes _ _) (Value.bytes _ _)) _ _ _); (rename IP _ _ _ => hIP'); (refine badd ?hsz ?_); (case hsz => (refine Nat.le_trans (Nat.add_le_add (KBc.size_picked_le _ _ _) (IP.sz hIP')) (by decide))); intro _ _))
theorem i2a_call {n : Int} {t1 : Tok} (hn : n.natAbs < 16 ^ 20) {w : World} {mean : ExcName → Option Value} {mg mb : Str → Option Value} {news : List (Addr × Obj)}
  {dp un : Nat} {gd : Option (List Code)} {cn : Str} {cs : Scope} {a : Addr} {ccd : Value} {cl : List (Str × Addr)} {outer : List Env} {A₀ : Around} {base h₀ : Heap} {L : Addr} {m : Str → Option Value} {s : Shared} {Q E : Value → Shared → Prop}
  (B : Below A₀ base outer h₀) (F : Fr h₀ L s.heap m) (X : (hd.heap_39 w.params).In h₀) (N : News h₀ L s.heap news)
  (T : Top Mine.hd.view_39 (looseW Mine.hd.view_39 [Str.ofString "_twin_re_1", Str.ofString "_twin_re_2"]) mean mg mb h₀) (hk : cs.kind = .function)
  (hd : dp + 1 < recursionLimit) (hu : un + 8 < cLine)
  (hret : ∀ t h' tk', Fr h₀ L h' m → News h₀ L h' news → Q (.bytes (apF n.natAbs []).toArray t) { s with heap := h', toks := tk' }) :
  wpAny (model PySem.Challenge.rw_sn0006_01.row.prog w) (ktrTop dp un gd cn cs L a ccd cl outer) (call (.ref 52) [.int n t1]) Q E s := by
  w_top off
  k_with_none
  revert X; k_fill; intro X
  refine wpAny_call ?_
  k_dflt cell_enter
  (k_with "state" => first | exact IP.start (by assumption) | (exact IP.step (by assumption) (by assumption)))
  (k_with "measure" => first | exact IP.less (by assumption) (by assumption))
  (k_with "exec While Name cons nil" => k_while (fun _ num val => IP n num val) (fun _ num _ => num.toNat) "num" "val")
  k_steps
  all_goals (rename IP _ _ _ => hI; rename (_ : Int) = 0 => h0; rw [IP.done hI h0]; exact hret _ _ _ (by assumption) (by assumption))
end Mine

open PySem PySem.W PyProof.Rows PySem.Spec PySem.Calls
set_option maxRecDepth 100000
set_option maxHeartbeats 8000000
set_option linter.unusedVariables false
namespace Mine

def numF (pre : List Int) : Int := pre.foldl (fun a c => 16 * a + c) 0
theorem numF_one (pre : List Int) (c : Int) : numF (pre ++ [c]) = 16 * numF pre + c := by simp [numF]
theorem num_call {x : Str} {t1 : Tok} {w : World} {mean : ExcName → Option Value} {mg mb : Str → Option Value} {news : List (Addr × Obj)}
  {dp un : Nat} {gd : Option (List Code)} {cn : Str} {cs : Scope} {a : Addr} {ccd : Value} {cl : List (Str × Addr)} {outer : List Env} {A₀ : Around} {base h₀ : Heap} {L : Addr} {m : Str → Option Value} {s : Shared} {Q E : Value → Shared → Prop}
  (B : Below A₀ base outer h₀) (F : Fr h₀ L s.heap m) (X : (hd.heap_39 w.params).In h₀) (N : News h₀ L s.heap news)
  (T : Top Mine.hd.view_39 (looseW Mine.hd.view_39 [Str.ofString "_twin_re_1", Str.ofString "_twin_re_2"]) mean mg mb h₀) (hk : cs.kind = .function)
  (hd : dp + 1 < recursionLimit) (hu : un + 8 < cLine)
  (hret : ∀ t h' tk', Fr h₀ L h' m → News h₀ L h' news → Q (.int (numF (x.cps.toList.map fun (c : Nat) => (c : Int))) t) { s with heap := h', toks := tk' }) :
  wpAny (model PySem.Challenge.rw_sn0006_01.row.prog w) (ktrTop dp un gd cn cs L a ccd cl outer) (call (.ref 83) [.str x t1]) Q E s := by
  w_top off
  k_with_none
  revert X; k_fill; intro X
  refine wpAny_call ?_
  k_dflt cell_enter
  (k_with "state" => first | rfl | (rw [numF_one]; omega))
  (k_with "pyIter str" => k_state (fun pre number => number = numF pre) "number")
  k_steps
  all_goals (rename (_ : Int) = numF _ => hI; rw [hI]; exact hret _ _ _ (by assumption) (by assumption))
end Mine

open PySem PySem.W PyProof.Rows PySem.Spec PySem.Calls
set_option maxRecDepth 100000
set_option maxHeartbeats 8000000
set_option linter.unusedVariables false
namespace Mine

theorem pat1 {P : Params} {h : Heap} (X : (hd.heap_39 P).In h) : PatAt h 57 code1 := ⟨⟨_, _, _, _, _, X 57 _ rfl, rfl, rfl, rfl, X _ _ rfl, rfl, by decide +kernel⟩⟩
theorem pat2 {P : Params} {h : Heap} (X : (hd.heap_39 P).In h) : PatAt h 62 code2 := ⟨⟨_, _, _, _, _, X 62 _ rfl, rfl, rfl, rfl, X _ _ rfl, rfl, by decide +kernel⟩⟩
/-- what quotedata hands back -/
def quoF (x : Str) : Str := ⟨(dots true (nl x.cps.toList)).toArray⟩
theorem quo_fit {x : Str} (h : x.length ≤ 1000000) : (⟨(nl x.cps.toList).toArray⟩ : Str).length ≤ 8000000 := by
  have := nl_len x.cps.toList
  have e3 : x.cps.toList.length = x.cps.size := Array.length_toList
  have h' : x.cps.size ≤ 1000000 := h
  show (nl x.cps.toList).toArray.size ≤ _
  rw [List.size_toArray]
  omega
local macro_rules | `(tactic| walk_at "getMethod ref") => `(tactic| (k_here; (with_reducible show wpAny _ _ (getMethod (Value.ref 57) _ _) _ _ _); refine getMethod_sub (pat1 (by k_in)) ?_))
local macro_rules | `(tactic| walk_at "getMethod ref") => `(tactic| (k_here; (with_reducible show wpAny _ _ (getMethod (Value.ref 62) _ _) _ _ _); refine getMethod_sub (pat2 (by k_in)) ?_))
local macro_rules | `(tactic| walk_at "call builtin:re.Pattern.sub") => `(tactic| ((with_reducible show wpAny _ _ (call _ [Value.ref 62, _, _]) _ _ _); (k_dflt (refine' call_nl ?kF ?kN ?kP ?kx ?_)); (case kF => k_asm); (case kN => k_asm); (case kP => exact pat2 (by k_in)); (case kx => assumption); intro _ _ _ _ _))
local macro_rules | `(tactic| walk_at "call builtin:re.Pattern.sub") => `(tactic| ((with_reducible show wpAny _ _ (call _ [Value.ref 57, _, _]) _ _ _); (k_dflt (refine' call_dots ?kF ?kN ?kP ?kx ?_)); (case kF => k_asm); (case kN => k_asm); (case kP => exact pat1 (by k_in)); (case kx => exact quo_fit (by assumption)); intro _ _ _ _ _))
theorem quo_call {x : Str} {t1 : Tok} (hx : x.length ≤ 1000000) (hx8 : x.length ≤ 8000000) {w : World} {mean : ExcName → Option Value} {mg mb : Str → Option Value} {news : List (Addr × Obj)}
  {dp un : Nat} {gd : Option (List Code)} {cn : Str} {cs : Scope} {a : Addr} {ccd : Value} {cl : List (Str × Addr)} {outer : List Env} {A₀ : Around} {base h₀ : Heap} {L : Addr} {m : Str → Option Value} {s : Shared} {Q E : Value → Shared → Prop}
  (B : Below A₀ base outer h₀) (F : Fr h₀ L s.heap m) (X : (hd.heap_39 w.params).In h₀) (N : News h₀ L s.heap news)
  (T : Top Mine.hd.view_39 (looseW Mine.hd.view_39 [Str.ofString "_twin_re_1", Str.ofString "_twin_re_2"]) mean mg mb h₀) (hk : cs.kind = .function)
  (hd : dp + 1 < recursionLimit) (hu : un + 8 < cLine)
  (hret : ∀ t h' tk', Fr h₀ L h' m → News h₀ L h' news → Q (.str (quoF x) t) { s with heap := h', toks := tk' }) :
  wpAny (model PySem.Challenge.rw_sn0006_01.row.prog w) (ktrTop dp un gd cn cs L a ccd cl outer) (call (.ref 69) [.str x t1]) Q E s := by
  w_top off
  k_with_none
  revert X; k_fill; intro X
  refine wpAny_call ?_
  k_dflt cell_enter
  k_steps
  exact hret _ _ _ (by assumption) (by assumption)
end Mine

open PySem PySem.W PyProof.Rows PySem.Spec PySem.Calls
set_option maxRecDepth 100000
set_option maxHeartbeats 8000000
set_option linter.unusedVariables false
namespace Mine

/-- what _law_turned hands back -/
def turnedF (x : Array UInt8) (n k : Int) : Bool := apF ((n * 16 ^ k.toNat).fmod (16 ^ Int.toNat 6 - 1)).natAbs [] == (KBy.picked x (some k) none ++ KBy.picked x none (some k)).toList
theorem t_fit (n k : Int) : ((n * 16 ^ k.toNat).fmod (16 ^ Int.toNat 6 - 1)).natAbs < 16 ^ 20 := by
  have e : (16 ^ Int.toNat 6 - 1 : Int) = 16777215 := by decide
  rw [e]
  generalize n * 16 ^ k.toNat = z
  rw [Int.fmod_eq_emod_of_nonneg _ (by decide)]
  have h1 := Int.emod_nonneg z (by decide : (16777215 : Int) ≠ 0)
  have h2 := Int.emod_lt_of_pos z (by decide : (0 : Int) < 16777215)
  have h3 : (16777215 : Nat) < 16 ^ 20 := by decide
  omega
local macro_rules | `(tactic| walk_at "call ref") => `(tactic| (k_here; (with_reducible show wpAny _ _ (call (Value.ref 52) [Value.int _ _]) _ _ _); k_dflt (refine' i2a_call ?hn ?k1 ?k2 ?k3 ?k4 ?k5 ?kK ?kd ?ku  ?kR); (case k1 => k_asm); (case k2 => k_asm); (case k3 => k_asm); (case k4 => k_asm); (case k5 => k_asm); (case kK => first | exact rfl | assumption); (case kd => ktr_room); (case ku => ktr_units); (case hn => exact t_fit _ _); (intro t9 h9 tk9 F9 N9); (try dsimp only); (try k_fold)))
local macro_rules | `(tactic| walk_at "subscriptTail") => `(tactic| (k_here; (with_reducible show wpAny _ _ (subscriptTail _ (Expr.Slice _ _ none _) (Value.bytes _ _) (Value.ref _)) _ _ _); (with_reducible rename Fr _ _ _ _ => F'); (with_reducible rename News _ _ _ _ => N'); (refine bslice (s := ⟨_, _, _, _, _⟩) F' N' (by constructor) (by constructor) (Nat.le_trans (by assumption) (by decide)) ?_); intro _ _ _ _ _))
local macro_rules | `(tactic| walk_at "binaryOp Add bytes bytes") => `(tactic| (k_here; (with_reducible show wpAny _ _ (binaryOp Operator.Add (Value.bytes _ _) (Value.bytes _ _)) _ _ _); (refine badd ?hsz ?_); (case hsz => (refine Nat.le_trans (Nat.add_le_add (KBc.size_picked_le _ _ _) (KBc.size_picked_le _ _ _)) (Nat.le_trans (Nat.add_le_add (by assumption) (by assumption)) (by decide)))); intro _ _))
theorem turned_call {x : Array UInt8} {n k : Int} {t1 t2 t3 : Tok} (hx : x.size ≤ 6) (hn0 : 0 ≤ n) (hn1 : n < 16777216) (hk0 : 0 ≤ k) (hk1 : k < 6) {w : World} {mean : ExcName → Option Value} {mg mb : Str → Option Value} {news : List (Addr × Obj)}
  {dp un : Nat} {gd : Option (List Code)} {cn : Str} {cs : Scope} {a : Addr} {ccd : Value} {cl : List (Str × Addr)} {outer : List Env} {A₀ : Around} {base h₀ : Heap} {L : Addr} {m : Str → Option Value} {s : Shared} {Q E : Value → Shared → Prop}
  (B : Below A₀ base outer h₀) (F : Fr h₀ L s.heap m) (X : (hd.heap_39 w.params).In h₀) (N : News h₀ L s.heap news)
  (T : Top Mine.hd.view_39 (looseW Mine.hd.view_39 [Str.ofString "_twin_re_1", Str.ofString "_twin_re_2"]) mean mg mb h₀) (hk : cs.kind = .function)
  (hd : dp + 2 < recursionLimit) (hu : un + 16 < cLine)
  (hret : ∀ h' tk', Fr h₀ L h' m → News h₀ L h' news → Q (.bool (turnedF x n k)) { s with heap := h', toks := tk' }) :
  wpAny (model PySem.Challenge.rw_sn0006_01.row.prog w) (ktrTop dp un gd cn cs L a ccd cl outer) (call (.ref 95) [.bytes x t1, .int n t2, .int k t3]) Q E s := by
  w_top off
  k_with_none
  revert X; k_fill; intro X
  refine wpAny_call ?_
  k_dflt cell_enter
  k_steps
  exact hret _ _ (by assumption) (by assumption)
end Mine

open PySem PySem.W PyProof.Rows PySem.Spec PySem.Calls
set_option maxRecDepth 100000
set_option maxHeartbeats 8000000
set_option linter.unusedVariables false
namespace Mine

abbrev lstO (A : Array Value) (n : Nat) : Obj := { cls := .type "list", data := .seq A n }
def longer1 (n : Int) (m : Str) : List Str :=
  (if Txt.count m (Str.ofString "\r") < n then [m ++ Str.ofString "\r"] else []) ++ (if Txt.count m (Str.ofString "\n") < 6 - n then [m ++ Str.ofString "\n"] else [])
def longerF (n : Int) (ts : List Str) : List Str := ts.flatMap (longer1 n)
def mailsF (n : Int) : Nat → List Str
  | 0 => [Str.ofString ""]
  | i + 1 => longerF n (mailsF n i)
theorem longerF_succ {n : Int} {ts : List Str} {i : Nat} {x : Str} (h : ts[i]? = some x) : longerF n (ts.take (i + 1)) = longerF n (ts.take i) ++ longer1 n x := by
  simp [longerF, List.take_add_one, h]
theorem longer1_len {n : Int} {m x : Str} (h : x ∈ longer1 n m) : x.length = m.length + 1 := by
  unfold longer1 at h
  rcases List.mem_append.mp h with h | h
  · split at h
    · rw [List.mem_singleton.mp h]; simp [Str.length_append]; rfl
    · cases h
  · split at h
    · rw [List.mem_singleton.mp h]; simp [Str.length_append]; rfl
    · cases h
theorem mailsF_len {n : Int} : ∀ {i : Nat} {x : Str}, x ∈ mailsF n i → x.length = i
  | 0, x, h => by rw [List.mem_singleton.mp h]; rfl
  | i + 1, x, h => by
    obtain ⟨y, hy, hx⟩ := List.mem_flatMap.mp h
    rw [longer1_len hx, mailsF_len hy]
theorem mailsF_le {n : Int} {i : Nat} (hi : i < 6) : ∀ x ∈ mailsF n i, x.length ≤ 6 := fun x hx => by rw [mailsF_len hx]; omega
theorem longer1_count (n : Int) (m : Str) : (longer1 n m).length ≤ 2 := by
  unfold longer1
  rw [List.length_append]
  split <;> split <;> simp
theorem longerF_count (n : Int) : ∀ (ts : List Str), (longerF n ts).length ≤ 2 * ts.length
  | [] => Nat.le_refl _
  | m :: r => by
    have h1 := longer1_count n m
    have h2 := longerF_count n r
    simp only [longerF, List.flatMap_cons, List.length_append, List.length_cons] at *
    omega
theorem mailsF_pow (n : Int) : ∀ (i : Nat), (mailsF n i).length ≤ 2 ^ i
  | 0 => Nat.le_refl _
  | i + 1 => by
    have h1 := longerF_count n (mailsF n i)
    have h2 := mailsF_pow n i
    show (longerF n (mailsF n i)).length ≤ _
    rw [Nat.pow_succ]
    omega
theorem mailsF_count {n : Int} {i : Nat} (hi : i < 6) : (mailsF n i).length ≤ 100 := by
  have h1 := mailsF_pow n i
  have h2 : 2 ^ i ≤ 2 ^ 6 := Nat.pow_le_pow_right (by decide) (by omega)
  omega
theorem acc_size {n : Int} {ts : List Str} {i : Nat} {A : Array Value} (h : ts.length ≤ 100) (hJ : StrsAre A.toList (longerF n (ts.take i))) : A.size ≤ 200 := by
  have h1 := hJ.len_eq
  have h2 := longerF_count n (ts.take i)
  rw [Array.length_toList] at h1
  rw [List.length_take] at h2
  omega
theorem longer1_tt {n : Int} {m : Str} (h1 : Txt.count m (Str.ofString "\r") < n) (h2 : Txt.count m (Str.ofString "\n") < 6 - n) : longer1 n m = [m ++ Str.ofString "\r", m ++ Str.ofString "\n"] := by unfold longer1; rw [if_pos h1, if_pos h2]; rfl
theorem longer1_tf {n : Int} {m : Str} (h1 : Txt.count m (Str.ofString "\r") < n) (h2 : ¬ Txt.count m (Str.ofString "\n") < 6 - n) : longer1 n m = [m ++ Str.ofString "\r"] := by unfold longer1; rw [if_pos h1, if_neg h2]; rfl
theorem longer1_ft {n : Int} {m : Str} (h1 : ¬ Txt.count m (Str.ofString "\r") < n) (h2 : Txt.count m (Str.ofString "\n") < 6 - n) : longer1 n m = [m ++ Str.ofString "\n"] := by unfold longer1; rw [if_neg h1, if_pos h2]; rfl
theorem longer1_ff {n : Int} {m : Str} (h1 : ¬ Txt.count m (Str.ofString "\r") < n) (h2 : ¬ Txt.count m (Str.ofString "\n") < 6 - n) : longer1 n m = [] := by unfold longer1; rw [if_neg h1, if_neg h2]; rfl
theorem longer_end {n : Int} {ts : List Str} {i : Nat} {x : Str} {A A' : Array Value} {ys : List Str} (hx : ts[i]? = some x) (h : StrsAre A.toList (longerF n (ts.take i))) (e : longer1 n x = ys) (h' : StrsAre A.toList (longerF n (ts.take i)) → StrsAre A'.toList (longerF n (ts.take i) ++ ys)) :
    StrsAre A'.toList (longerF n (ts.take (i + 1))) := by
  rw [longerF_succ hx, e]; exact h' h
theorem push0 {A : Array Value} {xs : List Str} (h : StrsAre A.toList xs) : StrsAre A.toList (xs ++ []) := by rw [List.append_nil]; exact h
theorem push1 {A : Array Value} {xs : List Str} {y : Str} {t : Tok} (h : StrsAre A.toList xs) : StrsAre (A.push (.str y t)).toList (xs ++ [y]) := by rw [Array.toList_push]; exact StrsAre.append' h (.cons _ _ .nil)
theorem push2 {A : Array Value} {xs : List Str} {y z : Str} {t u : Tok} (h : StrsAre A.toList xs) : StrsAre ((A.push (.str y t)).push (.str z u)).toList (xs ++ [y, z]) := by
  rw [Array.toList_push, Array.toList_push, List.append_assoc]; exact StrsAre.append' h (.cons _ _ (.cons _ _ .nil))
section
variable {prog : Program} {w : World} {A : Around} {E : Value → Shared → Prop} {s : Shared} {env : Env} {h₀ : Heap} {body : List Stmt} {Q : Flow → Shared → Prop}
abbrev mailsLed (g : Addr) (rest : List (Addr × Obj)) (c : Array Value × Nat) : List (Addr × Obj) := (g, lstO c.1 c.2) :: rest
abbrev mailsPs (g l : Addr) (n : Int) (t1 : Tok) (_ : Array Value × Nat) : List (Str × Value) := [(Str.ofString "longer", .ref g), (Str.ofString "mails", .ref l), (Str.ofString "returns", .int n t1)]
abbrev mailsInv (n : Int) (ts : List Str) (i : Nat) (c : Array Value × Nat) : Prop := StrsAre c.1.toList (longerF n (ts.take i))
theorem mails_in {g l : Addr} {rest : List (Addr × Obj)} {vs : List Value} {nn : Nat} {ts : List Str} {n : Int} {t1 : Tok} {m₀ : Str → Option Value} (hh : A.handled = none) (F : Fr h₀ env.locals s.heap m₀) (N : News h₀ env.locals s.heap ((g, lstO #[] 0) :: rest))
    (hl : (l, lstO vs.toArray nn) ∈ rest) (hts : StrsAre vs ts) (hlen : ∀ x ∈ ts, x.length ≤ 6) (hcount : ts.length ≤ 100) (h1 : m₀ (Str.ofString "longer") = some (.ref g)) (h2 : m₀ (Str.ofString "mails") = some (.ref l)) (h3 : m₀ (Str.ofString "returns") = some (.int n t1))
    (turn : ∀ (A' : Array Value) (cnt : Nat) (I : Addr) (i : Nat) (x : Str) (t : Tok) (u : Str → Option Value) (h : Heap) (tk : Nat) (oI : Obj), ts[i]? = some x → x.length ≤ 6 → A'.size ≤ 200 → @Ne Nat g I → (∀ p ∈ rest, p.1 ≠ I) → StrsAre A'.toList (longerF n (ts.take i)) →
      Fr h₀ env.locals h (fun y => if y = Str.ofString "mail" then some (.str x t) else kstB u (mailsPs g l n t1 (A', cnt)) y) → News h₀ env.locals h ((I, oI) :: (g, lstO A' cnt) :: rest) →
      wpAny (model prog w) A (execs body env) (TurnPost h₀ env.locals (mailsLed g rest) (mailsPs g l n t1) (mailsInv n ts (i + 1)) I oI { s with heap := h, toks := tk } Q) E { s with heap := h, toks := tk })
    (done : ∀ (A' : Array Value) (cnt : Nat) (u : Str → Option Value) h tk, StrsAre A'.toList (longerF n ts) → Fr h₀ env.locals h (kstB u (mailsPs g l n t1 (A', cnt))) → News h₀ env.locals h ((g, lstO A' cnt) :: rest) → Q .next { s with heap := h, toks := tk }) :
    wpAny (model prog w) A (pyIter (.ref l)) (fun it s₂ => LoopAtV prog w A h₀ env (Str.ofString "mail") body Q E it s₂) E s := by
  refine state_list (mailsLed g rest) (mailsPs g l n t1) (mailsInv n ts) (#[], 0) hh (fun c => .tail _ hl) F N ?_ ?_ ?_ ?_
  · intro p hp
    simp only [mailsPs, List.mem_cons, List.not_mem_nil, or_false] at hp
    rcases hp with rfl | rfl | rfl
    · exact h1
    · exact h2
    · exact h3
  · exact .nil
  · intro c I i v u h tk oI hv hne hJ F₁ N₁
    obtain ⟨x, t, rfl, hx⟩ := StrsAre.item hts i v hv
    exact turn c.1 c.2 I i x t u h tk oI hx (hlen x (List.mem_of_getElem? hx)) (acc_size hcount hJ) (hne _ (.head _)) (fun p hp => hne p (.tail _ hp)) hJ F₁ N₁
  · intro c u h tk hJ F₁ N₁
    refine done c.1 c.2 u h tk ?_ F₁ N₁
    have e : ts.take vs.length = ts := List.take_of_length_le (Nat.le_of_eq hts.len_eq.symm)
    have hJ' : StrsAre c.1.toList (longerF n (ts.take vs.length)) := hJ
    rw [e] at hJ'; exact hJ'
abbrev outLed (c : Addr × Array Value × Nat) : List (Addr × Obj) := [(c.1, lstO c.2.1 c.2.2)]
abbrev outPs (n : Int) (t1 : Tok) (c : Addr × Array Value × Nat) : List (Str × Value) := [(Str.ofString "mails", .ref c.1), (Str.ofString "returns", .int n t1)]
abbrev outInv (n : Int) (i : Nat) (c : Addr × Array Value × Nat) : Prop := StrsAre c.2.1.toList (mailsF n i)
theorem mails_out {r l : Addr} {t₀ u₀ v₀ tt : Tok} {n : Int} {t1 : Tok} {nn : Nat} {m₀ : Str → Option Value} (hh : A.handled = none) (F : Fr h₀ env.locals s.heap m₀) (N : News h₀ env.locals s.heap [(l, lstO #[.str (Str.ofString "") tt] nn)]) (hr : IsRange s.heap r 0 6 1 t₀ u₀ v₀)
    (h2 : m₀ (Str.ofString "mails") = some (.ref l)) (h3 : m₀ (Str.ofString "returns") = some (.int n t1))
    (turn : ∀ (l : Addr) (A' : Array Value) (cnt : Nat) (I : Addr) (i : Nat) (t : Tok) (u : Str → Option Value) (h : Heap) (tk : Nat) (oI : Obj), l ≠ I → i < 6 → StrsAre A'.toList (mailsF n i) →
      Fr h₀ env.locals h (fun y => if y = Str.ofString "place" then some (.int (0 + (i : Int)) t) else kstB u (outPs n t1 (l, A', cnt)) y) → News h₀ env.locals h [(I, oI), (l, lstO A' cnt)] →
      wpAny (model prog w) A (execs body env) (TurnPost h₀ env.locals outLed (outPs n t1) (outInv n (i + 1)) I oI { s with heap := h, toks := tk } Q) E { s with heap := h, toks := tk })
    (done : ∀ (l : Addr) (A' : Array Value) (cnt : Nat) (u : Str → Option Value) h tk, StrsAre A'.toList (mailsF n 6) → Fr h₀ env.locals h (kstB u (outPs n t1 (l, A', cnt))) → News h₀ env.locals h [(l, lstO A' cnt)] → Q .next { s with heap := h, toks := tk }) :
    wpAny (model prog w) A (pyIter (.ref r)) (fun it s₂ => LoopAtV prog w A h₀ env (Str.ofString "place") body Q E it s₂) E s := by
  refine state_range (n := 6) outLed (outPs n t1) (outInv n) (l, #[.str (Str.ofString "") tt], nn) hh hr (by decide +kernel) (by decide +kernel) F N ?_ ?_ ?_ ?_
  · intro p hp
    simp only [outPs, List.mem_cons, List.not_mem_nil, or_false] at hp
    rcases hp with rfl | rfl
    · exact h2
    · exact h3
  · exact .cons _ _ .nil
  · intro c I i t u h tk oI hi hne hJ F₁ N₁
    exact turn c.1 c.2.1 c.2.2 I i t u h tk oI (hne _ (.head _)) hi hJ F₁ N₁
  · intro c u h tk hJ F₁ N₁
    exact done c.1 c.2.1 c.2.2 u h tk hJ F₁ N₁
end
local macro_rules | `(tactic| walk_at "exec For Name Name cons nil") => `(tactic| (k_here; (rename Fr _ _ _ _ => lF'); (with_unfolding_all refine' For_invVF lF' ?k1 ?k2 ?_; (case k1 => exact rfl); (case k2 => exact rfl); k_whole)))
local macro_rules | `(tactic| walk_at "pyIter ref") => `(tactic| ((rename Fr _ _ _ _ => lF'); (rename News _ _ _ _ => lN'); (with_unfolding_all refine' mails_in rfl lF' lN' ?hl ?ht ?hlen ?hcount ?h1 ?h2 ?h3 ?_ ?_); (case hl => k_mem); (case ht => assumption); (case hlen => exact mailsF_le (by assumption)); (case hcount => exact mailsF_count (by assumption)); (case h1 => with_unfolding_all rfl); (case h2 => with_unfolding_all rfl); (case h3 => with_unfolding_all rfl); (all_goals (try clear lF' lN')); (all_goals (intros; (try k_fold)))))
local macro_rules | `(tactic| walk_at "pyIter ref") => `(tactic| ((rename Fr _ _ _ _ => lF'); (rename News _ _ _ _ => lN'); (with_unfolding_all refine' mails_out rfl lF' lN' ?hr ?h2 ?h3 ?_ ?_); (case hr => assumption); (case h2 => with_unfolding_all rfl); (case h3 => with_unfolding_all rfl); (all_goals (try clear lF' lN')); (all_goals (intros; (try k_fold)))))
local macro_rules | `(tactic| walk_at "TurnPost") => `(tactic| (dsimp only [TurnPost]))
theorem mails_call {n : Int} {t1 : Tok} (hn0 : 0 ≤ n) (hn6 : n ≤ 6) {w : World} {mean : ExcName → Option Value} {mg mb : Str → Option Value}
  {dp un : Nat} {gd : Option (List Code)} {cn : Str} {cs : Scope} {a : Addr} {ccd : Value} {cl : List (Str × Addr)} {outer : List Env} {A₀ : Around} {base h₀ : Heap} {L : Addr} {m : Str → Option Value} {s : Shared} {Q E : Value → Shared → Prop}
  (B : Below A₀ base outer h₀) (F : Fr h₀ L s.heap m) (X : (hd.heap_39 w.params).In h₀)
  (T : Top Mine.hd.view_39 (looseW Mine.hd.view_39 [Str.ofString "_twin_re_1", Str.ofString "_twin_re_2"]) mean mg mb h₀) (hk : cs.kind = .function)
  (hd : dp + 1 < recursionLimit) (hu : un + 8 < cLine)
  (hret : ∀ D A' c h' tk', (∀ b o, s.heap.get? b = some o → h'.get? b = some o) → h'.get? D = some (lstO A' c) → s.heap.get? D = none → StrsAre A'.toList (mailsF n 6) → Q (.ref D) { s with heap := h', toks := tk' }) :
  wpAny (model PySem.Challenge.rw_sn0006_01.row.prog w) (ktrTop dp un gd cn cs L a ccd cl outer) (call (.ref 76) [.int n t1]) Q E s := by
  w_top off
  k_with_none
  revert X; k_fill; intro X
  refine wpAny_call ?_
  k_dflt (refine' code_pure ?k1 ?k2 ?k3 ?k5 ?kA ?kF ?kK ?k6 ?k7 ?k8 ?k9 ?kB ?_ ?c2 ?c3 ?c4 ?c5; (case kA => exact rfl); (case kF => exact rfl); (case kK => assumption); (case k1 => k_asm); (case k2 => k_asm); (case k3 => k_asm); (case k5 => k_asm); (case k6 => k_is); (case k7 => k_is); (case k8 => ktr_room); (case k9 => exact BindsTo.of_eq rfl); (case c5 => decide); (case kB => exact locs rfl); (case c2 => exact rfl); (case c3 => exact rfl); (case c4 => exact rfl); k_whole; intro L' h' F' N' B' X' T'; (try dsimp only); (try k_lift B'); (try k_fold))
  k_steps
  all_goals try (
    (refine' turn_end (_, _) ?hF ?hN ?hled ?hI ?hne ?hps ?hinv)
    (case hF => assumption)
    (case hN => assumption)
    (case hled => (dsimp only [mailsLed]; with_unfolding_all k_allIn))
    (case hI => k_memK)
    (case hne => exact List.forall_mem_cons.mpr ⟨by assumption, by assumption⟩)
    (case hps => (dsimp only [mailsPs]; kst_all))
    (case hinv => first | exact longer_end (by assumption) (by assumption) (longer1_tt (by assumption) (by assumption)) push2 | exact longer_end (by assumption) (by assumption) (longer1_tf (by assumption) (by assumption)) push1 | exact longer_end (by assumption) (by assumption) (longer1_ft (by assumption) (by assumption)) push1 | exact longer_end (by assumption) (by assumption) (longer1_ff (by assumption) (by assumption)) push0))
  all_goals try (
    (refine' turn_end (_, _, _) ?hF ?hN ?hled ?hI ?hne ?hps ?hinv)
    (case hF => assumption)
    (case hN => assumption)
    (case hled => dsimp only [outLed]; with_unfolding_all k_allIn)
    (case hI => k_memK)
    (case hne => dsimp only [outLed]; k_all)
    (case hps => dsimp only [outPs]; kst_all)
    (case hinv => assumption))
  rename Fr s.heap _ _ _ => hF
  rename News s.heap _ _ _ => hN
  exact hret _ _ _ _ _ hF.keep (hN _ (.head _)).1 (hN _ (.head _)).2.2 (by assumption)
end Mine

open PySem PySem.W PyProof.Rows PySem.Spec PySem.Calls
set_option maxRecDepth 100000
set_option maxHeartbeats 8000000
set_option linter.unusedVariables false
namespace Mine

abbrev sentF (x : Str) : Str := Txt.join (Str.ofString "a") [Txt.slice x none (some (1 + ((0:Nat):Int))), Txt.slice x none (some (1 + ((0+1:Nat):Int))), Txt.slice x none (some (1 + ((0+1+1:Nat):Int))), Txt.slice x none (some (1 + ((0+1+1+1:Nat):Int))), Txt.slice x none (some (1 + ((0+1+1+1+1:Nat):Int))), Txt.slice x none (some (1 + ((0+1+1+1+1+1:Nat):Int))), x ++ Txt.item x 0]
theorem ce1 (n : Nat) : n + 1 + 1 ≠ n + 1 := by omega
theorem ce2 (n : Nat) : n + 1 + 1 + 1 ≠ n + 1 := by omega
local macro_rules | `(tactic| walk_at "kD") => `(tactic| ((iterate 11 (try (first | with_reducible assumption | apply And.right))); done))
local macro_rules | `(tactic| walk_at "kX") => `(tactic| first | (apply And.left; walk_at "kD") | (apply And.left; apply And.left; walk_at "kD") | (apply And.left; apply And.right; apply And.left; walk_at "kD") | (apply And.right; apply And.right; apply And.left; walk_at "kD") | (apply And.right; walk_at "kD"))
local macro_rules | `(tactic| k_ne) => `(tactic| (refine neN ?_; (try dsimp only); (first | with_reducible assumption | (exact Ne.symm (by with_reducible assumption)) | (exact Nat.ne_of_lt (by with_reducible assumption)) | (exact Nat.ne_of_gt (by with_reducible assumption)) | (with_reducible exact ce1 _) | (with_reducible exact ce2 _) | (with_reducible exact (ce1 _).symm) | (with_reducible exact (ce2 _).symm) | (walk_at "kX") | (apply Ne.symm; walk_at "kX") | (apply Nat.ne_of_lt; walk_at "kX") | (apply Nat.ne_of_gt; walk_at "kX"))))
local macro_rules | `(tactic| walk_at "CompSrc") => `(tactic| (k_here; k_dflt (refine LCg.CompSrc.range (by rfl) (by k_asm) (by k_asm) (by assumption) (by first | decide | rfl) (by first | rfl | decide) (by first | size_fits | exact Nat.le_of_ble_eq_true rfl) ?_; intro g'; lcg_lit)))
local macro_rules | `(tactic| walk_at "call ref") => `(tactic| (k_here; (with_reducible show wpAny _ _ (call (Value.ref 69) [Value.str _ _]) _ _ _); k_dflt (refine' quo_call ?hx ?hx8 ?k1 ?k2 ?k3 ?k4 ?k5 ?kK ?kd ?ku  ?_); (case k1 => k_asm); (case k2 => k_asm); (case k3 => k_asm); (case k4 => k_asm); (case k5 => k_asm); (case kK => first | exact rfl | assumption); (case kd => ktr_room); (case ku => ktr_units); (case hx => (show (sentF _).length ≤ 1000000); assumption); (case hx8 => (show (sentF _).length ≤ 8000000); refine Nat.le_trans (m := 1000000) ?_ (by decide); assumption); (intro t9 h9 tk9 F9 N9); (try dsimp only); (try k_fold)))

theorem join_two {prog : Program} {w : World} {A : Around} {E : Value → Shared → Prop} {s : Shared} {x : Str} {t : Tok} {Q : Value → Shared → Prop} {D : Addr} {items : Array Value} {a b : Str} {r : List Str}
    (hl : s.heap.IsList D items) (hi : StrsAre items.toList (a :: b :: r)) (hok : ((a :: b :: r).map (·.length)).sum + (a :: b :: r).length * x.length ≤ 16777216)
    (h : ∀ t', Q (.str (Txt.join x (a :: b :: r)) t') { s with toks := s.toks + 1 }) : wpAny (model prog w) A (call (.builtin "str.join") [.str x t, .ref D]) Q E s := by
  obtain ⟨l, hv, ht⟩ := strsAre_values hi
  have e : items = (strValues l).toArray := by rw [← hv]
  subst e
  match l, ht with
  | p :: q :: l', ht =>
    have hok' := joinOk_of hok
    rw [← ht] at hok' h
    unfold JoinOk at hok'
    rw [Bool.not_eq_true'] at hok'
    exact call_meets F.slot_str_join (typeIs_str _ _ _) F.entry_str_join (F.args_str_join_2 _ _) (meets_str_join_list x t D (p :: q :: l') hok') ⟨hl, joinFit_length hok', h _⟩
theorem replaceTo {prog : Program} {w : World} {A : Around} {E : Value → Shared → Prop} {s : Shared} {x y z r : Str} {t u v : Tok} {Q : Value → Shared → Prop} (hu : @Ne Nat u 0) (hv : @Ne Nat v 0) (huv : @Ne Nat u v) (hyz : (y == z) = false) (hx : x.length ≤ 1048576) (hz : z.length ≤ 14) (hr : Txt.replace x y z = r)
    (hq : ∀ t' k, Q (.str r t') { s with toks := k }) : wpAny (model prog w) A (call (.builtin "str.replace") [.str x t, .str y u, .str z v]) Q E s := SC.replaceW hu hv huv hyz hx hz (by rw [hr]; exact hq)
local macro_rules | `(tactic| walk_at "call builtin:str.join") => `(tactic| (k_here; (with_reducible show wpAny _ _ (call (Value.builtin _) [Value.str _ _, Value.ref _]) _ _ _); k_dflt ((refine join_two (a := ?_) (b := ?_) (r := [_, _, _, _, _]) (by is_list) (by first | assumption | kct_strs) (by simp only [List.map_cons, List.map_nil, List.sum_cons, List.sum_nil, List.length_cons, List.length_nil, show (Str.ofString "").length = 0 from by decide]; omega) ?_); intro _)))
local macro_rules | `(tactic| walk_at "call builtin:str.replace") => `(tactic| (k_here; (refine replaceTo (by omega) (by omega) (by omega) (by decide) (by assumption) (by decide) (by assumption) ?_); intro _ _))
theorem sz8 {x : Str} (h : (quoF (sentF x)).length ≤ 1000000) : (quoF (sentF x)).length + 2 ≤ sizeLine := Nat.le_trans (Nat.add_le_add_right h 2) (by decide)
local macro_rules | `(tactic| walk_at "call builtin:str.split") => `(tactic| (k_here; (with_reducible show wpAny _ _ (call (Value.builtin "str.split") [Value.str (quoF _) _, _]) _ _ _); (refine KSpl.split1 (by k_asm) (by k_asm) (by decide) ?_ (sz8 (by assumption))); intro D' l' h' k' e' a' F' N' l1; (try k_lt l1); (have e2 := e'.trans (by assumption : Txt.split (quoF (sentF _)) (Str.ofString "a") = _)); kspl_open e2; (simp only [strValues, List.map_cons, List.map_nil] at N' a')))

/-- what the sending of a mail of six signs tells -/
structure SavedIs (x : Str) (wt pr : Int) (p0 p1 p2 p3 p4 p5 p6 : Str) : Prop where
  hx : x.length = 6
  hj : (sentF x).length ≤ 1000000
  hq : (quoF (sentF x)).length ≤ 1000000
  hsp : Txt.split (quoF (sentF x)) (Str.ofString "a") = [p0, p1, p2, p3, p4, p5, p6]
  hjn : (Txt.join (Str.ofString "") [p0, p1, p2, p3, p4, p5, p6]).length ≤ 1048576
  hrp : Txt.replace (Txt.join (Str.ofString "") [p0, p1, p2, p3, p4, p5, p6]) (Str.ofString "\r\n") (Str.ofString "") = Str.ofString ""
  hp0 : p0.length ≤ 1000
  hp1 : p1.length ≤ 1000
  hp2 : p2.length ≤ 1000
  hp3 : p3.length ≤ 1000
  hp4 : p4.length ≤ 1000
  hp5 : p5.length ≤ 1000
  hp6 : p6.length ≤ 1000
  hw : 21 - ((p0.length : Int).fdiv 2 + ((p1.length : Int).fdiv 2 + ((p2.length : Int).fdiv 2 + ((p3.length : Int).fdiv 2 + ((p4.length : Int).fdiv 2 + ((p5.length : Int).fdiv 2 + 0)))))) = wt
  hp : 7 - (p6.length : Int).fdiv 2 = pr
def savedB (x : Str) : Option (Int × Int) :=
  match Txt.split (quoF (sentF x)) (Str.ofString "a") with
  | [p0, p1, p2, p3, p4, p5, p6] =>
    if x.length = 6 ∧ (sentF x).length ≤ 1000000 ∧ (quoF (sentF x)).length ≤ 1000000 ∧ (Txt.join (Str.ofString "") [p0, p1, p2, p3, p4, p5, p6]).length ≤ 1048576 ∧ Txt.replace (Txt.join (Str.ofString "") [p0, p1, p2, p3, p4, p5, p6]) (Str.ofString "\r\n") (Str.ofString "") = Str.ofString ""
      ∧ p0.length ≤ 1000 ∧ p1.length ≤ 1000 ∧ p2.length ≤ 1000 ∧ p3.length ≤ 1000 ∧ p4.length ≤ 1000 ∧ p5.length ≤ 1000 ∧ p6.length ≤ 1000 then
      some (21 - ((p0.length : Int).fdiv 2 + ((p1.length : Int).fdiv 2 + ((p2.length : Int).fdiv 2 + ((p3.length : Int).fdiv 2 + ((p4.length : Int).fdiv 2 + ((p5.length : Int).fdiv 2 + 0)))))), 7 - (p6.length : Int).fdiv 2)
    else none
  | _ => none
theorem saved_is {x : Str} {wt pr : Int} (h : savedB x = some (wt, pr)) : ∃ p0 p1 p2 p3 p4 p5 p6, SavedIs x wt pr p0 p1 p2 p3 p4 p5 p6 := by
  unfold savedB at h
  split at h
  · rename_i p0 p1 p2 p3 p4 p5 p6 hsp
    split at h
    · rename_i c
      obtain ⟨c1, c2, c3, c4, c5, c6, c7, c8, c9, c10, c11, c12⟩ := c
      have e := Option.some.inj h
      exact ⟨p0, p1, p2, p3, p4, p5, p6, c1, c2, c3, hsp, c4, c5, c6, c7, c8, c9, c10, c11, c12, congrArg (·.1) e, congrArg (·.2) e⟩
    · cases h
  · cases h
theorem saved_call {x : Str} {t1 : Tok} {wt pr : Int} (hS : savedB x = some (wt, pr)) {w : World} {mean : ExcName → Option Value} {mg mb : Str → Option Value}
  {dp un : Nat} {gd : Option (List Code)} {cn : Str} {cs : Scope} {a : Addr} {ccd : Value} {cl : List (Str × Addr)} {outer : List Env} {A₀ : Around} {base h₀ : Heap} {L : Addr} {m : Str → Option Value} {s : Shared} {Q E : Value → Shared → Prop}
  (B : Below A₀ base outer h₀) (F : Fr h₀ L s.heap m) (X : (hd.heap_39 w.params).In h₀)
  (T : Top Mine.hd.view_39 (looseW Mine.hd.view_39 [Str.ofString "_twin_re_1", Str.ofString "_twin_re_2"]) mean mg mb h₀) (hk : cs.kind = .function)
  (hd : dp + 3 < recursionLimit) (hu : un + 24 < cLine)
  (hret : ∀ D t t' h' tk', (∀ b o, s.heap.get? b = some o → h'.get? b = some o) → h'.get? D = some { cls := .type "tuple", data := .seq #[.int wt t, .int pr t'] } → s.heap.get? D = none → Q (.ref D) { s with heap := h', toks := tk' }) :
  wpAny (model PySem.Challenge.rw_sn0006_01.row.prog w) (ktrTop dp un gd cn cs L a ccd cl outer) (call (.ref 88) [.str x t1]) Q E s := by
  w_top off
  k_with_none
  revert X; k_fill; intro X
  refine wpAny_call ?_
  k_dflt (refine' code_pureC ?k1 ?k2 ?k3 ?k5 ?kA ?kF ?kK ?k6 ?k7 ?k8 ?k9 ?kB ?kD ?_ ?c2 ?c3 ?c4; (case kA => exact rfl); (case kF => exact rfl); (case kK => assumption); (case k1 => k_asm); (case k2 => k_asm); (case k3 => k_asm); (case k5 => k_asm); (case k6 => k_is); (case k7 => k_is); (case k8 => ktr_room); (case k9 => exact BindsTo.of_eq rfl); (case kB => with_unfolding_all exact rfl); (case kD => decide); (case c2 => exact rfl); (case c3 => exact rfl); (case c4 => exact rfl); k_whole; intro L' h' tk' cells F' N' Y' B' X' T'; k_cells Y'; (try simp only [List.cons_append, List.nil_append] at N'); (try dsimp only); (try k_lift B'); (try k_fold))
  obtain ⟨p0, p1, p2, p3, p4, p5, p6, hx, hj, hq, hsp, hjn, hrp, hp0, hp1, hp2, hp3, hp4, hp5, hp6, hw, hp⟩ := saved_is hS
  clear hS
  k_steps
  rename Fr s.heap _ _ _ => hF
  rename News s.heap _ _ _ => hN
  exact hret _ _ _ _ _ hF.keep (by have g := (hN _ (.head _)).1; rw [← hw, ← hp]; exact g) (hN _ (.head _)).2.2
end Mine

open PySem PySem.W PyProof.Rows PySem.Spec PySem.Calls
set_option maxRecDepth 100000
set_option maxHeartbeats 8000000
set_option linter.unusedVariables false
namespace Mine

section
variable {w : World} {mean : ExcName → Option Value} {mg mb : Str → Option Value} {news : List (Addr × Obj)}
  {dp un : Nat} {gd : Option (List Code)} {cn : Str} {cs : Scope} {a : Addr} {ccd : Value} {cl : List (Str × Addr)} {outer : List Env} {A₀ : Around} {base h₀ : Heap} {L : Addr} {m : Str → Option Value} {s : Shared} {Q E : Value → Shared → Prop}
theorem num_is {x : Str} {t1 : Tok} {nm : Int} (hnm : numF (x.cps.toList.map fun (c : Nat) => (c : Int)) = nm) 
  (B : Below A₀ base outer h₀) (F : Fr h₀ L s.heap m) (X : (hd.heap_39 w.params).In h₀) (N : News h₀ L s.heap news)
  (T : Top Mine.hd.view_39 (looseW Mine.hd.view_39 [Str.ofString "_twin_re_1", Str.ofString "_twin_re_2"]) mean mg mb h₀) (hk : cs.kind = .function)
  (hd : dp + 1 < recursionLimit) (hu : un + 8 < cLine)
  (hret : ∀ t h' tk', Fr h₀ L h' m → News h₀ L h' news → Q (.int nm t) { s with heap := h', toks := tk' }) :
  wpAny (model PySem.Challenge.rw_sn0006_01.row.prog w) (ktrTop dp un gd cn cs L a ccd cl outer) (call (.ref 83) [.str x t1]) Q E s := by
  subst hnm; exact num_call B F X N T hk hd hu hret
theorem i2a_is {n : Int} {t1 : Tok} {bs : Array UInt8} (hn : n.natAbs < 16 ^ 20) (hbs : (apF n.natAbs []).toArray = bs)
  (B : Below A₀ base outer h₀) (F : Fr h₀ L s.heap m) (X : (hd.heap_39 w.params).In h₀) (N : News h₀ L s.heap news)
  (T : Top Mine.hd.view_39 (looseW Mine.hd.view_39 [Str.ofString "_twin_re_1", Str.ofString "_twin_re_2"]) mean mg mb h₀) (hk : cs.kind = .function)
  (hd : dp + 1 < recursionLimit) (hu : un + 8 < cLine)
  (hret : ∀ t h' tk', Fr h₀ L h' m → News h₀ L h' news → Q (.bytes bs t) { s with heap := h', toks := tk' }) :
  wpAny (model PySem.Challenge.rw_sn0006_01.row.prog w) (ktrTop dp un gd cn cs L a ccd cl outer) (call (.ref 52) [.int n t1]) Q E s := by
  subst hbs; exact i2a_call hn B F X N T hk hd hu hret
theorem turned_is {x : Array UInt8} {n k : Int} {t1 t2 t3 : Tok} (htr : turnedF x n k = true) (hx : x.size ≤ 6) (hn0 : 0 ≤ n) (hn1 : n < 16777216) (hk0 : 0 ≤ k) (hk1 : k < 6)
  (B : Below A₀ base outer h₀) (F : Fr h₀ L s.heap m) (X : (hd.heap_39 w.params).In h₀) (N : News h₀ L s.heap news)
  (T : Top Mine.hd.view_39 (looseW Mine.hd.view_39 [Str.ofString "_twin_re_1", Str.ofString "_twin_re_2"]) mean mg mb h₀) (hk : cs.kind = .function)
  (hd : dp + 2 < recursionLimit) (hu : un + 16 < cLine)
  (hret : ∀ h' tk', Fr h₀ L h' m → News h₀ L h' news → Q (.bool true) { s with heap := h', toks := tk' }) :
  wpAny (model PySem.Challenge.rw_sn0006_01.row.prog w) (ktrTop dp un gd cn cs L a ccd cl outer) (call (.ref 95) [.bytes x t1, .int n t2, .int k t3]) Q E s := by
  refine turned_call hx hn0 hn1 hk0 hk1 B F X N T hk hd hu ?_
  rw [htr]; exact hret
theorem mails_is {n : Int} {t1 : Tok} (hn0 : 0 ≤ n) (hn6 : n ≤ 6)
  (B : Below A₀ base outer h₀) (F : Fr h₀ L s.heap m) (X : (hd.heap_39 w.params).In h₀) (N : News h₀ L s.heap news)
  (T : Top Mine.hd.view_39 (looseW Mine.hd.view_39 [Str.ofString "_twin_re_1", Str.ofString "_twin_re_2"]) mean mg mb h₀) (hk : cs.kind = .function)
  (hd : dp + 1 < recursionLimit) (hu : un + 8 < cLine)
  (hret : ∀ D vs c h' tk', Fr h₀ L h' m → News h₀ L h' ((D, { cls := .type "list", data := .seq vs.toArray c }) :: news) → (∀ p ∈ news, @Ne Nat p.1 D) → StrsAre vs (mailsF n 6) → Q (.ref D) { s with heap := h', toks := tk' }) :
  wpAny (model PySem.Challenge.rw_sn0006_01.row.prog w) (ktrTop dp un gd cn cs L a ccd cl outer) (call (.ref 76) [.int n t1]) Q E s :=
  mails_call hn0 hn6 B F X T hk hd hu fun D A' c h' tk' hkp hD hn hJ => hret D A'.toList c h' tk' (back_F F hkp) (back_one F N hkp (by simpa using hD) hn) (back_ne N hn) hJ
theorem saved_is' {x : Str} {t1 : Tok} {wt pr : Int} (hS : savedB x = some (wt, pr)) 
  (B : Below A₀ base outer h₀) (F : Fr h₀ L s.heap m) (X : (hd.heap_39 w.params).In h₀) (N : News h₀ L s.heap news)
  (T : Top Mine.hd.view_39 (looseW Mine.hd.view_39 [Str.ofString "_twin_re_1", Str.ofString "_twin_re_2"]) mean mg mb h₀) (hk : cs.kind = .function)
  (hd : dp + 3 < recursionLimit) (hu : un + 24 < cLine)
  (hret : ∀ D t t' h' tk', Fr h₀ L h' m → News h₀ L h' ((D, { cls := .type "tuple", data := .seq #[.int wt t, .int pr t'] }) :: news) → (∀ p ∈ news, @Ne Nat p.1 D) → Q (.ref D) { s with heap := h', toks := tk' }) :
  wpAny (model PySem.Challenge.rw_sn0006_01.row.prog w) (ktrTop dp un gd cn cs L a ccd cl outer) (call (.ref 88) [.str x t1]) Q E s :=
  saved_call hS B F X T hk hd hu fun D t t' h' tk' hkp hD hn => hret D t t' h' tk' (back_F F hkp) (back_one F N hkp hD hn) (back_ne N hn)
end
theorem booked {P : Params} {h : Heap} (X : (hd.heap_39 P).In h) : NoneBooked h := by
  refine ⟨_, ⟨_, _, _, X cStatics _ rfl, rfl, ?_, fun _ => rfl⟩, ?_⟩
  · intro e he
    have he' := Array.mem_toList_iff.mpr he
    simp only [List.mem_cons, List.not_mem_nil, or_false] at he'
    rcases he' with rfl | rfl | rfl | rfl | rfl | rfl | rfl | rfl | rfl <;> exact ⟨_, _, rfl⟩
  · kernel_rfl
structure Cell where
  r : UInt64
  g : UInt64
  b : UInt64
  st : Int
structure Mix where
  a : Cell
  b : Cell
  c : Cell
  d : Cell
def zc : Cell := ⟨0, 0, 0, 0⟩
def mix0 : Mix := ⟨zc, zc, zc, zc⟩
def Cell.addp (c : Cell) (x y z : UInt64) (q : Bool) : Cell := ⟨Float64.add c.r x, Float64.add c.g y, Float64.add c.b z, if q then c.st + 1 else c.st⟩
def Mix.upd (M : Mix) (pr : Int) (x y z : UInt64) (q : Bool) : Mix :=
  if pr = 0 then { M with a := M.a.addp x y z q } else if pr = 1 then { M with b := M.b.addp x y z q } else if pr = 2 then { M with c := M.c.addp x y z q } else { M with d := M.d.addp x y z q }
def numOf (x : Str) : Int := numF (x.cps.toList.map fun (c : Nat) => (c : Int))
def lineOf (x : Str) : Array UInt8 := (apF (-numOf x).natAbs []).toArray
def chrOf (c : UInt8) : Str := ⟨#[((c.toNat : Int) - 65).toNat]⟩
def stillOf (k : Int) (x : Str) : Bool := (KBy.picked (lineOf x) (some k) none ++ KBy.picked (lineOf x) none (some k)).toList == (lineOf x).toList
abbrev hueOf (k wt : Int) : UInt64 := Float64.div (Float64.ofInt ((k * wt).fmod 6)) 4618441417868443648
abbrev shareOf (sh : Int) : UInt64 := Float64.div (Float64.ofInt sh) 4616189618054758400
/-- what is asked of a mail -/
structure MailIs (k sh : Int) (x : Str) (nm wt pr : Int) (bs : Array UInt8) (p q z : UInt64) : Prop where
  hnum : numF (x.cps.toList.map fun (c : Nat) => (c : Int)) = nm
  h0 : 0 ≤ nm
  h1 : nm < 16777216
  hbs : (apF (-nm).natAbs []).toArray = bs
  hsz : bs.size ≤ 6
  hsig : bs.toList.map chrOf = signs x
  hltr : ∀ c ∈ bs.toList, 65 ≤ c.toNat ∧ c.toNat ≤ 80
  hturn : turnedF bs nm k = true
  hsv : savedB x = some (wt, pr)
  hp0 : 0 ≤ pr
  hp1 : pr ≤ 3
  hhsv : hsvF (hueOf k wt) (shareOf sh) 4616189618054758400 = some (p, q, z)
  hlen : x.length = 6
abbrev cellO (c : Cell) (t1 t2 t3 t4 : Tok) (n : Nat) : Obj := lstO #[.float c.r t1, .float c.g t2, .float c.b t3, .int c.st t4] n
theorem n_fit {n : Int} (h0 : 0 ≤ n) (h1 : n < 16777216) : (-n).natAbs < 16 ^ 20 := by
  have h3 : (16777216 : Nat) < 16 ^ 20 := by decide
  omega
structure PrIn (pr : Int) : Prop where
  h0 : 0 ≤ pr
  h1 : pr ≤ 3
theorem PrIn.cases {pr : Int} (h : PrIn pr) : pr = 0 ∨ pr = 1 ∨ pr = 2 ∨ pr = 3 := by cases h; omega
local macro_rules | `(tactic| walk_at "call ref") => `(tactic| (k_here; (with_reducible show wpAny _ _ (call (Value.ref 83) [Value.str _ _]) _ _ _); k_dflt (refine' num_is ?hnm ?k1 ?k2 ?k3 ?k4 ?k5 ?kK ?kd ?ku  ?_); (case k1 => k_asm); (case k2 => k_asm); (case k3 => k_asm); (case k4 => k_asm); (case k5 => k_asm); (case kK => first | exact rfl | assumption); (case kd => ktr_room); (case ku => ktr_units); (case hnm => assumption); (intro t9 h9 tk9 F9 N9); (try dsimp only); (try k_fold)))
local macro_rules | `(tactic| walk_at "call ref") => `(tactic| (k_here; (with_reducible show wpAny _ _ (call (Value.ref 52) [Value.int _ _]) _ _ _); k_dflt (refine' i2a_is ?hn ?hbs ?k1 ?k2 ?k3 ?k4 ?k5 ?kK ?kd ?ku  ?_); (case k1 => k_asm); (case k2 => k_asm); (case k3 => k_asm); (case k4 => k_asm); (case k5 => k_asm); (case kK => first | exact rfl | assumption); (case kd => ktr_room); (case ku => ktr_units); (case hbs => assumption); (case hn => (refine n_fit ?_ ?_ <;> assumption)); (intro t9 h9 tk9 F9 N9); (try dsimp only); (try k_fold)))
local macro_rules | `(tactic| walk_at "call ref") => `(tactic| (k_here; (with_reducible show wpAny _ _ (call (Value.ref 95) [Value.bytes _ _, Value.int _ _, Value.int _ _]) _ _ _); k_dflt (refine' turned_is ?a1 ?a2 ?a3 ?a4 ?a5 ?a6 ?k1 ?k2 ?k3 ?k4 ?k5 ?kK ?kd ?ku  ?_); (case k1 => k_asm); (case k2 => k_asm); (case k3 => k_asm); (case k4 => k_asm); (case k5 => k_asm); (case kK => first | exact rfl | assumption); (case kd => ktr_room); (case ku => ktr_units); (case a1 => assumption); (case a2 => assumption); (case a3 => assumption); (case a4 => assumption); (case a5 => assumption); (case a6 => assumption); (intro h9 tk9 F9 N9); (try dsimp only); (try k_fold)))
local macro_rules | `(tactic| walk_at "call ref") => `(tactic| (k_here; (with_reducible show wpAny _ _ (call (Value.ref 76) [Value.int _ _]) _ _ _); k_dflt (refine' mails_is ?a1 ?a2 ?k1 ?k2 ?k3 ?k4 ?k5 ?kK ?kd ?ku  ?_); (case k1 => k_asm); (case k2 => k_asm); (case k3 => k_asm); (case k4 => k_asm); (case k5 => k_asm); (case kK => first | exact rfl | assumption); (case kd => ktr_room); (case ku => ktr_units); (case a1 => assumption); (case a2 => assumption); (intro D9 vs9 c9 h9 tk9 F9 N9 l9 hJ9); (try simp only [List.forall_mem_cons, List.forall_mem_nil, and_true] at l9); (try dsimp only); (try k_fold)))
local macro_rules | `(tactic| walk_at "call ref") => `(tactic| (k_here; (with_reducible show wpAny _ _ (call (Value.ref 88) [Value.str _ _]) _ _ _); k_dflt (refine' saved_is' ?a1 ?k1 ?k2 ?k3 ?k4 ?k5 ?kK ?kd ?ku  ?_); (case k1 => k_asm); (case k2 => k_asm); (case k3 => k_asm); (case k4 => k_asm); (case k5 => k_asm); (case kK => first | exact rfl | assumption); (case kd => ktr_room); (case ku => ktr_units); (case a1 => assumption); (intro D9 t9 t8 h9 tk9 F9 N9 l9); (try simp only [List.forall_mem_cons, List.forall_mem_nil, and_true] at l9); (try dsimp only); (try k_fold)))
local macro_rules | `(tactic| walk_at "call ref") => `(tactic| (k_here; (with_reducible show wpAny _ _ (call (Value.ref 45) [Value.float _ _, Value.float _ _, Value.float _ _]) _ _ _); k_dflt (refine' hsv_call ?a1 ?k1 ?k2 ?k3 ?k4 ?k5 ?kK ?kd ?ku  ?_); (case k1 => k_asm); (case k2 => k_asm); (case k3 => k_asm); (case k4 => k_asm); (case k5 => k_asm); (case kK => first | exact rfl | assumption); (case kd => ktr_room); (case ku => ktr_units); (case a1 => assumption); (intro D9 t9 t8 t7 h9 tk9 F9 N9 l9); (try k_lt l9); (try dsimp only); (try k_fold)))

local macro_rules | `(tactic| walk_at "CompSrc") => `(tactic| (k_here; k_dflt (refine LCg.CompSrc.range (by rfl) (by k_asm) (by k_asm) (by assumption) (by first | decide | rfl) (by first | rfl | decide) (by first | size_fits | exact Nat.le_of_ble_eq_true rfl) ?_; intro g'; lcg_lit)))
def stepM (k sh : Int) (M : Mix) (x : Str) : Mix :=
  match savedB x with
  | some (wt, pr) => match hsvF (hueOf k wt) (shareOf sh) 4616189618054758400 with
    | some (p, q, z) => M.upd pr p q z (stillOf k x)
    | none => M
  | none => M
def mixAt (k sh : Int) (ts : List Str) (i : Nat) : Mix := (ts.take i).foldl (stepM k sh) mix0
theorem mixAt_succ {k sh : Int} {ts : List Str} {i : Nat} {x : Str} (h : ts[i]? = some x) : mixAt k sh ts (i + 1) = stepM k sh (mixAt k sh ts i) x := by
  simp [mixAt, List.take_add_one, h]
/-- what is asked of a cell at the end: bare grey below its red by just its share -/
structure CellOk (sh : Int) (c : Cell) (x y : UInt64) : Prop where
  hspec : rgbF c.r c.g c.b = some (x, y, c.r)
  f1 : fgt c.g c.r = false
  f2 : fgt c.b c.r = false
  e1 : (Float64.cmp x 0 == some Ordering.eq) = true
  e2 : (Float64.cmp y (Float64.div (Float64.ofInt (sh * c.st)) (max2F c.r 4607182418800017408)) == some Ordering.eq) = true
  e3 : (Float64.cmp c.r c.r == some Ordering.eq) = true
  s0 : 0 ≤ sh * c.st
  s1 : sh * c.st < 1000000
  hz : Float64.isZero (max2F c.r 4607182418800017408) = false
structure EndOk (sh : Int) (M : Mix) : Prop where
  a : ∃ x y, CellOk sh M.a x y
  b : ∃ x y, CellOk sh M.b x y
  c : ∃ x y, CellOk sh M.c x y
  d : ∃ x y, CellOk sh M.d x y
section
variable {prog : Program} {w : World} {A : Around} {E : Value → Shared → Prop} {s : Shared} {env : Env} {h₀ : Heap} {body : List Stmt} {Q : Flow → Shared → Prop}
abbrev PSt := (Array Value × Nat) × (Array Value × Nat) × (Array Value × Nat) × (Array Value × Nat)
abbrev pLed (m0 m1 m2 m3 D M : Addr) (oD oM : Obj) (c : PSt) : List (Addr × Obj) := [(m0, lstO c.1.1 c.1.2), (m1, lstO c.2.1.1 c.2.1.2), (m2, lstO c.2.2.1.1 c.2.2.1.2), (m3, lstO c.2.2.2.1 c.2.2.2.2), (D, oD), (M, oM)]
abbrev pPs (M : Addr) (k sh : Int) (t2 t3 : Tok) (_ : PSt) : List (Str × Value) := [(Str.ofString "mixes", .ref M), (Str.ofString "turn", .int k t2), (Str.ofString "share", .int sh t3)]
def CellIs (c : Cell) (A : Array Value) : Prop := ∃ t1 t2 t3 t4, A = #[.float c.r t1, .float c.g t2, .float c.b t3, .int c.st t4]
abbrev pInv (k sh : Int) (ts : List Str) (i : Nat) (c : PSt) : Prop := CellIs (mixAt k sh ts i).a c.1.1 ∧ CellIs (mixAt k sh ts i).b c.2.1.1 ∧ CellIs (mixAt k sh ts i).c c.2.2.1.1 ∧ CellIs (mixAt k sh ts i).d c.2.2.2.1
theorem paint_in {D M m0 m1 m2 m3 : Addr} {oM : Obj} {news : List (Addr × Obj)} {vs : List Value} {nn : Nat} {ts : List Str} {k sh : Int} {t2 t3 : Tok} {n0 n1 n2 n3 : Nat} {a0 a1 a2 a3 b0 b1 b2 b3 c0 c1 c2 c3 d0 d1 d2 d3 : Tok} {m₀ : Str → Option Value}
    (hh : A.handled = none) (F : Fr h₀ env.locals s.heap m₀) (N : News h₀ env.locals s.heap news)
    (hD : (D, lstO vs.toArray nn) ∈ news) (hM : (M, oM) ∈ news) (h0 : (m0, cellO zc a0 a1 a2 a3 n0) ∈ news) (h1 : (m1, cellO zc b0 b1 b2 b3 n1) ∈ news) (h2 : (m2, cellO zc c0 c1 c2 c3 n2) ∈ news) (h3 : (m3, cellO zc d0 d1 d2 d3 n3) ∈ news)
    (hAll : ∀ x ∈ ts, ∃ nm wt pr bs p q z, MailIs k sh x nm wt pr bs p q z) (hEnd : EndOk sh (mixAt k sh ts ts.length)) (hts : StrsAre vs ts) (e1 : m₀ (Str.ofString "mixes") = some (.ref M)) (e2 : m₀ (Str.ofString "turn") = some (.int k t2)) (e3 : m₀ (Str.ofString "share") = some (.int sh t3))
    (turn : ∀ (i : Nat) (x : Str) (t : Tok) (Y : Mix) (a0 a1 a2 a3 b0 b1 b2 b3 c0 c1 c2 c3 d0 d1 d2 d3 : Tok) (n0 n1 n2 n3 : Nat) (I : Addr) (u : Str → Option Value) (h : Heap) (tk : Nat) (oI : Obj) (nm wt pr : Int) (bs : Array UInt8) (p q z : UInt64), numF (x.cps.toList.map fun (c : Nat) => (c : Int)) = nm → 0 ≤ nm → nm < 16777216 → (apF (-nm).natAbs []).toArray = bs → bs.size ≤ 6 → bs.toList.map chrOf = signs x → (∀ c ∈ bs.toList, 65 ≤ c.toNat ∧ c.toNat ≤ 80) → turnedF bs nm k = true → savedB x = some (wt, pr) → PrIn pr → 0 ≤ pr → pr ≤ 3 → hsvF (hueOf k wt) (shareOf sh) 4616189618054758400 = some (p, q, z) → x.length = 6 → ts[i]? = some x → mixAt k sh ts i = Y →
      (@Ne Nat m0 I) → (@Ne Nat m1 I) → (@Ne Nat m2 I) → (@Ne Nat m3 I) → (@Ne Nat D I) → (@Ne Nat M I) →
      Fr h₀ env.locals h (fun y => if y = Str.ofString "mail" then some (.str x t) else kstB u (pPs M k sh t2 t3 ((#[], 0), (#[], 0), (#[], 0), (#[], 0))) y) →
      News h₀ env.locals h [(I, oI), (m0, cellO Y.a a0 a1 a2 a3 n0), (m1, cellO Y.b b0 b1 b2 b3 n1), (m2, cellO Y.c c0 c1 c2 c3 n2), (m3, cellO Y.d d0 d1 d2 d3 n3), (D, lstO vs.toArray nn), (M, oM)] →
      wpAny (model prog w) A (execs body env) (TurnPost h₀ env.locals (pLed m0 m1 m2 m3 D M (lstO vs.toArray nn) oM) (pPs M k sh t2 t3) (pInv k sh ts (i + 1)) I oI { s with heap := h, toks := tk } Q) E { s with heap := h, toks := tk })
    (done : ∀ (Y : Mix) (a0 a1 a2 a3 b0 b1 b2 b3 c0 c1 c2 c3 d0 d1 d2 d3 : Tok) (n0 n1 n2 n3 : Nat) (u : Str → Option Value) (h : Heap) (tk : Nat) (x0 y0 x1 y1 x2 y2 x3 y3 : UInt64), CellOk sh Y.a x0 y0 → CellOk sh Y.b x1 y1 → CellOk sh Y.c x2 y2 → CellOk sh Y.d x3 y3 →
      Fr h₀ env.locals h (kstB u (pPs M k sh t2 t3 ((#[], 0), (#[], 0), (#[], 0), (#[], 0)))) →
      News h₀ env.locals h [(m0, cellO Y.a a0 a1 a2 a3 n0), (m1, cellO Y.b b0 b1 b2 b3 n1), (m2, cellO Y.c c0 c1 c2 c3 n2), (m3, cellO Y.d d0 d1 d2 d3 n3), (D, lstO vs.toArray nn), (M, oM)] → Q .next { s with heap := h, toks := tk }) :
    wpAny (model prog w) A (pyIter (.ref D)) (fun it s₂ => LoopAtV prog w A h₀ env (Str.ofString "mail") body Q E it s₂) E s := by
  refine state_list (l := D) (vs := vs) (nn := nn) (pLed m0 m1 m2 m3 D M (lstO vs.toArray nn) oM) (pPs M k sh t2 t3) (pInv k sh ts)
    ((#[.float 0 a0, .float 0 a1, .float 0 a2, .int 0 a3], n0), (#[.float 0 b0, .float 0 b1, .float 0 b2, .int 0 b3], n1), (#[.float 0 c0, .float 0 c1, .float 0 c2, .int 0 c3], n2), (#[.float 0 d0, .float 0 d1, .float 0 d2, .int 0 d3], n3))
    hh (fun c => .tail _ (.tail _ (.tail _ (.tail _ (.head _))))) F ?_ ?_ ?_ ?_ ?_
  · intro p hp
    simp only [pLed, List.mem_cons, List.not_mem_nil, or_false] at hp
    rcases hp with rfl | rfl | rfl | rfl | rfl | rfl
    · exact N _ h0
    · exact N _ h1
    · exact N _ h2
    · exact N _ h3
    · exact N _ hD
    · exact N _ hM
  · intro p hp
    simp only [pPs, List.mem_cons, List.not_mem_nil, or_false] at hp
    rcases hp with rfl | rfl | rfl
    · exact e1
    · exact e2
    · exact e3
  · exact ⟨⟨_, _, _, _, rfl⟩, ⟨_, _, _, _, rfl⟩, ⟨_, _, _, _, rfl⟩, ⟨_, _, _, _, rfl⟩⟩
  · rintro ⟨⟨A0, n0⟩, ⟨A1, n1⟩, ⟨A2, n2⟩, ⟨A3, n3⟩⟩ I i v u h tk oI hv hne ⟨⟨a0, a1, a2, a3, r0⟩, ⟨b0, b1, b2, b3, r1⟩, ⟨c0, c1, c2, c3, r2⟩, ⟨d0, d1, d2, d3, r3⟩⟩ F₁ N₁
    dsimp only at r0 r1 r2 r3
    subst r0 r1 r2 r3
    obtain ⟨x, t, rfl, hx⟩ := StrsAre.item hts i v hv
    obtain ⟨nm, wt, pr, bs, p, q, z, g1, g2, g3, g4, g5, g6, g7, g8, g9, g10, g11, g12, g13⟩ := hAll x (List.mem_of_getElem? hx)
    exact turn i x t _ a0 a1 a2 a3 b0 b1 b2 b3 c0 c1 c2 c3 d0 d1 d2 d3 n0 n1 n2 n3 I u h tk oI nm wt pr bs p q z g1 g2 g3 g4 g5 g6 g7 g8 g9 ⟨g10, g11⟩ g10 g11 g12 g13 hx rfl (hne _ (.head _)) (hne _ (.tail _ (.head _))) (hne _ (.tail _ (.tail _ (.head _)))) (hne _ (.tail _ (.tail _ (.tail _ (.head _))))) (hne _ (.tail _ (.tail _ (.tail _ (.tail _ (.head _)))))) (hne _ (.tail _ (.tail _ (.tail _ (.tail _ (.tail _ (.head _))))))) F₁ N₁
  · rintro ⟨⟨A0, n0⟩, ⟨A1, n1⟩, ⟨A2, n2⟩, ⟨A3, n3⟩⟩ u h tk hJ F₁ N₁
    have el : vs.length = ts.length := hts.len_eq
    rw [el] at hJ
    obtain ⟨⟨a0, a1, a2, a3, r0⟩, ⟨b0, b1, b2, b3, r1⟩, ⟨c0, c1, c2, c3, r2⟩, ⟨d0, d1, d2, d3, r3⟩⟩ := hJ
    dsimp only at r0 r1 r2 r3
    subst r0 r1 r2 r3
    obtain ⟨⟨x0, y0, o0⟩, ⟨x1, y1, o1⟩, ⟨x2, y2, o2⟩, ⟨x3, y3, o3⟩⟩ := hEnd
    exact done _ a0 a1 a2 a3 b0 b1 b2 b3 c0 c1 c2 c3 d0 d1 d2 d3 n0 n1 n2 n3 u h tk x0 y0 x1 y1 x2 y2 x3 y3 o0 o1 o2 o3 F₁ N₁
end
theorem len_line {x : Str} (h : x.length = 6) : x.length ≤ sizeLine := by rw [h]; decide

section
variable {prog : Program} {w : World} {A : Around} {E : Value → Shared → Prop} {s : Shared} {h₀ : Heap} {L : Addr} {m : Str → Option Value} {env : Env}
theorem SrcB.letters {elt : Expr} {x : Str} {scope : Scope} {cl : List (Str × Addr)} {Q : Value → Shared → Prop} {b : Array UInt8} {t : Tok} {news : List (Addr × Obj)} {s₁ : Shared} {ts : List Str}
    (hh : A.handled = none) (F : Fr h₀ L s₁.heap m) (N : News h₀ L s₁.heap news) (hsz : b.size ≤ 6) (hsig : b.toList.map chrOf = ts) (hl : ∀ c ∈ b.toList, 65 ≤ c.toNat ∧ c.toNat ≤ 80)
    (turn : ∀ (c : UInt8) (u : Tok) I oI C oC D m₂ ys h tk (E' : Value → Shared → Prop), 65 ≤ c.toNat → c.toNat ≤ 80 → LCg.NsObj oC m₂ → m₂ x = some (.int (c.toNat : Int) u) → Fr h₀ L h m → News h₀ L h ((I, oI) :: (C, oC) :: (D, LCg.lst ys) :: news) → LCg.Off3 I C D news → ((@Ne Nat I C) ∧ (@Ne Nat I D) ∧ (@Ne Nat C D)) →
      wpAny (model prog w) A (eval elt (compEnvC scope cl C env)) (EltEnd h₀ L m { s₁ with heap := h, toks := tk } ((I, oI) :: (C, oC) :: (D, LCg.lst ys) :: news) (fun y => ∃ t, y = .str (chrOf c) t)) E' { s₁ with heap := h, toks := tk })
    (done : ∀ D ys h tk, Fr h₀ L h m → News h₀ L h ((D, LCg.lst ys) :: news) → LCg.Off1 D news → CarriedAll ys (ts.map PyData.str) → (∀ y ∈ ts, PyData.strOk y = true) → Q (.ref D) { s₁ with heap := h, toks := tk }) :
    SrcB prog w A h₀ L m env elt x scope cl Q (.bytes b t) s₁ := by
  refine SrcB.intro hh F N (Nat.le_trans hsz (by decide)) fun g => ?_
  refine comp_fold (fun i y => ∃ c t, b[i]? = some c ∧ y = .str (chrOf c) t) trivial ?_ ?_
  · rintro i v I oI C oC D m₂ ys h tk E' hi ⟨c, u, hc, rfl⟩ hC hx F' N' off ne
    have hm : c ∈ b.toList := List.mem_of_getElem? (by simpa using hc)
    refine wpAny_mono (turn c u I oI C oC D m₂ ys h tk E' (hl c hm).1 (hl c hm).2 hC hx F' N' off ne) (fun y s₂ q => ?_) fun _ _ e => e
    obtain ⟨h', tk', e, F'', N'', t', rfl⟩ := q
    exact ⟨h', tk', e, F'', N'', c, t', hc, rfl⟩
  · intro ys hlen hG D h tk F' N' o1
    refine done D ys h tk F' N' o1 ?_ ?_
    · subst hsig
      refine carriedAll_of_get _ _ (by simp [hlen]) fun j v hv => ?_
      obtain ⟨c, t', hc, rfl⟩ := hG j v hv
      have hc' : b.toList[j]? = some c := by simpa using hc
      exact ⟨.str (chrOf c), by simp [hc'], .str _ _⟩
    · subst hsig
      intro y hy
      obtain ⟨c, hc, rfl⟩ := List.mem_map.mp hy
      have := (hl c hc).2
      simp only [chrOf, PyData.strOk]
      simp
      omega
end
theorem ne_strs_N {prog : Program} {w : World} {A : Around} {E : Value → Shared → Prop} {s : Shared} {h₀ : Heap} {L : Addr} {news : List (Addr × Obj)} {a b : Addr} {xs ys : List Value} {ts : List Str} {Q : Value → Shared → Prop} (N : News h₀ L s.heap news) {nb : Nat} (hm : (a, LCg.lst xs) ∈ news) (hb : (b, lstO ys.toArray nb) ∈ news) (hi : CarriedAll xs (ts.map PyData.str)) (hj : CarriedAll ys (ts.map PyData.str)) (hok : ∀ x ∈ ts, PyData.strOk x = true)
    (hu : A.units + 64 < cLine) (h : Q (.bool false) s) : wpAny (model prog w) A (compareOp .NotEq (.ref a) (.ref b)) Q E s := ne_strs_same ⟨_, (N _ hm).1, rfl, _, rfl⟩ ⟨_, (N _ hb).1, rfl, _, rfl⟩ hi hj hok hu h
local macro_rules | `(tactic| walk_at "eval ListComp") => `(tactic| (k_here; k_dflt (refine ListComp_bytes (F₀ := by k_asm) (by rfl) (by decide) (by rfl) (by decide) (by rfl) ?_)))
local macro_rules | `(tactic| walk_at "SrcB") => `(tactic| ((with_unfolding_all refine SrcB.letters (by rfl) (by k_asm) (by k_asm) (by assumption) (by assumption) (by assumption) ?_ ?_); (all_goals (intros; (first | (rename LCg.Off3 _ _ _ _ => off'; (try simp only [LCg.Off3, and_true] at off')) | (rename LCg.Off1 _ _ => o1'; (try simp only [LCg.Off1, and_true] at o1'); (try dsimp only)))))))
local macro_rules | `(tactic| walk_at "EltEnd") => `(tactic| exact EltEnd.intro (by assumption) (by assumption) ⟨_, rfl⟩)
theorem chr_lo {c : UInt8} (h : 65 ≤ c.toNat) : (0 : Int) ≤ (c.toNat : Int) - 65 := by omega
theorem chr_hi {c : UInt8} (h : c.toNat ≤ 80) : (c.toNat : Int) - 65 ≤ 1114111 := by omega
theorem chr_hi' {c : UInt8} (h : c.toNat ≤ 80) : (c.toNat : Int) - 65 < 1114112 := by omega
local macro_rules | `(tactic| walk_at "call builtin:chr") => `(tactic| (k_here; (refine chr_of_range (by first | exact chr_lo (by with_reducible assumption) | exact chr_hi (by with_reducible assumption)) (by first | exact chr_hi (by with_reducible assumption) | exact chr_hi' (by with_reducible assumption)) ?_)))
theorem list_strN {prog : Program} {w : World} {A : Around} {E : Value → Shared → Prop} {s : Shared} {h₀ : Heap} {L : Addr} {m : Str → Option Value} {Q : Value → Shared → Prop} {x : Str} {t : Tok} {news : List (Addr × Obj)} (hh : A.handled = none) (Fh : Fr h₀ L s.heap m) (N : News h₀ L s.heap news) (hsz : x.length = 6)
    (hQ : ∀ D (ys : List Value) c h' tk, Fr h₀ L h' m → News h₀ L h' ((D, lstO ys.toArray c) :: news) → (∀ p ∈ news, @Ne Nat p.1 D) → CarriedAll ys ((signs x).map .str) → Q (.ref D) { s with heap := h', toks := tk }) :
    wpAny (model prog w) A (call (.type "list") [.str x t]) Q E s := by
  refine list_strD hh Fh N (fun h' tk ys F' N' hk h0 hl hp hc => ?_) (len_line hsz)
  obtain ⟨c, hD⟩ := hp.1
  refine hQ _ ys c h' tk F' ?_ (fun p hp' e => hp.2 p hp' e) hc
  intro p hp'
  rcases List.mem_cons.mp hp' with rfl | hp'
  · exact ⟨hD, fun e => absurd (Fh.ns.lt) (by have e' : s.heap.objs.size = L := e; rw [← e']; exact Nat.lt_irrefl _), h0⟩
  · exact N' p hp'
local macro_rules | `(tactic| walk_at "call type:list") => `(tactic| (k_here; (with_reducible show wpAny _ _ (call (Value.type _) [Value.str _ _]) _ _ _); (rename Fr _ _ _ _ => F'); (rename News _ _ _ _ => N'); (with_unfolding_all refine list_strN rfl F' N' (by assumption) ?_); intro D9 ys9 c9 h9 tk9 F9 N9 l9 hC9; (try simp only [List.forall_mem_cons, List.forall_mem_nil, and_true] at l9); (try dsimp only)))
local macro_rules | `(tactic| walk_at "compareOp NotEq ref ref") => `(tactic| (k_here; k_dflt (refine ne_strs_N (by with_reducible assumption) (by k_mem) (by k_mem) (by with_reducible assumption) (by with_reducible assumption) (by with_reducible assumption) (by ke_room) ?_)))
local macro_rules | `(tactic| walk_at "exec For Name Name cons nil") => `(tactic| (k_here; (rename Fr _ _ _ _ => lF'); (with_unfolding_all refine' For_invVF lF' ?k1 ?k2 ?_; (case k1 => exact rfl); (case k2 => exact rfl); k_whole)))
local macro_rules | `(tactic| walk_at "pyIter ref") => `(tactic| ((with_reducible show wpAny _ _ (pyIter (Value.ref _)) (fun it s₂ => LoopAtV _ _ _ _ _ _ _ _ _ it s₂) _ _); (rename Fr _ _ _ _ => lF'); (rename News _ _ _ _ => lN'); (with_unfolding_all refine' paint_in rfl lF' lN' ?hD ?hM ?h0 ?h1 ?h2 ?h3 ?hAll ?hEnd ?hts ?e1 ?e2 ?e3 ?_ ?_); (case hAll => assumption); (case hEnd => assumption); (case hts => assumption); (case e1 => with_unfolding_all rfl); (case e2 => with_unfolding_all rfl); (case e3 => with_unfolding_all rfl); (case hD => k_mem); (case h0 => exact .tail _ (.tail _ (.tail _ (.tail _ (.tail _ (.head _)))))); (case h1 => exact .tail _ (.tail _ (.tail _ (.tail _ (.head _))))); (case h2 => exact .tail _ (.tail _ (.tail _ (.head _)))); (case h3 => exact .tail _ (.tail _ (.head _))); (case hM => k_mem); (all_goals (try clear lF' lN')); (all_goals (intros; (try k_fold)))))
local macro_rules | `(tactic| walk_at "TurnPost") => `(tactic| (dsimp only [TurnPost]))
theorem div_sm {prog : Program} {w : World} {A : Around} {E : Value → Shared → Prop} {s : Shared} {a : UInt64} {n : Int} {t u : Tok} {Q : Value → Shared → Prop} (hA : A.handled = none) (h0 : 0 ≤ n) (h1 : n < 1000000) (hz : Float64.isZero a = false) (h : Q (.float (Float64.div (Float64.ofInt n) a) s.toks) { s with toks := s.toks + 1 }) : wpAny (model prog w) A (binaryOp .Div (.int n u) (.float a t)) Q E s := by
  have hno : ¬ Flt.Over n := by
    intro ho
    have h2 : (1000000 : Nat) ≤ 2 ^ 1024 - 2 ^ 970 := by decide +kernel
    have h3 : n.natAbs < 1000000 := by omega
    exact absurd (Nat.le_trans h2 ho) (Nat.not_le.mpr h3)
  exact Flt.truediv_if hA (fun ho => absurd ho hno) (fun _ hz' => by rw [hz] at hz'; cases hz') fun _ _ => h
theorem fm_lo (z : Int) : 0 ≤ z.fmod 6 := fmod_lo _ (by decide)
theorem fm_hi (z : Int) : z.fmod 6 < 1000000 := Int.lt_trans (fmod_hi z (by decide : (0:Int) < 6)) (by decide)
local macro_rules | `(tactic| walk_at "binaryOp Div int float") => `(tactic| k_dflt (refine div_sm (by rfl) (by first | assumption | exact fm_lo _ | omega) (by first | assumption | exact fm_hi _ | omega) (by first | assumption | decide +kernel) ?_))
section
variable {prog : Program} {w : World} {A : Around} {E : Value → Shared → Prop} {s : Shared} {h₀ : Heap} {L D : Addr} {m : Str → Option Value} {news news' : List (Addr × Obj)} {n : Nat} {k : Int} {t u : Tok}
theorem set4_0 {a b c d v : Value} {Q : Unit → Shared → Prop} (hk : k = 0) (F : Fr h₀ L s.heap m) (N : News h₀ L s.heap news) (U : Upd D (lstO #[a, b, c, d] n) (lstO #[v, b, c, d] n) news news') (h : ∀ h', Fr h₀ L h' m → News h₀ L h' news' → Q () { s with heap := h' }) : wpAny (model prog w) A (setItem (.ref D) (.int k t) v) Q E s := by
  subst hk; exact set_lit F N U rfl (by decide) (by show (0:Int) < 4; decide) (by decide) h
theorem set4_1 {a b c d v : Value} {Q : Unit → Shared → Prop} (hk : k = 1) (F : Fr h₀ L s.heap m) (N : News h₀ L s.heap news) (U : Upd D (lstO #[a, b, c, d] n) (lstO #[a, v, c, d] n) news news') (h : ∀ h', Fr h₀ L h' m → News h₀ L h' news' → Q () { s with heap := h' }) : wpAny (model prog w) A (setItem (.ref D) (.int k t) v) Q E s := by
  subst hk; exact set_lit F N U rfl (by decide) (by show (1:Int) < 4; decide) (by decide) h
theorem set4_2 {a b c d v : Value} {Q : Unit → Shared → Prop} (hk : k = 2) (F : Fr h₀ L s.heap m) (N : News h₀ L s.heap news) (U : Upd D (lstO #[a, b, c, d] n) (lstO #[a, b, v, d] n) news news') (h : ∀ h', Fr h₀ L h' m → News h₀ L h' news' → Q () { s with heap := h' }) : wpAny (model prog w) A (setItem (.ref D) (.int k t) v) Q E s := by
  subst hk; exact set_lit F N U rfl (by decide) (by show (2:Int) < 4; decide) (by decide) h
theorem set4_3 {a b c d v : Value} {Q : Unit → Shared → Prop} (hk : k = 3) (F : Fr h₀ L s.heap m) (N : News h₀ L s.heap news) (U : Upd D (lstO #[a, b, c, d] n) (lstO #[a, b, c, v] n) news news') (h : ∀ h', Fr h₀ L h' m → News h₀ L h' news' → Q () { s with heap := h' }) : wpAny (model prog w) A (setItem (.ref D) (.int k t) v) Q E s := by
  subst hk; exact set_lit F N U rfl (by decide) (by show (3:Int) < 4; decide) (by decide) h
end
local macro_rules | `(tactic| walk_at "subscriptTail") => `(tactic| (k_here; (with_reducible show wpAny _ _ (subscriptTail _ _ (Value.ref _) (Value.int _ _)) _ _ _); k_dflt (first
  | (refine' sub_lit ?k1 ?k2 ?k3 ?k4 ?k5 ?_ ?k6; (case k1 => k_asm); (case k2 => k_mem); (case k3 => decide); (case k4 => decide); (case k5 => rfl); (case k6 => with_unfolding_all rfl); k_whole)
  | (refine' tup_lit ?k1 ?k2 ?k3 ?k4 ?k7 ?k5 ?_ ?k6; (case k1 => k_asm); (case k2 => k_mem); (case k3 => decide); (case k4 => decide); (case k7 => rfl); (case k5 => rfl); (case k6 => with_unfolding_all rfl); k_whole))))
local macro_rules | `(tactic| walk_at "getItem ref int") => `(tactic| (k_here; k_dflt (refine' get_lit ?k1 ?k2 ?k3 ?k4 ?k5 ?_; (case k1 => k_asm); (case k2 => k_mem); (case k3 => decide); (case k4 => decide); (case k5 => rfl); k_whole)))
local macro_rules | `(tactic| walk_at "setItem ref int") => `(tactic| (k_here; k_dflt (first
  | (refine' set4_0 ?k0 ?k1 ?k2 ?k3 ?_; (case k0 => rfl); (case k1 => k_asm); (case k2 => k_asm); (case k3 => k_upd); k_whole)
  | (refine' set4_1 ?k0 ?k1 ?k2 ?k3 ?_; (case k0 => rfl); (case k1 => k_asm); (case k2 => k_asm); (case k3 => k_upd); k_whole)
  | (refine' set4_2 ?k0 ?k1 ?k2 ?k3 ?_; (case k0 => rfl); (case k1 => k_asm); (case k2 => k_asm); (case k3 => k_upd); k_whole)
  | (refine' set4_3 ?k0 ?k1 ?k2 ?k3 ?_; (case k0 => rfl); (case k1 => k_asm); (case k2 => k_asm); (case k3 => k_upd); k_whole)); intro h' F' N'; (try k_sweep)))
local macro_rules | `(tactic| walk_at "kD") => `(tactic| ((iterate 11 (try (first | with_reducible assumption | apply And.right))); done))
local macro_rules | `(tactic| walk_at "kX") => `(tactic| first | (apply And.left; walk_at "kD") | (apply And.left; apply And.left; walk_at "kD") | (apply And.left; apply And.right; apply And.left; walk_at "kD") | (apply And.right; apply And.right; apply And.left; walk_at "kD") | (apply And.right; walk_at "kD"))
local macro_rules | `(tactic| k_ne) => `(tactic| (refine neN ?_; (try dsimp only); (first | with_reducible assumption | (exact Ne.symm (by with_reducible assumption)) | (exact Nat.ne_of_lt (by with_reducible assumption)) | (exact Nat.ne_of_gt (by with_reducible assumption)) | (with_reducible exact ce1 _) | (with_reducible exact ce2 _) | (with_reducible exact (ce1 _).symm) | (with_reducible exact (ce2 _).symm) | (walk_at "kX") | (apply Ne.symm; walk_at "kX") | (apply Nat.ne_of_lt; walk_at "kX") | (apply Nat.ne_of_gt; walk_at "kX") | omega)))
theorem News.cutP {h₀ h' : Heap} {L : Addr} {a b c d : Addr × Obj} {r : List (Addr × Obj)} (N : News h₀ L h' (a :: b :: c :: d :: r)) : News h₀ L h' (a :: r) := fun p hp => by
  rcases List.mem_cons.mp hp with e | e
  · exact N p (e ▸ .head _)
  · exact N p (.tail _ (.tail _ (.tail _ (.tail _ e))))
--SPLIT
local macro_rules | `(tactic| walk_at "exec For Name Call cons nil") => `(tactic| (k_here; (with_reducible rename PrIn _ => hP); (with_reducible rename News _ _ _ _ => N9); (have N8 := News.cutP N9); (clear N9); (repeat (with_reducible rename And _ _ => hA9; obtain ⟨_, _⟩ := hA9)); (rcases hP.cases with hpr | hpr | hpr | hpr) <;> (clear hP; subst hpr; (try dsimp only); (try k_fold))))
local macro_rules | `(tactic| walk_at "exec AugAssign Subscript") => `(tactic| (k_here; (repeat (with_reducible rename And _ _ => hA9; obtain ⟨_, _⟩ := hA9)); with_unfolding_all (first
  | ((with_reducible show wpAny _ _ (exec (Stmt.AugAssign (Expr.Subscript _ (Expr.Constant _ _ _) _) _ _ _) _) _ _ _); refine' aug_one (by rfl) (by rfl) (by rfl) (by decide) (by decide) ?F ?ha ?hb ?N ?hM ?h0 ?h1 ?hr ?hm ?U ?_; (case F => assumption); (case N => assumption); (case ha => with_unfolding_all rfl); (case hb => with_unfolding_all rfl); (case hM => k_mem); (case h0 => decide); (case h1 => decide); (case hr => rfl); (case hm => k_mem); (case U => k_updF); k_whole)
  | (refine' aug_c0 (by rfl) (by rfl) (by rfl) (by rfl) (by rfl) (by decide) (by decide) (by decide) (by decide) ?F ?ha ?hb ?hx ?hc ?N ?hM ?h0 ?h1 ?hr ?hm ?U ?hj ?hT ?hs ?ht ?_; (case F => assumption); (case N => assumption); (case hx => with_unfolding_all rfl); (case hj => exact rfl); (case ha => with_unfolding_all rfl); (case hb => with_unfolding_all rfl); (case hc => with_unfolding_all rfl); (case hM => k_mem); (case hT => k_mem); (case h0 => decide); (case h1 => decide); (case hr => rfl); (case hm => k_mem); (case U => k_updF); (case hs => rfl); (case ht => rfl); k_whole)
  | (refine' aug_c1 (by rfl) (by rfl) (by rfl) (by rfl) (by rfl) (by decide) (by decide) (by decide) (by decide) ?F ?ha ?hb ?hx ?hc ?N ?hM ?h0 ?h1 ?hr ?hm ?U ?hj ?hT ?hs ?ht ?_; (case F => assumption); (case N => assumption); (case hx => with_unfolding_all rfl); (case hj => exact rfl); (case ha => with_unfolding_all rfl); (case hb => with_unfolding_all rfl); (case hc => with_unfolding_all rfl); (case hM => k_mem); (case hT => k_mem); (case h0 => decide); (case h1 => decide); (case hr => rfl); (case hm => k_mem); (case U => k_updF); (case hs => rfl); (case ht => rfl); k_whole)
  | (refine' aug_c2 (by rfl) (by rfl) (by rfl) (by rfl) (by rfl) (by decide) (by decide) (by decide) (by decide) ?F ?ha ?hb ?hx ?hc ?N ?hM ?h0 ?h1 ?hr ?hm ?U ?hj ?hT ?hs ?ht ?_; (case F => assumption); (case N => assumption); (case hx => with_unfolding_all rfl); (case hj => exact rfl); (case ha => with_unfolding_all rfl); (case hb => with_unfolding_all rfl); (case hc => with_unfolding_all rfl); (case hM => k_mem); (case hT => k_mem); (case h0 => decide); (case h1 => decide); (case hr => rfl); (case hm => k_mem); (case U => k_updF); (case hs => rfl); (case ht => rfl); k_whole)); intro h' t' tk' F' N'; (try dsimp only at N')))
local macro_rules | `(tactic| walk_at "subscriptTail") => `(tactic| (k_here; (with_reducible show wpAny _ _ (subscriptTail _ (Expr.Slice _ _ none _) (Value.bytes _ _) (Value.ref _)) _ _ _); (with_reducible rename Fr _ _ _ _ => F'); (with_reducible rename News _ _ _ _ => N'); (with_reducible rename Array.size _ ≤ 6 => hz6); (refine' bslice (s := ⟨_, _, _, _, _⟩) F' N' ?b1 ?b2 (Nat.le_trans hz6 (by decide)) ?_ ?b3 ?b4); (case b1 => constructor); (case b2 => constructor); (case b3 => with_unfolding_all rfl); (case b4 => (intro _; with_unfolding_all rfl)); intro _ _ _ _ _))
local macro_rules | `(tactic| walk_at "binaryOp Add bytes bytes") => `(tactic| (k_here; (with_reducible show wpAny _ _ (binaryOp Operator.Add (Value.bytes _ _) (Value.bytes _ _)) _ _ _); (with_reducible rename Array.size _ ≤ 6 => hz6); (refine badd ?hsz ?_); (case hsz => (refine Nat.le_trans (Nat.add_le_add (KBc.size_picked_le _ _ _) (KBc.size_picked_le _ _ _)) (Nat.le_trans (Nat.add_le_add hz6 hz6) (by decide)))); intro _ _))
theorem mix_step {k sh : Int} {ts : List Str} {i : Nat} {x : Str} {Y : Mix} {wt pr nm : Int} {p q z : UInt64} {bs : Array UInt8} {st : Bool} (hx : ts[i]? = some x) (hY : mixAt k sh ts i = Y) (hS : savedB x = some (wt, pr)) (hh : hsvF (hueOf k wt) (shareOf sh) 4616189618054758400 = some (p, q, z))
    (hnum : numF (x.cps.toList.map fun (c : Nat) => (c : Int)) = nm) (hbs : (apF (-nm).natAbs []).toArray = bs) (hst : ((KBy.picked bs (some k) none ++ KBy.picked bs none (some k)).toList == bs.toList) = st) : mixAt k sh ts (i + 1) = Y.upd pr p q z st := by
  subst hY hnum hbs hst
  rw [mixAt_succ hx]
  simp only [stepM, hS, hh]
  rfl
theorem turn_fin {k sh : Int} {ts : List Str} {i : Nat} {Y : Mix} {h₀ h' : Heap} {L : Addr} {m' : Str → Option Value} {T I m0 m1 m2 m3 D M : Addr} {oT oI oD oM : Obj} {A0 A1 A2 A3 : Array Value} {n0 n1 n2 n3 : Nat} {t2 t3 : Tok} {s₁ : Shared} {tk : Nat}
    (F : Fr h₀ L h' m') (N : News h₀ L h' [(T, oT), (I, oI), (m0, lstO A0 n0), (m1, lstO A1 n1), (m2, lstO A2 n2), (m3, lstO A3 n3), (D, oD), (M, oM)])
    (d0 : @Ne Nat m0 I) (d1 : @Ne Nat m1 I) (d2 : @Ne Nat m2 I) (d3 : @Ne Nat m3 I) (d4 : @Ne Nat D I) (d5 : @Ne Nat M I)
    (e1 : m' (Str.ofString "mixes") = some (.ref M)) (e2 : m' (Str.ofString "turn") = some (.int k t2)) (e3 : m' (Str.ofString "share") = some (.int sh t3))
    (hY : mixAt k sh ts (i + 1) = Y) (c0 : CellIs Y.a A0) (c1 : CellIs Y.b A1) (c2 : CellIs Y.c A2) (c3 : CellIs Y.d A3) :
    TurnEnd h₀ L (pLed m0 m1 m2 m3 D M oD oM) (pPs M k sh t2 t3) (pInv k sh ts (i + 1)) I oI s₁ { s₁ with heap := h', toks := tk } := by
  refine turn_end ((A0, n0), (A1, n1), (A2, n2), (A3, n3)) F N (fun p hp => .tail _ (.tail _ hp)) (.tail _ (.head _)) ?_ ?_ ?_
  · intro p hp
    simp only [pLed, List.mem_cons, List.not_mem_nil, or_false] at hp
    rcases hp with rfl | rfl | rfl | rfl | rfl | rfl <;> assumption
  · intro p hp
    simp only [pPs, List.mem_cons, List.not_mem_nil, or_false] at hp
    rcases hp with rfl | rfl | rfl
    · exact e1
    · exact e2
    · exact e3
  · subst hY
    exact ⟨c0, c1, c2, c3⟩
local macro_rules | `(tactic| walk_at "TurnEnd") => `(tactic| ((refine' turn_fin ?F ?N ?d0 ?d1 ?d2 ?d3 ?d4 ?d5 ?e1 ?e2 ?e3 ?hY ?c0 ?c1 ?c2 ?c3); (case F => assumption); (case N => assumption); (case hY => exact mix_step (by with_reducible assumption) (by with_reducible assumption) (by with_reducible assumption) (by with_reducible assumption) (by with_reducible assumption) (by with_reducible assumption) (by with_reducible assumption)); (case d0 => with_reducible assumption); (case d1 => with_reducible assumption); (case d2 => with_reducible assumption); (case d3 => with_reducible assumption); (case d4 => with_reducible assumption); (case d5 => with_reducible assumption); (case e1 => with_unfolding_all rfl); (case e2 => with_unfolding_all rfl); (case e3 => with_unfolding_all rfl); (case c0 => exact ⟨_, _, _, _, rfl⟩); (case c1 => exact ⟨_, _, _, _, rfl⟩); (case c2 => exact ⟨_, _, _, _, rfl⟩); (case c3 => exact ⟨_, _, _, _, rfl⟩)))
theorem rgb_ok {sh : Int} {c : Cell} {x y : UInt64} {t1 t2 t3 : Tok} (hc : CellOk sh c x y) {w : World} {mean : ExcName → Option Value} {mg mb : Str → Option Value} {news : List (Addr × Obj)}
  {dp un : Nat} {gd : Option (List Code)} {cn : Str} {cs : Scope} {a : Addr} {ccd : Value} {cl : List (Str × Addr)} {outer : List Env} {A₀ : Around} {base h₀ : Heap} {L : Addr} {m : Str → Option Value} {s : Shared} {Q E : Value → Shared → Prop}
  (B : Below A₀ base outer h₀) (F : Fr h₀ L s.heap m) (X : (hd.heap_39 w.params).In h₀) (N : News h₀ L s.heap news)
  (T : Top Mine.hd.view_39 (looseW Mine.hd.view_39 [Str.ofString "_twin_re_1", Str.ofString "_twin_re_2"]) mean mg mb h₀) (hk : cs.kind = .function)
  (hd : dp + 1 < recursionLimit) (hu : un + 8 < cLine)
  (hret : ∀ D t1' t2' h' tk', Fr h₀ L h' m → News h₀ L h' ((D, tup3 x y c.r t1' t2' t1) :: news) → (∀ p ∈ news, p.1 < D) → @Ne Nat t1' 0 → @Ne Nat t2' 0 → 1 ≤ tk' → Q (.ref D) { s with heap := h', toks := tk' }) :
  wpAny (model PySem.Challenge.rw_sn0006_01.row.prog w) (ktrTop dp un gd cn cs L a ccd cl outer) (call (.ref 38) [.float c.r t1, .float c.g t2, .float c.b t3]) Q E s := by
  refine rgb_call hc.hspec B F X N T hk hd hu fun D t1' t2' t3' h' tk' F' N' hl n1 n2 h3 htk => ?_
  have e := h3 ⟨hc.f1, hc.f2⟩
  subst e
  exact hret D t1' t2' h' tk' F' N' hl n1 n2 htk
theorem div_ok {prog : Program} {w : World} {A : Around} {E : Value → Shared → Prop} {s : Shared} {sh : Int} {c : Cell} {x y : UInt64} {t u : Tok} {Q : Value → Shared → Prop} (hc : CellOk sh c x y) (hA : A.handled = none) (h : Q (.float (Float64.div (Float64.ofInt (sh * c.st)) (max2F c.r 4607182418800017408)) s.toks) { s with toks := s.toks + 1 }) : wpAny (model prog w) A (binaryOp .Div (.int (sh * c.st) u) (.float (max2F c.r 4607182418800017408) t)) Q E s :=
  div_sm hA hc.s0 hc.s1 hc.hz h
theorem ne_ok {w : World} {A : Around} {E : Value → Shared → Prop} {s : Shared} {P : Params} {h₀ : Heap} {L : Addr} {m : Str → Option Value} {news : List (Addr × Obj)} {sh : Int} {c : Cell} {x y : UInt64} {D D' : Addr} {t1 t2 t3 u1 u2 : Tok} {Q : Value → Shared → Prop} (hc : CellOk sh c x y)
    (X : (hd.heap_39 P).In h₀) (F : Fr h₀ L s.heap m) (N : News h₀ L s.heap news) (hm : (D, tup3 x y c.r t1 t2 t3) ∈ news) (hm' : (D', tup3 0 (Float64.div (Float64.ofInt (sh * c.st)) (max2F c.r 4607182418800017408)) c.r u1 u2 t3) ∈ news)
    (n1 : @Ne Nat t1 0) (n2 : @Ne Nat t2 0) (m1 : @Ne Nat u1 0) (m2 : @Ne Nat u2 0) (hu : A.units < cLine) (h : Q (.bool false) s) : wpAny (model PySem.Challenge.rw_sn0006_01.row.prog w) A (compareOp .NotEq (.ref D) (.ref D')) Q E s :=
  ne_tup3_same (N _ hm).1 (N _ hm').1 (.inr ⟨n1, m1⟩) (.inr ⟨n2, m2⟩) (.inl ⟨rfl, rfl⟩) hc.e1 hc.e2 hc.e3 (booked (X.keeps F.keep)) hu h
local macro_rules | `(tactic| walk_at "call ref") => `(tactic| (k_here; (with_reducible show wpAny _ _ (call (Value.ref 38) [Value.float _ _, Value.float _ _, Value.float _ _]) _ _ _); k_dflt (refine' rgb_ok ?hc ?k1 ?k2 ?k3 ?k4 ?k5 ?kK ?kd ?ku  ?_); (case k1 => k_asm); (case k2 => k_asm); (case k3 => k_asm); (case k4 => k_asm); (case k5 => k_asm); (case kK => first | exact rfl | assumption); (case kd => ktr_room); (case ku => ktr_units); (case hc => with_reducible assumption); (intro D9 t9 t8 h9 tk9 F9 N9 l9 n9 n8 q9); (try k_lt l9); (try dsimp only); (try k_fold)))

local macro_rules | `(tactic| walk_at "binaryOp Div int float") => `(tactic| (k_here; (with_reducible show wpAny _ _ (binaryOp _ (Value.int (_ * Cell.st _) _) (Value.float (max2F _ _) _)) _ _ _); k_dflt (refine div_ok (by with_reducible assumption) (by rfl) ?_)))
local macro_rules | `(tactic| walk_at "compareOp NotEq ref ref") => `(tactic| (k_here; k_dflt (refine' ne_ok ?hc ?X ?F ?N ?hm ?hm' ?n1 ?n2 ?m1 ?m2 ?hu ?_; (case X => k_asm); (case F => k_asm); (case N => k_asm); (case hm => k_mem); (case hm' => k_mem); (case hc => with_reducible assumption); (case n1 => with_reducible assumption); (case n2 => with_reducible assumption); (case m1 => (refine neN ?_; (try dsimp only); omega)); (case m2 => (refine neN ?_; (try dsimp only); omega)); (case hu => ke_room); k_whole)))
local macro_rules | `(tactic| walk_at "call builtin:max") => `(tactic| (k_here; (with_reducible show wpAny _ _ (call (Value.builtin _) [Value.float _ _, Value.float _ _]) _ _ _); (with_unfolding_all refine' max2_P ?hp ?hh ?F ?N ?_); (case hh => with_unfolding_all rfl); (case F => assumption); (case N => assumption); (case hp => first | with_reducible assumption | exact Nat.le_add_left 1 _ | (show (1:Nat) ≤ _; omega)); intro _ _ _ _ _ _))
theorem paint_call {n k sh : Int} {t1 t2 t3 : Tok} (hn0 : 0 ≤ n) (hn6 : n ≤ 6) (hk0 : 0 ≤ k) (hk1 : k < 6) (hs0 : 1 ≤ sh) (hs1 : sh ≤ 4) (hAll : ∀ x ∈ mailsF n 6, ∃ nm wt pr bs p q z, MailIs k sh x nm wt pr bs p q z) (hEnd : EndOk sh (mixAt k sh (mailsF n 6) (mailsF n 6).length)) {w : World} {mean : ExcName → Option Value} {mg mb : Str → Option Value}
  {dp un : Nat} {gd : Option (List Code)} {cn : Str} {cs : Scope} {a : Addr} {ccd : Value} {cl : List (Str × Addr)} {outer : List Env} {A₀ : Around} {base h₀ : Heap} {L : Addr} {m : Str → Option Value} {s : Shared} {Q E : Value → Shared → Prop}
  (B : Below A₀ base outer h₀) (F : Fr h₀ L s.heap m) (X : (hd.heap_39 w.params).In h₀)
  (T : Top Mine.hd.view_39 (looseW Mine.hd.view_39 [Str.ofString "_twin_re_1", Str.ofString "_twin_re_2"]) mean mg mb h₀) (hk : cs.kind = .function)
  (hd : dp + 5 < recursionLimit) (hu : un + 300 < cLine)
  (hret : ∀ h' tk', (∀ b o, s.heap.get? b = some o → h'.get? b = some o) → Q (.bool true) { s with heap := h', toks := tk' }) :
  wpAny (model PySem.Challenge.rw_sn0006_01.row.prog w) (ktrTop dp un gd cn cs L a ccd cl outer) (call (.ref 100) [.int n t1, .int k t2, .int sh t3]) Q E s := by
  w_top off
  k_with_none
  revert X; k_fill; intro X
  refine wpAny_call ?_
  k_dflt (refine' code_pure ?k1 ?k2 ?k3 ?k5 ?kA ?kF ?kK ?k6 ?k7 ?k8 ?k9 ?kB ?_ ?c2 ?c3 ?c4 ?c5; (case kA => exact rfl); (case kF => exact rfl); (case kK => assumption); (case k1 => k_asm); (case k2 => k_asm); (case k3 => k_asm); (case k5 => k_asm); (case k6 => k_is); (case k7 => k_is); (case k8 => ktr_room); (case k9 => exact BindsTo.of_eq rfl); (case c5 => decide); (case kB => exact locs rfl); (case c2 => exact rfl); (case c3 => exact rfl); (case c4 => exact rfl); k_whole; intro L' h' F' N' B' X' T'; (try dsimp only); (try k_lift B'); (try k_fold))
  k_steps
  all_goals exact hret _ _ (Fr.keep (by assumption))
end Mine

open PySem PySem.W PyProof.Rows PySem.Spec PySem.Calls
set_option maxRecDepth 100000
set_option maxHeartbeats 8000000
set_option linter.unusedVariables false
namespace Mine
open Builtin Builtin.Str StrLaws
/-- nl by one look at a time -/
def nlS : Bool → List Nat → List Nat
  | _, [] => []
  | sk, c :: r => if c = 10 then (if sk then nlS false r else 13 :: 10 :: nlS false r) else if c = 13 then 13 :: 10 :: nlS true r else c :: nlS false r
theorem nl_S : ∀ (n : Nat) (l : List Nat), l.length ≤ n → nl l = nlS false l
  | _, [], _ => by rw [nl.eq_def]; rfl
  | 0, _ :: _, h => by simp at h
  | n + 1, c :: r, h => by
    have h' : r.length ≤ n := by simpa using h
    rw [nl_cons]
    show _ = (if c = 10 then (if false = true then nlS false r else 13 :: 10 :: nlS false r) else if c = 13 then 13 :: 10 :: nlS true r else c :: nlS false r)
    by_cases h10 : c = 10
    · rw [if_pos h10, if_pos h10, if_neg (by decide), nl_S n r h']
    · rw [if_neg h10, if_neg h10]
      by_cases h13 : c = 13
      · rw [if_pos h13, if_pos h13]
        cases r with
        | nil => rfl
        | cons d r' =>
          dsimp only
          by_cases hd : d = 10
          · rw [if_pos hd, nl_S n r' (by simp at h'; omega)]
            show _ = 13 :: 10 :: (if d = 10 then (if true = true then nlS false r' else _) else _)
            rw [if_pos hd, if_pos rfl]
          · rw [if_neg hd, nl_S n (d :: r') h']
            show _ = 13 :: 10 :: (if d = 10 then _ else if d = 13 then 13 :: 10 :: nlS true r' else d :: nlS false r')
            rw [if_neg hd]
            show _ :: _ :: (if d = 10 then _ else if d = 13 then 13 :: 10 :: nlS true r' else d :: nlS false r') = _
            rw [if_neg hd]
      · rw [if_neg h13, if_neg h13, nl_S n r h']
def quoS (x : Str) : Str := ⟨(dots true (nlS false x.cps.toList)).toArray⟩
theorem quo_S (x : Str) : quoF x = quoS x := by unfold quoF quoS; rw [nl_S _ _ (Nat.le_refl _)]

def rep : Nat → List Nat
  | 0 => []
  | k + 1 => 13 :: 10 :: rep k
def repS (k : Nat) : Str := ⟨(rep k).toArray⟩

abbrev aS : Str := Str.ofString "a"
theorem at_a {x : Str} {i : Nat} (h : x.cps.toList[i]? = some 97) : i + aS.length ≤ x.length ∧ subAt x aS i = true := by
  obtain ⟨h3, h3'⟩ := List.getElem?_eq_some_iff.mp h
  have hs : x.cps.toList.length = x.length := by simp [Str.length]
  have hc : aS.length = 1 := rfl
  refine ⟨by omega, ?_⟩
  rw [subAt_eq]
  have e : aS.cps.toList = [97] := rfl
  rw [e, hc, List.drop_eq_getElem_cons h3, h3']
  rfl
theorem occ_alla {x : Str} : ∀ (n a : Nat) (st : Array Nat × Nat), a + n ≤ x.length + 1 → (∀ i < a, x.cps.toList[i]? = some 97 → i ∈ st.1.toList) → st.2 ≤ a → st.1.size ≤ a →
    ∀ i < a + n, x.cps.toList[i]? = some 97 → i ∈ (forIn (List.range' a n) st (occBody x aS x.length (x.length + 1))).run.fst.toList
  | 0, a, st, _, h1, _, _ => by simpa using h1
  | n + 1, a, st, hn, h1, h2, h3 => by
    rw [List.range'_succ, List.forIn_cons]
    unfold occBody
    have e : a + (n + 1) = (a + 1) + n := by omega
    have hc1 : aS.length = 1 := rfl
    rw [e]
    split
    · rename_i hc
      refine occ_alla n (a + 1) _ (by omega) ?_ ?_ ?_
      · intro i hi hv
        show i ∈ (st.1.push a).toList
        rw [Array.toList_push]
        by_cases q : i = a
        · subst q; simp
        · exact List.mem_append_left _ (h1 i (by omega) hv)
      · show a + aS.length ≤ a + 1
        omega
      · show (st.1.push a).size ≤ _
        rw [Array.size_push]; omega
    · rename_i hc
      refine occ_alla n (a + 1) _ (by omega) ?_ ?_ ?_
      · intro i hi hv
        show i ∈ st.1.toList
        by_cases q : i = a
        · subst q
          exfalso
          have hat := at_a hv
          exact hc ⟨⟨⟨by omega, h2⟩, hat.1⟩, hat.2⟩
        · exact h1 i (by omega) hv
      · show st.2 ≤ a + 1
        omega
      · show st.1.size ≤ a + 1
        omega
theorem occ_full {x : Str} (i : Nat) (h : x.cps.toList[i]? = some 97) : i ∈ occurrences x aS 0 x.length (x.length + 1) := by
  rw [occ_eq]
  have hl := (List.getElem?_eq_some_iff.mp h).1
  have hs : x.cps.toList.length = x.length := by simp [Str.length]
  exact occ_alla (x.length + 1 - 0) 0 (#[], 0) (by omega) (fun i hi => absurd hi (Nat.not_lt_zero _)) (Nat.le_refl _) (Nat.le_refl _) i (by omega) h
theorem chain_ge {x y : Str} {hi : Nat} : ∀ {a : Nat} {cuts : List Nat} {f : Nat}, ChainTo x y hi a cuts f → ∀ i ∈ cuts, a ≤ i
  | a, [], _, _, _, h => by cases h
  | a, c :: r, f, h, i, hi => by
    rcases List.mem_cons.mp hi with rfl | hi
    · exact h.1
    · have := chain_ge h.2.2 i hi
      have := h.1
      omega
theorem free_sub {x : Str} {a b : Nat} (h : ∀ i : Nat, a ≤ i → i < b → x.cps.toList[i]? ≠ some 97) : 97 ∉ (strSub x a b).cps.toList := by
  intro hm
  rw [strSub_toList] at hm
  obtain ⟨k, hk⟩ := List.getElem?_of_mem hm
  rw [List.getElem?_take, List.getElem?_drop] at hk
  split at hk
  · exact h (a + k) (by omega) (by omega) hk
  · cases hk
theorem parts_free {x : Str} : ∀ (cuts : List Nat) (a f : Nat), ChainTo x aS x.length a cuts f → (∀ i : Nat, a ≤ i → x.cps.toList[i]? = some 97 → i ∈ cuts) → ∀ p ∈ partsFrom x aS.length a cuts, 97 ∉ p.cps.toList
  | [], a, f, _, h, p, hp => by
    rw [List.mem_singleton.mp hp]
    exact free_sub fun i h0 _ hv => absurd (h i h0 hv) (by simp)
  | c :: r, a, f, hc, h, p, hp => by
    rcases List.mem_cons.mp hp with rfl | hp
    · refine free_sub fun i h0 h1 hv => ?_
      rcases List.mem_cons.mp (h i h0 hv) with rfl | hm
      · omega
      · have := chain_ge hc.2.2 i hm
        omega
    · refine parts_free r _ f hc.2.2 (fun i h0 hv => ?_) p hp
      have hl : aS.length = 1 := rfl
      have h1 := hc.1
      rcases List.mem_cons.mp (h i (by omega) hv) with rfl | hm
      · omega
      · exact hm
theorem split_free {x : Str} : ∀ p ∈ Txt.split x aS, 97 ∉ p.cps.toList := by
  have hs : x.cps.toList.length = x.length := by simp [Str.length]
  have hno : (∀ i : Nat, x.cps.toList[i]? ≠ some 97) → ∀ p ∈ [x], 97 ∉ p.cps.toList := by
    intro h p hp hm
    rw [List.mem_singleton.mp hp] at hm
    obtain ⟨k, hk⟩ := List.getElem?_of_mem hm
    exact h k hk
  unfold Txt.split
  split
  · rename_i hc
    refine hno fun i hv => ?_
    have h1 := (at_a hv).1
    have k1 : 1 ≤ Builtin.Str.strKind x := by unfold Builtin.Str.strKind; split; exact Nat.le_refl _; split <;> omega
    have k2 : Builtin.Str.strKind aS = 1 := by decide +kernel
    simp only [Bool.or_eq_true, decide_eq_true_eq] at hc
    rcases hc with hc | hc
    · omega
    · omega
  · split
    · rename_i hc
      refine hno fun i hv => ?_
      have := occ_full i hv
      rw [List.isEmpty_iff.mp hc] at this
      cases this
    · rw [partsBetween_eq]
      obtain ⟨f, hf⟩ := occ_chain x aS (x.length + 1)
      exact parts_free _ 0 f hf fun i _ hv => occ_full i hv
theorem join_cons (y p q : Str) (r : List Str) : (Str.join y (p :: q :: r)).cps.toList = p.cps.toList ++ (y.cps.toList ++ (Str.join y (q :: r)).cps.toList) := by
  show (p ++ y ++ Str.join y (q :: r)).cps.toList = _
  simp [Str.cps_append]
theorem cut_eq : ∀ {l m l' m' : List Nat}, 97 ∉ l → 97 ∉ l' → l ++ 97 :: m = l' ++ 97 :: m' → l = l' ∧ m = m'
  | [], m, [], m', _, _, h => ⟨rfl, by simpa using h⟩
  | [], m, b :: l', m', _, h2, h => by
    simp at h
    exact absurd h.1 (by simp at h2; exact fun q => h2.1 q)
  | a :: l, m, [], m', h1, _, h => by
    simp at h
    exact absurd h.1.symm (by simp at h1; exact fun q => h1.1 q)
  | a :: l, m, b :: l', m', h1, h2, h => by
    simp only [List.cons_append, List.cons.injEq] at h
    obtain ⟨e1, e2⟩ := cut_eq (fun q => h1 (List.mem_cons_of_mem _ q)) (fun q => h2 (List.mem_cons_of_mem _ q)) h.2
    exact ⟨by rw [h.1, e1], e2⟩
theorem str_eq {a b : Str} (h : a.cps.toList = b.cps.toList) : a = b := Str.ext' (Array.toList_inj.mp h)
theorem join_inj : ∀ {ps qs : List Str}, ps ≠ [] → qs ≠ [] → (∀ p ∈ ps, 97 ∉ p.cps.toList) → (∀ p ∈ qs, 97 ∉ p.cps.toList) → (Str.join aS ps).cps.toList = (Str.join aS qs).cps.toList → ps = qs
  | [], _, h, _, _, _, _ => absurd rfl h
  | _, [], _, h, _, _, _ => absurd rfl h
  | [p], [q], _, _, _, _, h => by rw [str_eq (a := p) (b := q) h]
  | [p], q :: q' :: r, _, _, h1, _, h => by
    rw [join_cons] at h
    have : (97 : Nat) ∈ p.cps.toList := by
      have e : p.cps.toList = (Str.join aS [p]).cps.toList := rfl
      rw [e, h]
      exact List.mem_append_right _ (List.mem_append_left _ (.head _))
    exact absurd this (h1 p (.head _))
  | p :: p' :: r, [q], _, _, _, h2, h => by
    rw [join_cons] at h
    have : (97 : Nat) ∈ q.cps.toList := by
      have e : q.cps.toList = (Str.join aS [q]).cps.toList := rfl
      rw [e, ← h]
      exact List.mem_append_right _ (List.mem_append_left _ (.head _))
    exact absurd this (h2 q (.head _))
  | p :: p' :: r, q :: q' :: r', _, _, h1, h2, h => by
    rw [join_cons, join_cons] at h
    obtain ⟨e1, e2⟩ := cut_eq (m := (Str.join aS (p' :: r)).cps.toList) (m' := (Str.join aS (q' :: r')).cps.toList) (h1 p (.head _)) (h2 q (.head _)) h
    have e3 := join_inj (ps := p' :: r) (qs := q' :: r') (by simp) (by simp) (fun z hz => h1 z (List.mem_cons_of_mem _ hz)) (fun z hz => h2 z (List.mem_cons_of_mem _ hz)) e2
    rw [str_eq e1, e3]
theorem split_ne (x : Str) : Txt.split x aS ≠ [] := by
  unfold Txt.split
  split
  · simp
  · split
    · simp
    · rw [partsBetween_eq]
      obtain ⟨p, r, e⟩ := partsFrom_ne x aS.length 0 (occurrences x aS 0 x.length (x.length + 1))
      rw [e]; simp

def cutL : List Nat → List (List Nat)
  | [] => [[]]
  | c :: r => if c = 97 then [] :: cutL r else match cutL r with
    | p :: ps => (c :: p) :: ps
    | [] => [[c]]
def mkS (l : List Nat) : Str := ⟨l.toArray⟩
theorem mkS_list (l : List Nat) : (mkS l).cps.toList = l := by simp [mkS]
theorem cutL_ok : ∀ l, cutL l ≠ [] ∧ (∀ p ∈ cutL l, 97 ∉ p) ∧ (Str.join aS ((cutL l).map mkS)).cps.toList = l
  | [] => ⟨by simp [cutL], by simp [cutL], rfl⟩
  | c :: r => by
    obtain ⟨h1, h2, h3⟩ := cutL_ok r
    have e : cutL (c :: r) = if c = 97 then [] :: cutL r else match cutL r with
      | p :: ps => (c :: p) :: ps
      | [] => [[c]] := rfl
    by_cases hc : c = 97
    · rw [e, if_pos hc]
      refine ⟨by simp, ?_, ?_⟩
      · intro p hp
        rcases List.mem_cons.mp hp with rfl | hp
        · simp
        · exact h2 p hp
      · obtain ⟨q, qs, hq⟩ : ∃ q qs, cutL r = q :: qs := by
          cases h : cutL r with
          | nil => exact absurd h h1
          | cons q qs => exact ⟨q, qs, rfl⟩
        rw [hq] at h3 ⊢
        show (Str.join aS (mkS [] :: mkS q :: qs.map mkS)).cps.toList = _
        rw [join_cons]
        have h3' : (Str.join aS (mkS q :: qs.map mkS)).cps.toList = r := h3
        rw [h3', mkS_list, hc]
        rfl
    · rw [e, if_neg hc]
      cases h : cutL r with
      | nil => exact absurd h h1
      | cons q qs =>
        rw [h] at h2 h3
        refine ⟨by simp, ?_, ?_⟩
        · intro p hp
          rcases List.mem_cons.mp hp with rfl | hp
          · intro hm
            rcases List.mem_cons.mp hm with q' | hm
            · exact hc q'.symm
            · exact h2 q (.head _) hm
          · exact h2 p (.tail _ hp)
        · cases qs with
          | nil =>
            have h3' : (mkS q).cps.toList = r := h3
            rw [mkS_list] at h3'
            show (mkS (c :: q)).cps.toList = _
            rw [mkS_list, h3']
          | cons q' qs =>
            have h3' : (Str.join aS (mkS q :: mkS q' :: qs.map mkS)).cps.toList = r := h3
            show (Str.join aS (mkS (c :: q) :: mkS q' :: qs.map mkS)).cps.toList = _
            rw [join_cons, mkS_list] at h3' ⊢
            rw [← h3']
            rfl
theorem split_cut (x : Str) : Txt.split x aS = (cutL x.cps.toList).map mkS := by
  obtain ⟨h1, h2, h3⟩ := cutL_ok x.cps.toList
  refine join_inj (split_ne _) (by simpa using h1) split_free ?_ (by rw [join_split, h3])
  intro p hp
  obtain ⟨l, hl, rfl⟩ := List.mem_map.mp hp
  rw [mkS_list]
  exact h2 l hl
abbrev kTab : List Nat := [16, 18, 19, 20, 21, 22, 23, 24, 25, 26, 27, 28]
theorem kTab_ok : ∀ k ∈ kTab, Txt.replace (repS k) (Str.ofString "\r\n") (Str.ofString "") = Str.ofString "" ∧ (repS k).length ≤ 1048576 := by decide +kernel
/-- savedB by lists -/
def savedT (x : Str) : Option (Int × Int) :=
  match cutL (dots true (nlS false (sentF x).cps.toList)) with
  | [p0, p1, p2, p3, p4, p5, p6] =>
    if (x.length ≤ 6 ∧ 6 ≤ x.length) ∧ (sentF x).length ≤ 1000000 ∧ (dots true (nlS false (sentF x).cps.toList)).length ≤ 1000000 ∧ (p0 ++ (p1 ++ (p2 ++ (p3 ++ (p4 ++ (p5 ++ p6)))))) = rep ((p0 ++ (p1 ++ (p2 ++ (p3 ++ (p4 ++ (p5 ++ p6)))))).length / 2) ∧ ((p0 ++ (p1 ++ (p2 ++ (p3 ++ (p4 ++ (p5 ++ p6)))))).length / 2) ∈ kTab
      ∧ p0.length ≤ 1000 ∧ p1.length ≤ 1000 ∧ p2.length ≤ 1000 ∧ p3.length ≤ 1000 ∧ p4.length ≤ 1000 ∧ p5.length ≤ 1000 ∧ p6.length ≤ 1000 then
      some (21 - ((p0.length : Int).fdiv 2 + ((p1.length : Int).fdiv 2 + ((p2.length : Int).fdiv 2 + ((p3.length : Int).fdiv 2 + ((p4.length : Int).fdiv 2 + ((p5.length : Int).fdiv 2 + 0)))))), 7 - (p6.length : Int).fdiv 2)
    else none
  | _ => none
theorem mkS_len (l : List Nat) : (mkS l).length = l.length := by simp [mkS, Str.length]
theorem join7 (p0 p1 p2 p3 p4 p5 p6 : List Nat) : Txt.join (Str.ofString "") [mkS p0, mkS p1, mkS p2, mkS p3, mkS p4, mkS p5, mkS p6] = mkS (p0 ++ (p1 ++ (p2 ++ (p3 ++ (p4 ++ (p5 ++ p6)))))) := by
  apply str_eq
  show (glued _ _).cps.toList = _
  have e : (Str.ofString "").cps.toList = ([] : List Nat) := rfl
  rw [glued_eq_join, join_cons, join_cons, join_cons, join_cons, join_cons, join_cons, e]
  simp only [mkS_list, List.nil_append]
  show p0 ++ (p1 ++ (p2 ++ (p3 ++ (p4 ++ (p5 ++ (mkS p6).cps.toList))))) = _
  rw [mkS_list]
theorem savedT_is {x : Str} {wt pr : Int} (h : savedT x = some (wt, pr)) : savedB x = some (wt, pr) := by
  unfold savedT at h
  split at h
  · rename_i p0 p1 p2 p3 p4 p5 p6 hsp
    split at h
    · rename_i c
      obtain ⟨⟨c0, c1⟩, c2, c3, c4, c5, c6, c7, c8, c9, c10, c11, c12⟩ := c
      have hq : (quoS (sentF x)).cps.toList = dots true (nlS false (sentF x).cps.toList) := by simp [quoS]
      have hl : (quoS (sentF x)).length = (dots true (nlS false (sentF x).cps.toList)).length := mkS_len _
      unfold savedB
      rw [quo_S]
      have hs : Txt.split (quoS (sentF x)) (Str.ofString "a") = [mkS p0, mkS p1, mkS p2, mkS p3, mkS p4, mkS p5, mkS p6] := by
        have := split_cut (quoS (sentF x))
        rw [hq, hsp] at this
        exact this
      rw [hs]
      dsimp only
      rw [join7]
      obtain ⟨k1, k2⟩ := kTab_ok _ c5
      have e : mkS (p0 ++ (p1 ++ (p2 ++ (p3 ++ (p4 ++ (p5 ++ p6)))))) = repS ((p0 ++ (p1 ++ (p2 ++ (p3 ++ (p4 ++ (p5 ++ p6)))))).length / 2) := congrArg mkS c4
      rw [e]
      simp only [mkS_len]
      rw [if_pos ⟨by omega, c2, by omega, k2, k1, c6, c7, c8, c9, c10, c11, c12⟩]
      exact h
    · cases h
  · cases h
abbrev Row := Option (Int × Int) × List UInt8
def rowT (x : Str) : Row := (savedT x, (lineOf x).toList)
def rows : Nat → List Row
  | 0 => [(some (0, 0), [75, 75, 75, 75, 75, 75])]
  | 1 => [(some (5, 1), [78, 75, 75, 75, 75, 75]), (some (4, 1), [75, 78, 75, 75, 75, 75]), (some (3, 1), [75, 75, 78, 75, 75, 75]), (some (2, 1), [75, 75, 75, 78, 75, 75]), (some (1, 1), [75, 75, 75, 75, 78, 75]), (some (0, 1), [75, 75, 75, 75, 75, 78])]
  | 2 => [(some (4, 1), [78, 78, 75, 75, 75, 75]), (some (8, 2), [78, 75, 78, 75, 75, 75]), (some (7, 2), [78, 75, 75, 78, 75, 75]), (some (6, 2), [78, 75, 75, 75, 78, 75]), (some (5, 1), [78, 75, 75, 75, 75, 78]), (some (3, 1), [75, 78, 78, 75, 75, 75]), (some (6, 2), [75, 78, 75, 78, 75, 75]), (some (5, 2), [75, 78, 75, 75, 78, 75]), (some (4, 2), [75, 78, 75, 75, 75, 78]), (some (2, 1), [75, 75, 78, 78, 75, 75]), (some (4, 2), [75, 75, 78, 75, 78, 75]), (some (3, 2), [75, 75, 78, 75, 75, 78]), (some (1, 1), [75, 75, 75, 78, 78, 75]), (some (2, 2), [75, 75, 75, 78, 75, 78]), (some (0, 1), [75, 75, 75, 75, 78, 78])]
  | 3 => [(some (3, 1), [78, 78, 78, 75, 75, 75]), (some (6, 2), [78, 78, 75, 78, 75, 75]), (some (5, 2), [78, 78, 75, 75, 78, 75]), (some (4, 1), [78, 78, 75, 75, 75, 78]), (some (7, 2), [78, 75, 78, 78, 75, 75]), (some (9, 3), [78, 75, 78, 75, 78, 75]), (some (8, 2), [78, 75, 78, 75, 75, 78]), (some (6, 2), [78, 75, 75, 78, 78, 75]), (some (7, 2), [78, 75, 75, 78, 75, 78]), (some (5, 1), [78, 75, 75, 75, 78, 78]), (some (2, 1), [75, 78, 78, 78, 75, 75]), (some (4, 2), [75, 78, 78, 75, 78, 75]), (some (3, 2), [75, 78, 78, 75, 75, 78]), (some (5, 2), [75, 78, 75, 78, 78, 75]), (some (6, 3), [75, 78, 75, 78, 75, 78]), (some (4, 2), [75, 78, 75, 75, 78, 78]), (some (1, 1), [75, 75, 78, 78, 78, 75]), (some (2, 2), [75, 75, 78, 78, 75, 78]), (some (3, 2), [75, 75, 78, 75, 78, 78]), (some (0, 1), [75, 75, 75, 78, 78, 78])]
  | 4 => [(some (2, 1), [78, 78, 78, 78, 75, 75]), (some (4, 2), [78, 78, 78, 75, 78, 75]), (some (3, 1), [78, 78, 78, 75, 75, 78]), (some (5, 2), [78, 78, 75, 78, 78, 75]), (some (6, 2), [78, 78, 75, 78, 75, 78]), (some (4, 1), [78, 78, 75, 75, 78, 78]), (some (6, 2), [78, 75, 78, 78, 78, 75]), (some (7, 2), [78, 75, 78, 78, 75, 78]), (some (8, 2), [78, 75, 78, 75, 78, 78]), (some (5, 1), [78, 75, 75, 78, 78, 78]), (some (1, 1), [75, 78, 78, 78, 78, 75]), (some (2, 2), [75, 78, 78, 78, 75, 78]), (some (3, 2), [75, 78, 78, 75, 78, 78]), (some (4, 2), [75, 78, 75, 78, 78, 78]), (some (0, 1), [75, 75, 78, 78, 78, 78])]
  | 5 => [(some (1, 1), [78, 78, 78, 78, 78, 75]), (some (2, 1), [78, 78, 78, 78, 75, 78]), (some (3, 1), [78, 78, 78, 75, 78, 78]), (some (4, 1), [78, 78, 75, 78, 78, 78]), (some (5, 1), [78, 75, 78, 78, 78, 78]), (some (0, 1), [75, 78, 78, 78, 78, 78])]
  | 6 => [(some (0, 0), [78, 78, 78, 78, 78, 78])]
  | _ => []
theorem rows_0 : (mailsF 0 6).map rowT = rows 0 := by decide +kernel
theorem rows_1 : (mailsF 1 6).map rowT = rows 1 := by decide +kernel
theorem rows_2 : (mailsF 2 6).map rowT = rows 2 := by decide +kernel
theorem rows_3 : (mailsF 3 6).map rowT = rows 3 := by decide +kernel
theorem rows_4 : (mailsF 4 6).map rowT = rows 4 := by decide +kernel
theorem rows_5 : (mailsF 5 6).map rowT = rows 5 := by decide +kernel
theorem rows_6 : (mailsF 6 6).map rowT = rows 6 := by decide +kernel
theorem nat7 {n : Int} (h0 : 0 ≤ n) (h6 : n ≤ 6) : n = 0 ∨ n = 1 ∨ n = 2 ∨ n = 3 ∨ n = 4 ∨ n = 5 ∨ n = 6 := by omega
theorem rows_ok {n : Int} (h0 : 0 ≤ n) (h6 : n ≤ 6) : (mailsF n 6).map rowT = rows n.toNat := by
  rcases nat7 h0 h6 with rfl | rfl | rfl | rfl | rfl | rfl | rfl
  · exact rows_0
  · exact rows_1
  · exact rows_2
  · exact rows_3
  · exact rows_4
  · exact rows_5
  · exact rows_6
/-- what is asked of a mail alone -/
def okB (x : Str) : Bool := decide (0 ≤ numOf x ∧ numOf x < 16777216 ∧ (lineOf x).size ≤ 6 ∧ (lineOf x).toList.map chrOf = signs x ∧ x.length = 6) && ((lineOf x).toList.all fun c => decide (65 ≤ c.toNat ∧ c.toNat ≤ 80)) && [0, 1, 2, 3, 4, 5].all fun k => turnedF (lineOf x) (numOf x) k
theorem oks_0 : (mailsF 0 6).all okB = true := by decide +kernel
theorem oks_1 : (mailsF 1 6).all okB = true := by decide +kernel
theorem oks_2 : (mailsF 2 6).all okB = true := by decide +kernel
theorem oks_3 : (mailsF 3 6).all okB = true := by decide +kernel
theorem oks_4 : (mailsF 4 6).all okB = true := by decide +kernel
theorem oks_5 : (mailsF 5 6).all okB = true := by decide +kernel
theorem oks_6 : (mailsF 6 6).all okB = true := by decide +kernel
theorem oks_ok {n : Int} (h0 : 0 ≤ n) (h6 : n ≤ 6) : (mailsF n 6).all okB = true := by
  rcases nat7 h0 h6 with rfl | rfl | rfl | rfl | rfl | rfl | rfl
  · exact oks_0
  · exact oks_1
  · exact oks_2
  · exact oks_3
  · exact oks_4
  · exact oks_5
  · exact oks_6
def prOk (r : Row) : Bool := match r.1 with | some (wt, pr) => decide (0 ≤ wt ∧ 0 ≤ pr ∧ pr ≤ 3) | none => false
theorem rows_pr : ∀ n ∈ [0, 1, 2, 3, 4, 5, 6], (rows n).all prOk = true := by decide +kernel
def hT : Int → Int → UInt64 × UInt64 × UInt64
  | 1, 0 => (4616189618054758400, 4613937818241073152, 4613937818241073152)
  | 1, 1 => (4616189618054758400, 4616189618054758400, 4613937818241073152)
  | 1, 2 => (4613937818241073152, 4616189618054758400, 4613937818241073152)
  | 1, 3 => (4613937818241073152, 4616189618054758400, 4616189618054758400)
  | 1, 4 => (4613937818241073152, 4613937818241073152, 4616189618054758400)
  | 1, 5 => (4616189618054758400, 4613937818241073152, 4616189618054758400)
  | 2, 0 => (4616189618054758400, 4611686018427387904, 4611686018427387904)
  | 2, 1 => (4616189618054758400, 4616189618054758400, 4611686018427387904)
  | 2, 2 => (4611686018427387904, 4616189618054758400, 4611686018427387904)
  | 2, 3 => (4611686018427387904, 4616189618054758400, 4616189618054758400)
  | 2, 4 => (4611686018427387904, 4611686018427387904, 4616189618054758400)
  | 2, 5 => (4616189618054758400, 4611686018427387904, 4616189618054758400)
  | 3, 0 => (4616189618054758400, 4607182418800017408, 4607182418800017408)
  | 3, 1 => (4616189618054758400, 4616189618054758400, 4607182418800017408)
  | 3, 2 => (4607182418800017408, 4616189618054758400, 4607182418800017408)
  | 3, 3 => (4607182418800017408, 4616189618054758400, 4616189618054758400)
  | 3, 4 => (4607182418800017408, 4607182418800017408, 4616189618054758400)
  | 3, 5 => (4616189618054758400, 4607182418800017408, 4616189618054758400)
  | 4, 0 => (4616189618054758400, 0, 0)
  | 4, 1 => (4616189618054758400, 4616189618054758400, 0)
  | 4, 2 => (0, 4616189618054758400, 0)
  | 4, 3 => (0, 4616189618054758400, 4616189618054758400)
  | 4, 4 => (0, 0, 4616189618054758400)
  | 4, 5 => (4616189618054758400, 0, 4616189618054758400)
  | _, _ => (0, 0, 0)
theorem hT_ok : ∀ sh ∈ [1, 2, 3, 4], ∀ j ∈ [0, 1, 2, 3, 4, 5], hsvF (Float64.div (Float64.ofInt j) 4618441417868443648) (shareOf sh) 4616189618054758400 = some (hT sh j) := by decide +kernel
theorem sh4 {n : Int} (h0 : 1 ≤ n) (h6 : n ≤ 4) : n ∈ [1, 2, 3, (4 : Int)] := by simp; omega
theorem j6 {n : Int} (h0 : 0 ≤ n) (h6 : n < 6) : n ∈ [0, 1, 2, 3, 4, (5 : Int)] := by simp; omega
theorem hsv_is (k wt : Int) {sh : Int} (h1 : 1 ≤ sh) (h4 : sh ≤ 4) : hsvF (hueOf k wt) (shareOf sh) 4616189618054758400 = some (hT sh ((k * wt).fmod 6)) :=
  hT_ok sh (sh4 h1 h4) _ (j6 (fmod_lo _ (by decide)) (fmod_hi _ (by decide)))
theorem row_saved {x : Str} {wt pr : Int} {l : List UInt8} (h : rowT x = (some (wt, pr), l)) : savedB x = some (wt, pr) := savedT_is (congrArg Prod.fst h)
theorem mail_of {n k sh : Int} (hn0 : 0 ≤ n) (hn6 : n ≤ 6) (hk0 : 0 ≤ k) (hk1 : k < 6) (hs0 : 1 ≤ sh) (hs1 : sh ≤ 4) : ∀ x ∈ mailsF n 6, ∃ nm wt pr bs p q z, MailIs k sh x nm wt pr bs p q z := by
  intro x hx
  have ho := List.all_eq_true.mp (oks_ok hn0 hn6) x hx
  have hr : rowT x ∈ rows n.toNat := by rw [← rows_ok hn0 hn6]; exact List.mem_map_of_mem hx
  have hp := List.all_eq_true.mp (rows_pr n.toNat (by simp; omega)) _ hr
  obtain ⟨o, l, e⟩ : ∃ o l, rowT x = (o, l) := ⟨_, _, rfl⟩
  rw [e] at hp
  match o, e, hp with
  | some (wt, pr), e, hp =>
    have hp' : 0 ≤ wt ∧ 0 ≤ pr ∧ pr ≤ 3 := of_decide_eq_true hp
    simp only [okB, Bool.and_eq_true] at ho
    obtain ⟨⟨o1, o2⟩, o3⟩ := ho
    obtain ⟨a1, a2, a3, a4, a5⟩ := of_decide_eq_true o1
    refine ⟨numOf x, wt, pr, lineOf x, (hT sh ((k * wt).fmod 6)).1, (hT sh ((k * wt).fmod 6)).2.1, (hT sh ((k * wt).fmod 6)).2.2, rfl, a1, a2, rfl, a3, a4, ?_, ?_, row_saved e, hp'.2.1, hp'.2.2, hsv_is k wt hs0 hs1, a5⟩
    · intro c hc
      exact of_decide_eq_true (List.all_eq_true.mp o2 c hc)
    · exact List.all_eq_true.mp o3 k (j6 hk0 hk1)
/-- the paints mixed, from the table -/
def stillL (k : Int) (l : List UInt8) : Bool := (KBy.picked l.toArray (some k) none ++ KBy.picked l.toArray none (some k)).toList == l
def stepL (k sh : Int) (M : Mix) (r : Row) : Mix := match r.1 with
  | some (wt, pr) => M.upd pr (hT sh ((k * wt).fmod 6)).1 (hT sh ((k * wt).fmod 6)).2.1 (hT sh ((k * wt).fmod 6)).2.2 (stillL k r.2)
  | none => M
theorem step_L {k sh : Int} {x : Str} {r : Row} (hs0 : 1 ≤ sh) (hs1 : sh ≤ 4) (hp : prOk r = true) (h : rowT x = r) (M : Mix) : stepM k sh M x = stepL k sh M r := by
  obtain ⟨o, l⟩ := r
  match o, h, hp with
  | some (wt, pr), h, hp =>
    have hl : l = (lineOf x).toList := (congrArg Prod.snd h).symm
    subst hl
    simp only [stepM, row_saved h, hsv_is k wt hs0 hs1, stepL]
    rfl
theorem fold_L {k sh : Int} (hs0 : 1 ≤ sh) (hs1 : sh ≤ 4) : ∀ (xs : List Str) (rs : List Row) (M : Mix), xs.map rowT = rs → rs.all prOk = true → xs.foldl (stepM k sh) M = rs.foldl (stepL k sh) M
  | [], _, M, h, _ => by subst h; rfl
  | x :: xs, _, M, h, hp => by
    subst h
    simp only [List.map_cons, List.all_cons, Bool.and_eq_true] at hp
    simp only [List.map_cons, List.foldl_cons]
    rw [step_L hs0 hs1 hp.1 rfl M]
    exact fold_L hs0 hs1 xs _ _ rfl hp.2
/-- a cell's asking, to be evaluated -/
def cellB (sh : Int) (c : Cell) : Bool := match rgbF c.r c.g c.b with
  | some (x, y, z) => z == c.r && !fgt c.g c.r && !fgt c.b c.r && Float64.cmp x 0 == some Ordering.eq && Float64.cmp y (Float64.div (Float64.ofInt (sh * c.st)) (max2F c.r 4607182418800017408)) == some Ordering.eq && Float64.cmp c.r c.r == some Ordering.eq && decide (0 ≤ sh * c.st) && decide (sh * c.st < 1000000) && !Float64.isZero (max2F c.r 4607182418800017408)
  | none => false
theorem cell_of {sh : Int} {c : Cell} (h : cellB sh c = true) : ∃ x y, CellOk sh c x y := by
  unfold cellB at h
  split at h
  · rename_i x y z e
    simp only [Bool.and_eq_true, Bool.not_eq_true', decide_eq_true_eq] at h
    obtain ⟨⟨⟨⟨⟨⟨⟨⟨h1, h2⟩, h3⟩, h4⟩, h5⟩, h6⟩, h7⟩, h8⟩, h9⟩ := h
    have hz : z = c.r := by simpa using h1
    subst hz
    exact ⟨x, y, e, h2, h3, h4, h5, h6, h7, h8, h9⟩
  · cases h
def endB (sh : Int) (M : Mix) : Bool := cellB sh M.a && cellB sh M.b && cellB sh M.c && cellB sh M.d
theorem end_of {sh : Int} {M : Mix} (h : endB sh M = true) : EndOk sh M := by
  simp only [endB, Bool.and_eq_true] at h
  exact ⟨cell_of h.1.1.1, cell_of h.1.1.2, cell_of h.1.2, cell_of h.2⟩
/-- whole numbers as floats -/
def fl (n : Nat) : UInt64 := Float64.ofInt (n : Int)
theorem fl_add : ∀ b ∈ List.range 5, ∀ a ∈ List.range 77, Float64.add (fl a) (fl b) = fl (a + b) := by decide +kernel
def hN : Int → Int → Nat × Nat × Nat
  | 1, 0 => (4, 3, 3)
  | 1, 1 => (4, 4, 3)
  | 1, 2 => (3, 4, 3)
  | 1, 3 => (3, 4, 4)
  | 1, 4 => (3, 3, 4)
  | 1, 5 => (4, 3, 4)
  | 2, 0 => (4, 2, 2)
  | 2, 1 => (4, 4, 2)
  | 2, 2 => (2, 4, 2)
  | 2, 3 => (2, 4, 4)
  | 2, 4 => (2, 2, 4)
  | 2, 5 => (4, 2, 4)
  | 3, 0 => (4, 1, 1)
  | 3, 1 => (4, 4, 1)
  | 3, 2 => (1, 4, 1)
  | 3, 3 => (1, 4, 4)
  | 3, 4 => (1, 1, 4)
  | 3, 5 => (4, 1, 4)
  | 4, 0 => (4, 0, 0)
  | 4, 1 => (4, 4, 0)
  | 4, 2 => (0, 4, 0)
  | 4, 3 => (0, 4, 4)
  | 4, 4 => (0, 0, 4)
  | 4, 5 => (4, 0, 4)
  | _, _ => (0, 0, 0)
theorem hN_ok : ∀ sh ∈ [1, 2, 3, (4 : Int)], ∀ j ∈ [0, 1, 2, 3, 4, (5 : Int)], hT sh j = (fl (hN sh j).1, fl (hN sh j).2.1, fl (hN sh j).2.2) ∧ (hN sh j).1 < 5 ∧ (hN sh j).2.1 < 5 ∧ (hN sh j).2.2 < 5 := by decide +kernel
structure NCell where
  r : Nat
  g : Nat
  b : Nat
  st : Nat
structure NMix where
  a : NCell
  b : NCell
  c : NCell
  d : NCell
def NCell.toC (c : NCell) : Cell := ⟨fl c.r, fl c.g, fl c.b, (c.st : Int)⟩
def NMix.toM (M : NMix) : Mix := ⟨M.a.toC, M.b.toC, M.c.toC, M.d.toC⟩
def NCell.addp (c : NCell) (x y z : Nat) (q : Bool) : NCell := ⟨c.r + x, c.g + y, c.b + z, bif q then c.st + 1 else c.st⟩
def NMix.upd (M : NMix) (pr : Int) (x y z : Nat) (q : Bool) : NMix :=
  if pr = 0 then { M with a := M.a.addp x y z q } else if pr = 1 then { M with b := M.b.addp x y z q } else if pr = 2 then { M with c := M.c.addp x y z q } else { M with d := M.d.addp x y z q }
def NCell.le (c : NCell) (n : Nat) : Prop := c.r ≤ n ∧ c.g ≤ n ∧ c.b ≤ n
def NMix.le (M : NMix) (n : Nat) : Prop := M.a.le n ∧ M.b.le n ∧ M.c.le n ∧ M.d.le n
theorem addp_le {c : NCell} {n x y z : Nat} {q : Bool} (h : c.le n) (hx : x < 5) (hy : y < 5) (hz : z < 5) : (c.addp x y z q).le (n + 4) := by
  obtain ⟨h1, h2, h3⟩ := h
  exact ⟨show c.r + x ≤ _ by omega, show c.g + y ≤ _ by omega, show c.b + z ≤ _ by omega⟩
theorem cle_up {c : NCell} {n : Nat} (h : c.le n) : c.le (n + 4) := by
  obtain ⟨h1, h2, h3⟩ := h
  exact ⟨by omega, by omega, by omega⟩
theorem fl_a {a b : Nat} (ha : a ≤ 76) (hb : b < 5) : Float64.add (fl a) (fl b) = fl (a + b) := fl_add b (by simp; omega) a (by simp; omega)
theorem addp_is {c : NCell} {n x y z : Nat} {q : Bool} (h : c.le n) (hn : n ≤ 76) (hx : x < 5) (hy : y < 5) (hz : z < 5) : c.toC.addp (fl x) (fl y) (fl z) q = (c.addp x y z q).toC := by
  obtain ⟨h1, h2, h3⟩ := h
  unfold Cell.addp NCell.toC NCell.addp
  dsimp only
  rw [fl_a (by omega) hx, fl_a (by omega) hy, fl_a (by omega) hz]
  cases q <;> simp
theorem upd_is {M : NMix} {n x y z : Nat} {pr : Int} {q : Bool} (h : M.le n) (hn : n ≤ 76) (hx : x < 5) (hy : y < 5) (hz : z < 5) : M.toM.upd pr (fl x) (fl y) (fl z) q = (M.upd pr x y z q).toM ∧ (M.upd pr x y z q).le (n + 4) := by
  obtain ⟨h1, h2, h3, h4⟩ := h
  unfold Mix.upd NMix.upd
  split
  · exact ⟨by show (⟨_, _, _, _⟩ : Mix) = ⟨_, _, _, _⟩; rw [show M.toM.a = M.a.toC from rfl, addp_is h1 hn hx hy hz]; rfl, addp_le h1 hx hy hz, cle_up h2, cle_up h3, cle_up h4⟩
  · split
    · exact ⟨by show (⟨_, _, _, _⟩ : Mix) = ⟨_, _, _, _⟩; rw [show M.toM.b = M.b.toC from rfl, addp_is h2 hn hx hy hz]; rfl, cle_up h1, addp_le h2 hx hy hz, cle_up h3, cle_up h4⟩
    · split
      · exact ⟨by show (⟨_, _, _, _⟩ : Mix) = ⟨_, _, _, _⟩; rw [show M.toM.c = M.c.toC from rfl, addp_is h3 hn hx hy hz]; rfl, cle_up h1, cle_up h2, addp_le h3 hx hy hz, cle_up h4⟩
      · exact ⟨by show (⟨_, _, _, _⟩ : Mix) = ⟨_, _, _, _⟩; rw [show M.toM.d = M.d.toC from rfl, addp_is h4 hn hx hy hz]; rfl, cle_up h1, cle_up h2, cle_up h3, addp_le h4 hx hy hz⟩
def stepQ (k sh : Int) (M : NMix) (r : Row) : NMix := match r.1 with
  | some (wt, pr) => M.upd pr (hN sh ((k * wt).fmod 6)).1 (hN sh ((k * wt).fmod 6)).2.1 (hN sh ((k * wt).fmod 6)).2.2 (stillL k r.2)
  | none => M
theorem step_Q {k sh : Int} {M : NMix} {n : Nat} {r : Row} (h1 : 1 ≤ sh) (h4 : sh ≤ 4) (h : M.le n) (hn : n ≤ 76) : stepL k sh M.toM r = (stepQ k sh M r).toM ∧ (stepQ k sh M r).le (n + 4) := by
  unfold stepL stepQ
  split
  · rename_i wt pr e
    obtain ⟨e1, e2, e3, e4⟩ := hN_ok sh (sh4 h1 h4) ((k * wt).fmod 6) (j6 (fmod_lo _ (by decide)) (fmod_hi _ (by decide)))
    rw [e1]
    exact upd_is h hn e2 e3 e4
  · obtain ⟨g1, g2, g3, g4⟩ := h
    exact ⟨rfl, cle_up g1, cle_up g2, cle_up g3, cle_up g4⟩
theorem fold_Q {k sh : Int} (h1 : 1 ≤ sh) (h4 : sh ≤ 4) : ∀ (rs : List Row) (n : Nat) (M : NMix), M.le n → n + 4 * rs.length ≤ 80 → rs.foldl (stepL k sh) M.toM = (rs.foldl (stepQ k sh) M).toM
  | [], _, _, _, _ => rfl
  | r :: rs, n, M, h, hn => by
    simp only [List.length_cons] at hn
    obtain ⟨e, hl⟩ := step_Q (k := k) (r := r) h1 h4 h (by omega)
    rw [List.foldl_cons, List.foldl_cons, e]
    exact fold_Q h1 h4 rs (n + 4) _ hl (by omega)
def nz : NCell := ⟨0, 0, 0, 0⟩
def nmix0 : NMix := ⟨nz, nz, nz, nz⟩
theorem fl_0 : fl 0 = 0 := by decide +kernel
theorem nmix_is : nmix0.toM = mix0 := by
  show (⟨nz.toC, nz.toC, nz.toC, nz.toC⟩ : Mix) = ⟨zc, zc, zc, zc⟩
  have e : nz.toC = zc := by
    show (⟨fl 0, fl 0, fl 0, _⟩ : Cell) = ⟨0, 0, 0, 0⟩
    rw [fl_0]; rfl
  rw [e]
theorem rows_len : ∀ n ∈ [0, 1, 2, 3, 4, 5, 6], (rows n).length ≤ 20 := by decide +kernel
/-- the cells that come up at the end -/
def tabC : Int → List (Nat × Nat × Nat × Nat)
  | 1 => [(4, 3, 3, 1), (0, 0, 0, 0), (24, 18, 18, 6), (21, 21, 21, 0), (20, 20, 20, 0), (36, 27, 27, 9), (31, 31, 31, 0), (30, 30, 30, 0), (33, 30, 30, 3), (48, 36, 36, 12), (8, 6, 6, 2), (42, 42, 42, 0), (7, 7, 7, 0), (40, 40, 40, 0)]
  | 2 => [(4, 2, 2, 1), (0, 0, 0, 0), (24, 12, 12, 6), (18, 18, 18, 0), (16, 16, 16, 0), (36, 18, 18, 9), (26, 26, 26, 0), (24, 24, 24, 0), (30, 24, 24, 3), (48, 24, 24, 12), (8, 4, 4, 2), (36, 36, 36, 0), (6, 6, 6, 0), (32, 32, 32, 0)]
  | 3 => [(4, 1, 1, 1), (0, 0, 0, 0), (24, 6, 6, 6), (15, 15, 15, 0), (12, 12, 12, 0), (36, 9, 9, 9), (21, 21, 21, 0), (18, 18, 18, 0), (27, 18, 18, 3), (48, 12, 12, 12), (8, 2, 2, 2), (30, 30, 30, 0), (5, 5, 5, 0), (24, 24, 24, 0)]
  | 4 => [(4, 0, 0, 1), (0, 0, 0, 0), (24, 0, 0, 6), (12, 12, 12, 0), (8, 8, 8, 0), (36, 0, 0, 9), (16, 16, 16, 0), (24, 12, 12, 3), (48, 0, 0, 12), (8, 0, 0, 2), (24, 24, 24, 0), (4, 4, 4, 0)]
  | _ => []
theorem tabC_ok : ∀ sh ∈ [1, 2, 3, (4 : Int)], (tabC sh).all (fun c => cellB sh (NCell.toC ⟨c.1, c.2.1, c.2.2.1, c.2.2.2⟩)) = true := by decide +kernel
def inC (sh : Int) (c : NCell) : Bool := (tabC sh).any fun t => t.1.beq c.r && t.2.1.beq c.g && t.2.2.1.beq c.b && t.2.2.2.beq c.st
theorem inC_ok {sh : Int} {c : NCell} (h1 : 1 ≤ sh) (h4 : sh ≤ 4) (h : inC sh c = true) : cellB sh c.toC = true := by
  obtain ⟨t, ht, e⟩ := List.any_eq_true.mp h
  have hc := List.all_eq_true.mp (tabC_ok sh (sh4 h1 h4)) t ht
  simp only [Bool.and_eq_true] at e
  obtain ⟨⟨⟨e1, e2⟩, e3⟩, e4⟩ := e
  rw [Nat.eq_of_beq_eq_true e1, Nat.eq_of_beq_eq_true e2, Nat.eq_of_beq_eq_true e3, Nat.eq_of_beq_eq_true e4] at hc
  exact hc
def inM (sh : Int) (M : NMix) : Bool := inC sh M.a && inC sh M.b && inC sh M.c && inC sh M.d
def turnsQ (n : Nat) (sh : Int) : Bool := [0, 1, 2, 3, 4, 5].all fun k => inM sh ((rows n).foldl (stepQ k sh) nmix0)
theorem turns_0 : ∀ sh ∈ [1, 2, 3, (4 : Int)], turnsQ 0 sh = true := by decide +kernel
theorem turns_1 : ∀ sh ∈ [1, 2, 3, (4 : Int)], turnsQ 1 sh = true := by decide +kernel
theorem turns_2 : ∀ sh ∈ [1, 2, 3, (4 : Int)], turnsQ 2 sh = true := by decide +kernel
theorem turns_3 : ∀ sh ∈ [1, 2, 3, (4 : Int)], turnsQ 3 sh = true := by decide +kernel
theorem turns_4 : ∀ sh ∈ [1, 2, 3, (4 : Int)], turnsQ 4 sh = true := by decide +kernel
theorem turns_5 : ∀ sh ∈ [1, 2, 3, (4 : Int)], turnsQ 5 sh = true := by decide +kernel
theorem turns_6 : ∀ sh ∈ [1, 2, 3, (4 : Int)], turnsQ 6 sh = true := by decide +kernel
theorem turns_ok {n : Int} (h0 : 0 ≤ n) (h6 : n ≤ 6) : ∀ sh ∈ [1, 2, 3, (4 : Int)], turnsQ n.toNat sh = true := by
  rcases nat7 h0 h6 with rfl | rfl | rfl | rfl | rfl | rfl | rfl
  · exact turns_0
  · exact turns_1
  · exact turns_2
  · exact turns_3
  · exact turns_4
  · exact turns_5
  · exact turns_6
theorem ends_ok {n k sh : Int} (hn0 : 0 ≤ n) (hn6 : n ≤ 6) (hk0 : 0 ≤ k) (hk1 : k < 6) (hs0 : 1 ≤ sh) (hs1 : sh ≤ 4) : endB sh ((rows n.toNat).foldl (stepL k sh) mix0) = true := by
  have hz : nmix0.le 0 := ⟨⟨by decide, by decide, by decide⟩, ⟨by decide, by decide, by decide⟩, ⟨by decide, by decide, by decide⟩, ⟨by decide, by decide, by decide⟩⟩
  have hl := rows_len n.toNat (by simp; omega)
  rw [← nmix_is, fold_Q hs0 hs1 _ 0 nmix0 hz (by omega)]
  have hk := List.all_eq_true.mp (turns_ok hn0 hn6 sh (sh4 hs0 hs1)) k (j6 hk0 hk1)
  unfold inM at hk
  simp only [Bool.and_eq_true] at hk
  obtain ⟨⟨⟨k1, k2⟩, k3⟩, k4⟩ := hk
  show (cellB sh _ && cellB sh _ && cellB sh _ && cellB sh _) = true
  simp only [Bool.and_eq_true]
  exact ⟨⟨⟨inC_ok hs0 hs1 k1, inC_ok hs0 hs1 k2⟩, inC_ok hs0 hs1 k3⟩, inC_ok hs0 hs1 k4⟩
theorem plain1 {n k sh : Int} (hn0 : 0 ≤ n) (hn6 : n ≤ 6) (hk0 : 0 ≤ k) (hk1 : k < 6) (hs0 : 1 ≤ sh) (hs1 : sh ≤ 4) : (∀ x ∈ mailsF n 6, ∃ nm wt pr bs p q z, MailIs k sh x nm wt pr bs p q z) ∧ EndOk sh (mixAt k sh (mailsF n 6) (mailsF n 6).length) := by
  refine ⟨mail_of hn0 hn6 hk0 hk1 hs0 hs1, end_of ?_⟩
  have e : mixAt k sh (mailsF n 6) (mailsF n 6).length = (rows n.toNat).foldl (stepL k sh) mix0 := by
    unfold mixAt
    rw [List.take_length]
    exact fold_L hs0 hs1 _ _ _ (rows_ok hn0 hn6) (rows_pr n.toNat (by simp; omega))
  rw [e]
  exact ends_ok hn0 hn6 hk0 hk1 hs0 hs1
end Mine

open PySem PySem.W PyProof.Rows PySem.Spec PySem.Calls
set_option maxRecDepth 100000
set_option maxHeartbeats 8000000
namespace Mine
theorem paint_law {a1 b1 c1 : Int} {t1 t2 t3 : Tok} {w : World} {mean : ExcName → Option Value} {mg mb : Str → Option Value}
  {dp un : Nat} {gd : Option (List Code)} {cn : Str} {cs : Scope} {a : Addr} {ccd : Value} {cl : List (Str × Addr)} {outer : List Env} {A₀ : Around} {base h₀ : Heap} {L : Addr} {m : Str → Option Value} {s : Shared} {news : List (Addr × Obj)} {Q E : Value → Shared → Prop}
  (B : Below A₀ base outer h₀) (F : Fr h₀ L s.heap m) (X : (hd.heap_39 w.params).In h₀) (N : News h₀ L s.heap news)
  (T : Top Mine.hd.view_39 (looseW Mine.hd.view_39 [Str.ofString "_twin_re_1", Str.ofString "_twin_re_2"]) mean mg mb h₀) (hk : cs.kind = .function)
  (hd : dp + 5 < recursionLimit) (hu : un + 300 < cLine)
  (hret : ∀ h' tk', Fr h₀ L h' m → News h₀ L h' news → Q (.bool true) { s with heap := h', toks := tk' }) :
  wpAny (model PySem.Challenge.rw_sn0006_01.row.prog w) (ktrTop dp un gd cn cs L a ccd cl outer) (call (.ref 100) [.int (a1.fmod 7) t1, .int (b1.fmod 6) t2, .int (1 + c1.fmod 4) t3]) Q E s := by
  have f1 := fmod_lo a1 (by decide : (0:Int) < 7)
  have f2 := fmod_hi a1 (by decide : (0:Int) < 7)
  have f3 := fmod_lo b1 (by decide : (0:Int) < 6)
  have f4 := fmod_hi b1 (by decide : (0:Int) < 6)
  have f5 := fmod_lo c1 (by decide : (0:Int) < 4)
  have f6 := fmod_hi c1 (by decide : (0:Int) < 4)
  obtain ⟨hA, hE⟩ := plain1 (n := a1.fmod 7) (k := b1.fmod 6) (sh := 1 + c1.fmod 4) f1 (by omega) f3 f4 (by omega) (by omega)
  exact paint_call f1 (by omega) f3 f4 (by omega) (by omega) hA hE B F X T hk hd hu fun h' tk' hkp => hret h' tk' (back_F F hkp) (N.grown hkp)
local macro_rules | `(tactic| walk_at "call ref") => `(tactic| (k_here; (with_reducible show wpAny _ _ (call (Value.ref 100) [Value.int _ _, Value.int _ _, Value.int _ _]) _ _ _); k_dflt (refine' paint_law ?k1 ?k2 ?k3 ?k4 ?k5 ?kK ?kd ?ku ?_); (case k1 => k_asm); (case k2 => k_asm); (case k3 => k_asm); (case k4 => k_asm); (case k5 => k_asm); (case kK => first | exact rfl | assumption); (case kd => ktr_room); (case ku => ktr_units); (intro h9 tk9 F9 N9); (try dsimp only); (try k_fold)))
local macro_rules | `(tactic| walk_at "subscriptTail Name Slice ref ref") => `(tactic| (k_here; (with_reducible show wpAny _ _ (subscriptTail _ (PySem.Expr.Slice _ _ (some _) _) (Value.ref _) (Value.ref _)) _ _ _); k_dflt (refine' slice3_ints ?F ?N ?l ?i ?p ?q ?k ?o ?e ?_ ?s ?t; (case F => k_asm); (case N => k_asm); (case l => kmk_list); (case i => l_ints); (case p => kmk_part); (case q => kmk_part); (case k => kmk_part); (case o => decide); (case s => with_unfolding_all rfl); (case t => kmk_pure); (case e => (rw [IntsAre.length (by assumption), PySem.sizeLine_eq]; omega))); (intro D' ws' ks' h' F' N' l1 hI' hL'); (try simp only [List.forall_mem_cons, List.forall_mem_nil, and_true] at l1)))
local macro_rules | `(tactic| walk_at "eval ListComp") => `(tactic| (k_here; k_dflt (refine LCg.ListComp_U (F₀ := by k_asm) (by with_unfolding_all rfl) (by decide) (by rfl) (by decide) (by rfl) ?_)))
local macro_rules | `(tactic| walk_at "CompSrc") => `(tactic| (k_here; k_dflt (refine' CompSrc.ints ?hh ?F ?N ?m ?z ?i ?_ ?_; (case hh => rfl); (case F => k_asm); (case N => k_asm); (case m => k_mem); (case z => assumption); (case i => assumption)); (all_goals (intros; (first | (rename LCg.Off3 _ _ _ _ => off'; (try simp only [LCg.Off3, and_true] at off')) | (rename LCg.Off1 _ _ => o1'; (try simp only [LCg.Off1, and_true] at o1'); (try dsimp only)))))))
local macro_rules | `(tactic| walk_at "EltEnd") => `(tactic| exact EltEnd.intro (by assumption) (by assumption) (by refine ⟨_, _, ?_, rfl⟩; exact fmod_lo _ (by decide)))
theorem law_all : PySem.Challenge.rw_sn0006_01.Holds := hd (by k_go0; (all_goals try k_fold); k_steps)
end Mine

set_option maxRecDepth 100000 in
set_option maxHeartbeats 8000000 in
theorem PySem.Challenge.cw_sn0006_01_holds : PySem.Challenge.rw_sn0006_01.Holds := by
  exact Mine.law_all
