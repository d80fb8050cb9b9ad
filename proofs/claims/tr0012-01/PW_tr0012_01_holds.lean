import PyProof.Rows.All
import Wide.All
import OpenK.AllK
import Wide.FinOn
import PySem.Challenge.RW_tr0012_01
open PySem PySem.Spec PySem.Calls PySem.W PyProof.Rows
set_option Elab.async false
set_option maxRecDepth 100000
set_option maxHeartbeats 8000000
namespace Mine
open_top hd for PySem.Challenge.rw_tr0012_01
end Mine
namespace Mine
theorem calm : True := by
  w_top off
  trivial
end Mine
namespace Mine
section
variable {prog : Program} {w : World} {A : Around} {E : Value → Shared → Prop} {s : Shared} {h₀ : Heap} {L : Addr} {m : Str → Option Value} {news : List (Addr × Obj)}

theorem cmp_fgt {P : Nat → Value → Prop} (val : Nat → UInt64) (hval : ∀ i v, P i v → ∃ t, v = .float (val i) t) :
    CmpOf prog w A .Gt P (fun i j => Float64.cmp (val i) (val j) == some Ordering.gt) := fun i j vi vj s Q E hi hj h => by
  obtain ⟨t, rfl⟩ := hval i vi hi
  obtain ⟨u, rfl⟩ := hval j vj hj
  exact richCompare_gives (op := .Gt) (AutoFloatOps.typeIs_float s _ t) (AutoFloatOps.typeIs_float s _ u) F.slot_float_gt F.entry_float_gt (F.args_float_gt_2 _ _) (AutoFloatG4.float___gt___float_float_0 _ t _ u) (fun x => nomatch x) h
theorem cmp_flt {P : Nat → Value → Prop} (val : Nat → UInt64) (hval : ∀ i v, P i v → ∃ t, v = .float (val i) t) :
    CmpOf prog w A .Lt P (fun i j => Float64.cmp (val i) (val j) == some Ordering.lt) := fun i j vi vj s Q E hi hj h => by
  obtain ⟨t, rfl⟩ := hval i vi hi
  obtain ⟨u, rfl⟩ := hval j vj hj
  exact richCompare_gives (op := .Lt) (AutoFloatOps.typeIs_float s _ t) (AutoFloatOps.typeIs_float s _ u) F.slot_float_lt F.entry_float_lt (F.args_float_lt_2 _ _) (AutoFloatG5.float___lt___float_float_0 _ t _ u) (fun x => nomatch x) h

def pick3 (a b c : UInt64) (i : Nat) : UInt64 := match i with | 0 => a | 1 => b | _ => c
def items3 (a b c : UInt64) (t u v : Tok) : Array Value := #[.float a t, .float b u, .float c v]
theorem items3_at {a b c : UInt64} {t u v : Tok} {i : Nat} {x : Value} (h : (items3 a b c t u v)[i]? = some x) : ∃ t, x = .float (pick3 a b c i) t := by
  match i, h with
  | 0, h => exact ⟨t, (Option.some.inj h).symm⟩
  | 1, h => exact ⟨u, (Option.some.inj h).symm⟩
  | 2, h => exact ⟨v, (Option.some.inj h).symm⟩
  | n + 3, h => simp [items3] at h

theorem args_max3 (a b c : Value) : argsOk "max" ⟨[a, b, c], []⟩ := by unfold argsOk; kernel_rfl
theorem args_min3 (a b c : Value) : argsOk "min" ⟨[a, b, c], []⟩ := by unfold argsOk; kernel_rfl

theorem call_max3 {a b c : Value} {Q : Value → Shared → Prop}
    (h : wpAny (model prog w) A.in1 (pyIter (.ref s.heap.objs.size)) (fun it s₂ => ∃ I fp wr n P St bt, it = .ref I ∧ Walks prog w A.in1 I fp wr n P St ∧ St 0 s₂.heap ∧ (∀ b ∈ fp, b < s₂.heap.objs.size) ∧ 0 < n ∧ CmpOf prog w A.in1 .Gt P bt ∧
      ∀ v h' tk, P (argBest bt (n - 1)) v → (∀ b o, b ∉ wr → s₂.heap.get? b = some o → h'.get? b = some o) → Q v { s₂ with heap := h', toks := tk }) E
      { s with heap := s.heap.push { cls := .type "tuple", data := .seq #[a, b, c] } }) :
    wpAny (model prog w) A (call (.builtin "max") [a, b, c]) Q E s := by
  refine call_function_tree F.kind_max F.plain_max F.entry_max (args_max3 _ _ _) ?_
  show wpAny _ A.in1 (Builtin.Builtins.bindParams "max" ["key", "default"] 0 ⟨[], []⟩ >>= _) _ _ s
  refine wpAny_bind (wpAny_of_eq (show Builtin.Builtins.bindParams "max" ["key", "default"] 0 ⟨[], []⟩ = pure [none, none] from rfl) ?_)
  show wpAny _ A.in1 (newTuple [a, b, c] >>= _) _ _ s
  refine wpAny_bind (wpAny_newObj_type (wpAny_bind (wpAny_mono h (fun it s₂ h₂ => ?_) fun _ _ e => e)))
  obtain ⟨I, fp, wr, n, P, St, bt, rfl, W, hst, hfp, hn, hcmp, hQ⟩ := h₂
  refine wpAny_bind (wpAny_newObj_type ?_)
  have hSf : s₂.heap.objs.size ∉ fp := fun hm => Nat.lt_irrefl _ (hfp _ hm)
  rw [show (toString "max" ++ toString ".loop" : String) = "max.loop" by decide]
  refine wpAny_pure ⟨plainId_quiet F.plain_max_loop _, codeAny_max_loop_first W bt hcmp s₂.heap.objs.size hSf hn (W.frame _ _ _ hst fun b _ o e => Heap.get?_push_of_some _ e) (Heap.get?_push_size _ rfl) fun v h' tk hP hk => ?_⟩
  exact hQ v h' tk hP fun b o hbw e => hk b o hbw (Nat.ne_of_lt (Heap.lt_size e)) (Heap.get?_push_of_some _ e)
theorem call_min3 {a b c : Value} {Q : Value → Shared → Prop}
    (h : wpAny (model prog w) A.in1 (pyIter (.ref s.heap.objs.size)) (fun it s₂ => ∃ I fp wr n P St bt, it = .ref I ∧ Walks prog w A.in1 I fp wr n P St ∧ St 0 s₂.heap ∧ (∀ b ∈ fp, b < s₂.heap.objs.size) ∧ 0 < n ∧ CmpOf prog w A.in1 .Lt P bt ∧
      ∀ v h' tk, P (argBest bt (n - 1)) v → (∀ b o, b ∉ wr → s₂.heap.get? b = some o → h'.get? b = some o) → Q v { s₂ with heap := h', toks := tk }) E
      { s with heap := s.heap.push { cls := .type "tuple", data := .seq #[a, b, c] } }) :
    wpAny (model prog w) A (call (.builtin "min") [a, b, c]) Q E s := by
  refine call_function_tree F.kind_min F.plain_min F.entry_min (args_min3 _ _ _) ?_
  show wpAny _ A.in1 (Builtin.Builtins.bindParams "min" ["key", "default"] 0 ⟨[], []⟩ >>= _) _ _ s
  refine wpAny_bind (wpAny_of_eq (show Builtin.Builtins.bindParams "min" ["key", "default"] 0 ⟨[], []⟩ = pure [none, none] from rfl) ?_)
  show wpAny _ A.in1 (newTuple [a, b, c] >>= _) _ _ s
  refine wpAny_bind (wpAny_newObj_type (wpAny_bind (wpAny_mono h (fun it s₂ h₂ => ?_) fun _ _ e => e)))
  obtain ⟨I, fp, wr, n, P, St, bt, rfl, W, hst, hfp, hn, hcmp, hQ⟩ := h₂
  refine wpAny_bind (wpAny_newObj_type ?_)
  have hSf : s₂.heap.objs.size ∉ fp := fun hm => Nat.lt_irrefl _ (hfp _ hm)
  rw [show (toString "min" ++ toString ".loop" : String) = "min.loop" by decide]
  refine wpAny_pure ⟨plainId_quiet F.plain_min_loop _, codeAny_min_loop_first W bt hcmp s₂.heap.objs.size hSf hn (W.frame _ _ _ hst fun b _ o e => Heap.get?_push_of_some _ e) (Heap.get?_push_size _ rfl) fun v h' tk hP hk => ?_⟩
  exact hQ v h' tk hP fun b o hbw e => hk b o hbw (Nat.ne_of_lt (Heap.lt_size e)) (Heap.get?_push_of_some _ e)

/-- the greatest of three floats, as max finds it -/
def fmax3 (a b c : UInt64) : UInt64 :=
  let d := if Float64.cmp b a == some Ordering.gt then b else a
  if Float64.cmp c d == some Ordering.gt then c else d
def fmin3 (a b c : UInt64) : UInt64 :=
  let d := if Float64.cmp b a == some Ordering.lt then b else a
  if Float64.cmp c d == some Ordering.lt then c else d
theorem best_gt (a b c : UInt64) : pick3 a b c (argBest (fun i j => Float64.cmp (pick3 a b c i) (pick3 a b c j) == some Ordering.gt) 2) = fmax3 a b c := by
  simp only [argBest, fmax3, Nat.zero_add, pick3]
  by_cases h : (Float64.cmp b a == some Ordering.gt) = true
  · simp only [h, if_true]
    by_cases g : (Float64.cmp c b == some Ordering.gt) = true
    · simp [g]
    · simp [g]
  · simp only [h]
    by_cases g : (Float64.cmp c a == some Ordering.gt) = true
    · simp [g]
    · simp [g]
theorem best_lt (a b c : UInt64) : pick3 a b c (argBest (fun i j => Float64.cmp (pick3 a b c i) (pick3 a b c j) == some Ordering.lt) 2) = fmin3 a b c := by
  simp only [argBest, fmin3, Nat.zero_add, pick3]
  by_cases h : (Float64.cmp b a == some Ordering.lt) = true
  · simp only [h, if_true]
    by_cases g : (Float64.cmp c b == some Ordering.lt) = true
    · simp [g]
    · simp [g]
  · simp only [h]
    by_cases g : (Float64.cmp c a == some Ordering.lt) = true
    · simp [g]
    · simp [g]

theorem max3_N {a b c : UInt64} {t u v : Tok} {Q : Value → Shared → Prop} (hh : A.handled = none) (F : Fr h₀ L s.heap m) (N : News h₀ L s.heap news)
    (h : ∀ h' tk q, Fr h₀ L h' m → News h₀ L h' news → Q (.float (fmax3 a b c) q) { s with heap := h', toks := tk }) :
    wpAny (model prog w) A (call (.builtin "max") [.float a t, .float b u, .float c v]) Q E s := by
  have hT : (s.heap.push { cls := .type "tuple", data := .seq #[.float a t, .float b u, .float c v] }).IsTuple s.heap.objs.size (items3 a b c t u v) := ⟨_, Heap.get?_push_size _ rfl, rfl, 0, rfl⟩
  refine call_max3 (wpAny_pyIter_tuple hT ?_)
  have hsz : (s.heap.push { cls := .type "tuple", data := .seq #[.float a t, .float b u, .float c v] }).objs.size = s.heap.objs.size + 1 := Heap.size_push ..
  refine ⟨_, [_, s.heap.objs.size], [_], _, _, _, _, rfl, Walks.tuple (A := A.in1) hh _ s.heap.objs.size (by rw [hsz]; exact Nat.ne_of_lt (Nat.lt_succ_self _)) (items3 a b c t u v),
    ⟨⟨_, Heap.get?_push_size _ rfl, rfl, rfl⟩, hT.push _⟩, fun c' hc => ?_, by simp [items3], cmp_fgt (pick3 a b c) (fun _ _ => items3_at), fun x h' tk hP hk => ?_⟩
  · show c' < ((s.heap.push _).push _).objs.size
    rw [Heap.size_push, hsz]
    rcases List.mem_cons.mp hc with rfl | hc
    · rw [hsz]; exact Nat.lt_succ_self _
    · rcases List.mem_cons.mp hc with rfl | hc
      · exact Nat.lt_succ_of_lt (Nat.lt_succ_self _)
      · cases hc
  · have hold : ∀ c o, s.heap.get? c = some o → h'.get? c = some o := fun c o e => by
      refine hk c o (fun hm => ?_) (Heap.get?_push_of_some _ (Heap.get?_push_of_some _ e))
      rcases List.mem_cons.mp hm with e1 | hm
      · have := Heap.lt_size e; rw [e1, hsz] at this; exact Nat.lt_irrefl _ (Nat.lt_of_succ_lt this)
      · cases hm
    obtain ⟨q, rfl⟩ := items3_at hP
    rw [show (items3 a b c t u v).size - 1 = 2 from rfl, best_gt]
    exact h h' tk q (F.keeps hold) (N.grown hold)
theorem min3_N {a b c : UInt64} {t u v : Tok} {Q : Value → Shared → Prop} (hh : A.handled = none) (F : Fr h₀ L s.heap m) (N : News h₀ L s.heap news)
    (h : ∀ h' tk q, Fr h₀ L h' m → News h₀ L h' news → Q (.float (fmin3 a b c) q) { s with heap := h', toks := tk }) :
    wpAny (model prog w) A (call (.builtin "min") [.float a t, .float b u, .float c v]) Q E s := by
  have hT : (s.heap.push { cls := .type "tuple", data := .seq #[.float a t, .float b u, .float c v] }).IsTuple s.heap.objs.size (items3 a b c t u v) := ⟨_, Heap.get?_push_size _ rfl, rfl, 0, rfl⟩
  refine call_min3 (wpAny_pyIter_tuple hT ?_)
  have hsz : (s.heap.push { cls := .type "tuple", data := .seq #[.float a t, .float b u, .float c v] }).objs.size = s.heap.objs.size + 1 := Heap.size_push ..
  refine ⟨_, [_, s.heap.objs.size], [_], _, _, _, _, rfl, Walks.tuple (A := A.in1) hh _ s.heap.objs.size (by rw [hsz]; exact Nat.ne_of_lt (Nat.lt_succ_self _)) (items3 a b c t u v),
    ⟨⟨_, Heap.get?_push_size _ rfl, rfl, rfl⟩, hT.push _⟩, fun c' hc => ?_, by simp [items3], cmp_flt (pick3 a b c) (fun _ _ => items3_at), fun x h' tk hP hk => ?_⟩
  · show c' < ((s.heap.push _).push _).objs.size
    rw [Heap.size_push, hsz]
    rcases List.mem_cons.mp hc with rfl | hc
    · rw [hsz]; exact Nat.lt_succ_self _
    · rcases List.mem_cons.mp hc with rfl | hc
      · exact Nat.lt_succ_of_lt (Nat.lt_succ_self _)
      · cases hc
  · have hold : ∀ c o, s.heap.get? c = some o → h'.get? c = some o := fun c o e => by
      refine hk c o (fun hm => ?_) (Heap.get?_push_of_some _ (Heap.get?_push_of_some _ e))
      rcases List.mem_cons.mp hm with e1 | hm
      · have := Heap.lt_size e; rw [e1, hsz] at this; exact Nat.lt_irrefl _ (Nat.lt_of_succ_lt this)
      · cases hm
    obtain ⟨q, rfl⟩ := items3_at hP
    rw [show (items3 a b c t u v).size - 1 = 2 from rfl, best_lt]
    exact h h' tk q (F.keeps hold) (N.grown hold)
end
end Mine
namespace Mine
section
variable {prog : Program} {w : World} {A : Around} {E : Value → Shared → Prop} {s : Shared} {x y z : Str} {n : Int} {t u v : Tok} {Q : Value → Shared → Prop}
theorem find3_is {i j : Int} (e : (Txt.find3 x y i : Int) = j) (h : ∀ t' k, Q (.int j t') { s with toks := k }) : wpAny (model prog w) A (call (.builtin "str.find") [.str x t, .str y u, .int i v]) Q E s := SC.find3 (by rw [e]; exact h _ _)
theorem mul_int_str (hok : MulOk x n) (e : Txt.mul x n = z) (h : ∀ t' k, Q (.str z t') { s with toks := k }) :
    wpAny (model prog w) A (binaryOp .Mult (.int n u) (.str x t)) Q E s := by
  subst e
  refine lm_binaryOp_repeat_right (T := "str") (U := "int") (by decide) (fun s' => typeIs_int s' n u) (typeIs_str s x t) F.fills_int_mul noFill_str_mul F.slot_int_mul lm_noRepeat_int repeat_str F.slot_int_index.lookup
    (call_gives F.slot_int_mul (typeIs_int s n u) F.entry_int_mul (F.args_int_mul_2 _ _) (AutoIntG3.int___mul___int_str_0 n u x t)
      ⟨rfl, typeIs_str s x t, call_gives F.slot_str_mul (typeIs_str s x t) F.entry_str_mul (F.args_str_mul_2 _ _) (gives_str_mul x n t u hok.1 hok.2.1 hok.2.2) ?_⟩)
  unfold Txt.mul at h
  by_cases h1 : n < 1
  · rw [if_pos h1]; have h' := h s.toks (s.toks + 1); rw [if_pos h1] at h'; exact ⟨by decide, h'⟩
  · rw [if_neg h1]; refine post_val_or_made (fun hc => fits_reps (hok.2.2 h1 (by simpa using hc))) fun t' k => ?_
    have h' := h t' k; rw [if_neg h1] at h'; exact h'
theorem mul3 {c : Str} (hx : x = c) (hc : MulOk c 3) (e : Txt.mul c 3 = z) (h : ∀ t' k, Q (.str z t') { s with toks := k }) :
    wpAny (model prog w) A (binaryOp .Mult (.int 3 u) (.str x t)) Q E s := by subst hx; exact mul_int_str hc e h
theorem bar3 : MulOk (Str.ofString "|") 3 := by unfold MulOk; decide +kernel
theorem bra3 : MulOk (Str.ofString "[") 3 := by unfold MulOk; decide +kernel
theorem bar3e : Txt.mul (Str.ofString "|") 3 = Str.ofString "|||" := by decide +kernel
theorem bra3e : Txt.mul (Str.ofString "[") 3 = Str.ofString "[[[" := by decide +kernel
end
end Mine
namespace Mine
def repT (k : Int) : Str := Str.ofString "229 (" ++ Str.ofString "|||" ++ Str.ofString (toString k) ++ Str.ofString "|" ++ Str.ofString ")"
def midT (k : Int) : Str := Str.ofString "|||" ++ Str.ofString (toString k) ++ Str.ofString "|"
def endT (k : Int) : Int := if k < 10 then 10 else 11
theorem sixteenN : ∀ n : Nat, n < 16 → ((n : Int) = 0 ∨ (n : Int) = 1 ∨ (n : Int) = 2 ∨ (n : Int) = 3 ∨ (n : Int) = 4 ∨ (n : Int) = 5 ∨ (n : Int) = 6 ∨ (n : Int) = 7 ∨ (n : Int) = 8 ∨ (n : Int) = 9 ∨ (n : Int) = 10 ∨ (n : Int) = 11 ∨ (n : Int) = 12 ∨ (n : Int) = 13 ∨ (n : Int) = 14 ∨ (n : Int) = 15) := by decide
theorem sixteen {k : Int} (h0 : 0 ≤ k) (h1 : k < 16) : k = 0 ∨ k = 1 ∨ k = 2 ∨ k = 3 ∨ k = 4 ∨ k = 5 ∨ k = 6 ∨ k = 7 ∨ k = 8 ∨ k = 9 ∨ k = 10 ∨ k = 11 ∨ k = 12 ∨ k = 13 ∨ k = 14 ∨ k = 15 := by
  obtain ⟨n, rfl⟩ := Int.eq_ofNat_of_zero_le h0
  exact sixteenN n (by omega)
theorem r_slice3 {k : Int} (h0 : 0 ≤ k) (h1 : k < 16) : Txt.slice (repT k) none (some 3) = Str.ofString "229" := by
  rcases sixteen h0 h1 with h | h | h | h | h | h | h | h | h | h | h | h | h | h | h | h <;> subst h <;> decide +kernel
theorem r_find {k : Int} (h0 : 0 ≤ k) (h1 : k < 16) : (Txt.find (repT k) (Str.ofString "(") : Int) = 4 := by
  rcases sixteen h0 h1 with h | h | h | h | h | h | h | h | h | h | h | h | h | h | h | h <;> subst h <;> decide +kernel
theorem r_find3 {k : Int} (h0 : 0 ≤ k) (h1 : k < 16) : (Txt.find3 (repT k) (Str.ofString ")") (4 + 1) : Int) = endT k := by
  rcases sixteen h0 h1 with h | h | h | h | h | h | h | h | h | h | h | h | h | h | h | h <;> subst h <;> decide +kernel
theorem r_item5 {k : Int} (h0 : 0 ≤ k) (h1 : k < 16) : Txt.item (repT k) (4 + 1) = Str.ofString "|" := by
  rcases sixteen h0 h1 with h | h | h | h | h | h | h | h | h | h | h | h | h | h | h | h <;> subst h <;> decide +kernel
theorem r_itemE {k : Int} (h0 : 0 ≤ k) (h1 : k < 16) : Txt.item (repT k) (endT k - 1) = Str.ofString "|" := by
  rcases sixteen h0 h1 with h | h | h | h | h | h | h | h | h | h | h | h | h | h | h | h <;> subst h <;> decide +kernel
theorem r_mid {k : Int} (h0 : 0 ≤ k) (h1 : k < 16) : Txt.slice (repT k) (some (4 + 1)) (some (endT k)) = midT k := by
  rcases sixteen h0 h1 with h | h | h | h | h | h | h | h | h | h | h | h | h | h | h | h <;> subst h <;> decide +kernel
theorem r_split {k : Int} (h0 : 0 ≤ k) (h1 : k < 16) : Txt.split (midT k) (Str.ofString "|") = [Str.ofString "", Str.ofString "", Str.ofString "", Str.ofString (toString k), Str.ofString ""] := by
  rcases sixteen h0 h1 with h | h | h | h | h | h | h | h | h | h | h | h | h | h | h | h <;> subst h <;> decide +kernel
theorem r_len {k : Int} (h0 : 0 ≤ k) (h1 : k < 16) : ((repT k).length : Int) = endT k + 1 := by
  rcases sixteen h0 h1 with h | h | h | h | h | h | h | h | h | h | h | h | h | h | h | h <;> subst h <;> decide +kernel
theorem r_lenM {k : Int} (h0 : 0 ≤ k) (h1 : k < 16) : (midT k).length ≤ 100 := by
  rcases sixteen h0 h1 with h | h | h | h | h | h | h | h | h | h | h | h | h | h | h | h <;> subst h <;> decide +kernel
theorem endT_b (k : Int) : 10 ≤ endT k ∧ endT k ≤ 11 := by unfold endT; split <;> omega
section
variable {prog : Program} {w : World} {A : Around} {E : Value → Shared → Prop} {s : Shared} {h₀ : Heap} {L : Addr} {m : Str → Option Value} {news : List (Addr × Obj)} {value slice : PySem.Expr} {x y z : Str} {n : Int} {t u v : Tok} {Q : Value → Shared → Prop}
theorem slice_ns_is {j : Int} {uj : Tok} (e : Txt.slice x none (some j) = y) (hF : Fr h₀ L s.heap m) (hN : News h₀ L s.heap news) (hsz : x.length ≤ sizeLine) (h : ∀ h' t' k, Fr h₀ L h' m → News h₀ L h' news → Q (.str y t') { s with heap := h', toks := k })
    (hs : subscripted slice false (.str x t) (.ref s.heap.objs.size) = operate [.ref s.heap.objs.size, .str x t] (getItem (.str x t) (.ref s.heap.objs.size)) := by with_unfolding_all rfl)
    (ht : ∀ r, letTemporaryGo value (.str x t) r = pure () := by intro _; with_unfolding_all rfl) :
    wpAny (model prog w) A (subscriptTail value slice (.str x t) (.ref s.heap.objs.size)) Q E { s with heap := s.heap.push { cls := .type "slice", data := .fields #[.none, .int j uj, .none] } } := by
  subst e; exact slice_strN_ns hF hN h hs ht hsz
theorem slice_ss_is {i j : Int} {ui uj : Tok} (e : Txt.slice x (some i) (some j) = y) (hF : Fr h₀ L s.heap m) (hN : News h₀ L s.heap news) (hsz : x.length ≤ sizeLine) (h : ∀ h' t' k, Fr h₀ L h' m → News h₀ L h' news → Q (.str y t') { s with heap := h', toks := k })
    (hs : subscripted slice false (.str x t) (.ref s.heap.objs.size) = operate [.ref s.heap.objs.size, .str x t] (getItem (.str x t) (.ref s.heap.objs.size)) := by with_unfolding_all rfl)
    (ht : ∀ r, letTemporaryGo value (.str x t) r = pure () := by intro _; with_unfolding_all rfl) :
    wpAny (model prog w) A (subscriptTail value slice (.str x t) (.ref s.heap.objs.size)) Q E { s with heap := s.heap.push { cls := .type "slice", data := .fields #[.int i ui, .int j uj, .none] } } := by
  subst e; exact slice_strN_ss hF hN h hs ht hsz
theorem item_is {i : Int} (e : Txt.item x i = y) (h0 : 0 ≤ i) (h1 : i < (x.length : Int)) (hn : i < 1000) (h : Q (.str y s.toks) { s with toks := s.toks + 1 })
    (hs : subscripted slice false (.str x t) (.int i u) = operate [.str x t, .int i u] (getItem (.str x t) (.int i u)) := by with_unfolding_all rfl)
    (ht : ∀ r, letTemporaryGo value (.str x t) r = pure () := by intro _; with_unfolding_all rfl) :
    wpAny (model prog w) A (subscriptTail value slice (.str x t) (.int i u)) Q E s := by
  subst e; exact item_str (fitsSsize_of (N := 9223372036854775808) (by omega) (by omega) (Int.le_refl _)) (by omega) (by omega) (fun _ => h) hs ht
theorem split5 {a b c d e : Str} (hF : Fr h₀ L s.heap m) (hN : News h₀ L s.heap news) (hy : (y.length == 0) = false) (hx : Txt.split x y = [a, b, c, d, e]) (hsz : x.length + 2 ≤ sizeLine)
    (h : ∀ D ta tb tc td te h' k, Fr h₀ L h' m → News h₀ L h' ((D, listOf #[.str a ta, .str b tb, .str c tc, .str d td, .str e te] 0) :: news) → (∀ p ∈ news, p.1 < D) → Q (.ref D) { s with heap := h', toks := k }) :
    wpAny (model prog w) A (call (.builtin "str.split") [.str x t, .str y u]) Q E s := by
  refine KSpl.split1 hF hN hy (fun D l h' k hl _ F N hD => ?_) hsz
  rw [hx] at hl
  obtain ⟨ta, l1, e1, hl1⟩ := KSpl.cons_of hl
  obtain ⟨tb, l2, e2, hl2⟩ := KSpl.cons_of hl1
  obtain ⟨tc, l3, e3, hl3⟩ := KSpl.cons_of hl2
  obtain ⟨td, l4, e4, hl4⟩ := KSpl.cons_of hl3
  obtain ⟨te, l5, e5, hl5⟩ := KSpl.cons_of hl4
  have e6 := KSpl.nil_of hl5
  subst e6; subst e5; subst e4; subst e3; subst e2; subst e1
  exact h D ta tb tc td te h' k F N hD
end
end Mine
namespace Mine
section
variable {prog : Program} {w : World} {A₀ A : Around} {s : Shared} {base h₀ : Heap} {env : Env} {L : Addr} {m : Str → Option Value} {news : List (Addr × Obj)} {K : Frag} {p : Program} {loose : List Str} {mean : ExcName → Option Value} {mg mb : Str → Option Value}
    {R : Result → Shared → Prop} {name qual : Str} {params : Arguments} {body : List Stmt} {scope : Scope} {dV kV doc pm cdv ct oc : Value} {an od : Option Addr} {osl : Array (Option Value)} {f : Addr} {args : Args} {binds : List (Str × Value)}
/-- a def with a try is entered from the one frame above the ground, whatever its cells -/
theorem enterX0 (B : Below A₀ base [] h₀) (F : Fr h₀ L s.heap m) (X₀ : K.In h₀) (N : News h₀ L s.heap news) (T : Top p loose mean mg mb h₀) (hA : A.frames = some [env]) (hf : env.frame = some L) (hke : env.scope.kind = .function)
    (ho : K.lookup f = some ⟨oc, od, .func (fnOf name qual params body scope dV kV doc pm an cdv ct), osl⟩) (hcd : codeIn K cdv qual = true) (hroom : A.depth < recursionLimit)
    (hbind : BindsTo s (fnOf name qual params body scope dV kV doc pm an cdv ct) args binds) (hloc : ∀ y ∈ binds, scope.names.lookup y.1 = some .local)
    (h : ∀ g L' h₁, Fr h₀ L g m → Fr g L' h₁ (fun y => binds.reverse.lookup y) → News g L' h₁ news → Below A base [env] g → K.In g → Top p loose mean mg mb g → KtsDicts ([env].filterMap (·.frame)) g →
      wpAny (model prog w) (A.deeper (envOf qual scope L' f cdv)) (execs body (envOf qual scope L' f cdv))
        (fun fl s' => LeaveS0 ([env].filterMap (·.frame)) h₀ L m g R (match fl with | .ret v => v | _ => .none) s')
        (fun e s' => wpAny (model prog w) (A.deeper (envOf qual scope L' f cdv)) (leaving (envOf qual scope L' f cdv) e) (fun _ s'' => R (.error e) s'') (fun e' s'' => R (.error e') s'') s')
        { s with heap := h₁, toks := s.toks + binds.length })
    (hco : scope.isCoroutine = false) (hgen : scope.isGenerator = false) (hk : scope.kind = .function)
    (hcell : ∀ x ∈ scope.names, x.2 ≠ .cell) : codeAny (model prog w) A (.call (.ref f) args) R s := by
  have X := X₀.keeps F.keep
  have hfm : [env].filterMap (·.frame) = [L] := by simp [List.filterMap, hf]
  refine codeAny_call_def (fd := fnOf name qual params body scope dV kV doc pm an cdv ct) (body := body) (binds := binds) hroom (X _ _ ho) rfl (T.nolimit.keeps F.keep) (codeRec_of X hcd) rfl hbind hcell hloc (fun h₁ hns hk₁ => ?_) hco hgen hk
  obtain ⟨FG, BG, st, _⟩ := groundX (R := R) B F N hA hf hke
  obtain ⟨oL, es, ep, hLg, hLd, hLk, hLf⟩ := FG.ns
  refine wpAny_mono (h _ s.heap.objs.size h₁ FG ⟨hns, fun b o e => hk₁ b o (of_hideAll _ e), Nat.le_of_eq (hideAll_size _ _)⟩
    (fun p hp => ⟨hk₁ _ _ (N p hp).1, Nat.ne_of_lt (Heap.lt_size (N p hp).1), hideAll_none _ (List.mem_map_of_mem hp)⟩) BG (X₀.keeps st) (T.keeps st) (fun b hb => by
      rw [hfm] at hb
      rw [List.mem_singleton.mp hb]
      exact ⟨oL, es, ep, hLg, hLd⟩)) (fun fl s' hl => ?_) fun _ _ y => y
  obtain ⟨g', L', m', news', T', F', N', k⟩ := hl
  rw [hfm] at T'
  have nL₀ : h₀.get? L = none := Heap.get?_none_of_le F.above
  obtain ⟨sl, hs⟩ := T'.up hLg
  refine k ⟨⟨_, es, ep, F'.keep _ _ hs, hLd, hLk, hLf⟩, fun b o e => F'.keep b o (T'.other b o (st b o e) (fun q => by
    rw [List.mem_singleton.mp q, nL₀] at e
    cases e)), F.above⟩ fun p hp => ⟨(N' p hp).1, fun q => ?_, ?_⟩
  · have := (N' p hp).2.2; rw [q, hs] at this; cases this
  · cases q : h₀.get? p.1 with
    | none => rfl
    | some o =>
      obtain ⟨sl', hs'⟩ := T'.up (st _ _ q)
      have := (N' p hp).2.2
      rw [hs'] at this
      cases this
end
end Mine
namespace Mine
section
variable {prog : Program} {w : World} {A : Around} {E : Value → Shared → Prop} {s : Shared} {env : Env} {h₀ : Heap} {target : PySem.Expr} {body : List Stmt} {Q : Flow → Shared → Prop}
abbrev Led := List (Addr × Obj)
/-- the end of a turn, the ground may have turned -/
def ForEnd (L : Addr) (s₁ : Shared) (G : Heap → Prop) (I : Addr) (oI : Obj) (J : (Str → Option Value) → Led → Prop) (f : Flow) (s₃ : Shared) : Prop :=
  (f = .next ∨ f = .cont) ∧ ∃ g h tk m news, s₃ = { s₁ with heap := h, toks := tk } ∧ G g ∧ Fr g L h m ∧ News g L h ((I, oI) :: news) ∧ (∀ p ∈ news, p.1 ≠ I) ∧ J m news
def ForSrc (prog : Program) (w : World) (A : Around) (E : Value → Shared → Prop) (h₀ : Heap) (env : Env) (target : PySem.Expr) (body : List Stmt) (Q : Flow → Shared → Prop) (xv : Value) (s₁ : Shared) : Prop :=
  ∃ (ax : Addr) (vs : List Value) (k : Nat) (G : Heap → Prop) (J : Nat → (Str → Option Value) → Led → Prop) (m₀ : Str → Option Value) (news₀ : Led),
    xv = .ref ax ∧ A.handled = none ∧ G h₀ ∧ (∀ g, G g → ∀ b, h₀.get? b = none → g.get? b = none) ∧ Fr h₀ env.locals s₁.heap m₀ ∧ News h₀ env.locals s₁.heap news₀ ∧ J 0 m₀ news₀ ∧ (∀ i m news, J i m news → (ax, listOf vs.toArray k) ∈ news) ∧
    (∀ i v g m news I oI h tk, vs[i]? = some v → G g → J i m news → (∀ p ∈ news, p.1 ≠ I) → (∀ p ∈ news₀, p.1 < I) → Fr g env.locals h m → News g env.locals h ((I, oI) :: news) →
      wpAny (model prog w) A (assign target env v) (fun _ s₂ => wpAny (model prog w) A (execs body env) (ForEnd env.locals { s₁ with heap := h, toks := tk } G I oI (J (i + 1))) E s₂) E { s₁ with heap := h, toks := tk }) ∧
    (∀ g m news h tk, G g → J vs.length m news → Fr g env.locals h m → News g env.locals h news → Q .next { s₁ with heap := h, toks := tk })
theorem forT {iter : PySem.Expr} {pos : Pos} {m : Str → Option Value} (_F : Fr h₀ env.locals s.heap m)
    (h : wpAny (model prog w) A (eval iter env) (fun xv s₁ => ForSrc prog w A E h₀ env target body Q xv s₁) E s)
    (hs : ∀ x, foldedSetIterable iter env x = pure x := by intro _; rfl)
    (hE : PassesOwn (model prog w) A env E := by passes_own) :
    wpAny (model prog w) A (exec (.For target iter body [] pos) env) Q E s := by
  refine wpAny_For (wpAny_mono h (fun xv s₁ h₁ => ?_) fun _ _ e => e) hs
  obtain ⟨ax, vs, k, G, J, m₀, news₀, rfl, hh, hG, hGn, F, N, h0, hax, step, fin⟩ := h₁
  have ha := N _ (hax 0 m₀ news₀ h0)
  have hl : s₁.heap.IsList ax vs.toArray := ⟨_, ha.1, rfl, k, rfl⟩
  have hlt : ax < s₁.heap.objs.size := Heap.lt_size ha.1
  have hne : ax ≠ s₁.heap.objs.size := Nat.ne_of_lt hlt
  refine wpAny_pyIter_list hl ?_
  have W := Walks.list (prog := prog) (w := w) hh s₁.heap.objs.size ax hne vs.toArray
  generalize hI : s₁.heap.objs.size = I at *
  have hI₀ : h₀.get? I = none := hI ▸ next_is_new F
  have hLI : env.locals ≠ I := fun q => Nat.lt_irrefl I (by have := F.ns.lt; rw [q, hI] at this; exact this)
  have nI : ∀ p ∈ news₀, p.1 < I := fun p hp => hI ▸ Heap.lt_size (N p hp).1
  refine codeAny_forLoop_any
    (fun n s' => ∃ g h' tk m' news' i, s' = { s₁ with heap := h', toks := tk } ∧ G g ∧ (h'.IsListIter I ax i ∧ h'.IsList ax vs.toArray) ∧ Fr g env.locals h' m' ∧ News g env.locals h' news' ∧ (∀ p ∈ news', p.1 ≠ I) ∧ J i m' news' ∧ i ≤ vs.length ∧ n = vs.length + 1 - i) ?_ (vs.length + 1)
    ⟨h₀, _, s₁.toks, m₀, news₀, 0, rfl, hG, ⟨⟨_, by rw [← hI]; exact Heap.get?_push_size _ rfl, rfl, rfl⟩, hl.at fun o e => Heap.get?_push_of_some _ e⟩, F.push _, (fun p hp => ⟨Heap.get?_push_of_some _ (N p hp).1, (N p hp).2⟩), (fun p hp => Nat.ne_of_lt (nI p hp)), h0, Nat.zero_le _, rfl⟩
  rintro n s' ⟨g, h', tk, m', news', i, rfl, hg, hst, F', N', off, hJ, hi, rfl⟩
  have gI : g.get? I = none := hGn g hg I hI₀
  have next : ∀ h₁ : Heap, (∀ b o, b ∉ [I] → h'.get? b = some o → h₁.get? b = some o) → Fr g env.locals h₁ m' ∧ News g env.locals h₁ news' := fun h₁ hk =>
    ⟨LCg.fr_but F' hk hLI gI, LCg.news_but N' hk off⟩
  by_cases hlt' : i < vs.length
  · refine W.item i _ _ _ (by simpa using hlt') hst fun v h₁ tk₁ hPv st₁ hk₁ => ?_
    refine letGo_listiter st₁.1 ?_
    obtain ⟨F₁, N₁⟩ := next h₁ hk₁
    obtain ⟨oI, heI, _⟩ := st₁.1
    have N₂ : News g env.locals h₁ ((I, oI) :: news') := fun p hp => by
      rcases List.mem_cons.mp hp with rfl | hp
      · exact ⟨heI, Ne.symm hLI, gI⟩
      · exact N₁ p hp
    refine wpAny_mono (wpAny_passesOwn hE (step i v g m' news' I oI h₁ tk₁ (by simpa using hPv) hg hJ off nI F₁ N₂)) (fun _ s₂ h₂ => wpAny_mono (wpAny_passesOwn hE h₂) (fun f s₃ h₃ => ?_) fun _ _ e => e) fun _ _ e => e
    obtain ⟨hf, g', h₃', tk₃, m₃, news₃, rfl, hg₃, F₃, N₃, off₃, hJ₃⟩ := h₃
    have zI : h₃'.get? I = some oI := (N₃ _ (.head _)).1
    have zax : h₃'.IsList ax vs.toArray := ⟨_, (N₃ _ (.tail _ (hax _ _ _ hJ₃))).1, rfl, k, rfl⟩
    have zit : h₃'.IsListIter I ax (i + 1) := by
      obtain ⟨o', q, r⟩ := st₁.1
      rw [heI] at q; cases q
      exact ⟨_, zI, r⟩
    rcases hf with rfl | rfl <;>
    exact ⟨vs.length + 1 - (i + 1), by omega, g', h₃', tk₃, m₃, news₃, i + 1, rfl, hg₃, ⟨zit, zax⟩, F₃, (fun p hp => N₃ p (.tail _ hp)), off₃, hJ₃, hlt', rfl⟩
  · have hin : i = vs.length := Nat.le_antisymm hi (Nat.not_lt.mp hlt')
    subst hin
    refine W.done _ _ _ (by simpa using hst) fun h₁ tk₁ hk₁ => wpAny_execs_nil ?_
    obtain ⟨F₁, N₁⟩ := next h₁ hk₁
    exact fin g m' news' h₁ tk₁ hg hJ F₁ N₁
end
end Mine
namespace Mine
/-- two lists, item by item -/
def All2 {α : Type} (R : Value → α → Prop) : List Value → List α → Prop
  | [], [] => True
  | v :: vs, d :: ds => R v d ∧ All2 R vs ds
  | _, _ => False
theorem All2.get {α : Type} {R : Value → α → Prop} : ∀ {vs : List Value} {ds : List α} {i : Nat} {v : Value}, All2 R vs ds → vs[i]? = some v → ∃ d, ds[i]? = some d ∧ R v d
  | [], [], i, v, _, e => by simp at e
  | x :: vs, d :: ds, 0, v, h, e => by simp at e; exact ⟨d, by simp, e ▸ h.1⟩
  | x :: vs, d :: ds, i + 1, v, h, e => by simp at e; obtain ⟨d', h1, h2⟩ := h.2.get e; exact ⟨d', by simpa using h1, h2⟩
  | [], _ :: _, _, _, h, _ => (show False from h).elim
  | _ :: _, [], _, _, h, _ => (show False from h).elim
theorem All2.len {α : Type} {R : Value → α → Prop} : ∀ {vs : List Value} {ds : List α}, All2 R vs ds → vs.length = ds.length
  | [], [], _ => rfl
  | x :: vs, d :: ds, h => by simp [All2.len h.2]
  | [], _ :: _, h => (show False from h).elim
  | _ :: _, [], h => (show False from h).elim
theorem All2.mono {α : Type} {R R' : Value → α → Prop} (k : ∀ v d, R v d → R' v d) : ∀ {vs : List Value} {ds : List α}, All2 R vs ds → All2 R' vs ds
  | [], [], _ => trivial
  | x :: vs, d :: ds, h => ⟨k _ _ h.1, All2.mono k h.2⟩
  | [], _ :: _, h => (show False from h).elim
  | _ :: _, [], h => (show False from h).elim
theorem All2.snoc {α : Type} {R : Value → α → Prop} {v : Value} {d : α} (r : R v d) : ∀ {vs : List Value} {ds : List α}, All2 R vs ds → All2 R (vs ++ [v]) (ds ++ [d])
  | [], [], _ => ⟨r, trivial⟩
  | x :: vs, e :: ds, h => ⟨h.1, All2.snoc r h.2⟩
  | [], _ :: _, h => (show False from h).elim
  | _ :: _, [], h => (show False from h).elim
theorem take_snoc {α : Type} {l : List α} {i : Nat} {d : α} (e : l[i]? = some d) : l.take (i + 1) = l.take i ++ [d] := by rw [List.take_add_one, e]; rfl
theorem take_all {α : Type} {l : List α} {n : Nat} (e : n = l.length) : l.take n = l := by rw [e, List.take_length]
/-- a pair of texts in the ledger -/
def IsSS (led : Led) (v : Value) (d : Str × Str) : Prop := ∃ T t1 t2, v = .ref T ∧ (T, ({ cls := .type "tuple", data := .seq #[.str d.1 t1, .str d.2 t2] } : Obj)) ∈ led
theorem IsSS.mono {l l' : Led} (k : ∀ p ∈ l, p ∈ l') : ∀ v d, IsSS l v d → IsSS l' v d := fun _ _ ⟨T, a, b, e, h⟩ => ⟨T, a, b, e, k _ h⟩
theorem fr_name {h₀ h : Heap} {L : Addr} {m : Str → Option Value} (F : Fr h₀ L h m) (x : Str) (v : Value) (e : m x = some v) : Fr h₀ L h (fun y => if y = x then some v else m y) := by
  have z : (fun y => if y = x then some v else m y) = m := by
    funext y
    by_cases q : y = x
    · rw [if_pos q, q, e]
    · rw [if_neg q]
  rw [z]; exact F
theorem listOf_snoc (ys : List Value) (v : Value) : listOf (ys.toArray.push v) (ys.length + 1) = listOf (ys ++ [v]).toArray (ys ++ [v]).length := by
  simp
theorem map_snoc {α β : Type} (f : α → β) (l : List α) (d : α) : (l ++ [d]).map f = l.map f ++ [f d] := by simp
end Mine
namespace Mine
section
variable {prog : Program} {w : World} {A : Around} {E : Value → Shared → Prop} {s : Shared} {env : Env} {h₀ : Heap} {target : PySem.Expr} {body : List Stmt} {Q : Flow → Shared → Prop}
theorem allLt_at {d : Addr} : ∀ {l : List (Addr × Obj)}, AllLt d l → ∀ p ∈ l, p.1 < d
  | [], _ => fun _ h => nomatch h
  | x :: r, h => fun p hp => (List.mem_cons.mp hp).elim (fun e => by rw [e]; exact h.1) (fun e => allLt_at h.2 p e)
/-- the end of the one turn of a loop over a list of one item -/
def OneEnd (h₀ : Heap) (L : Addr) (s₁ : Shared) (Q : Flow → Shared → Prop) (I : Addr) (oI : Obj) (x : Addr × Obj) (f : Flow) (s₃ : Shared) : Prop :=
  (f = .next ∨ f = .cont) ∧ ∃ h tk m news, s₃ = { s₁ with heap := h, toks := tk } ∧ Fr h₀ L h m ∧ News h₀ L h ((I, oI) :: news) ∧ (∀ p ∈ news, p.1 ≠ I) ∧ x ∈ news ∧
    ∀ h' tk', Fr h₀ L h' m → News h₀ L h' news → Q .next { s₁ with heap := h', toks := tk' }
def OneSrc (prog : Program) (w : World) (A : Around) (E : Value → Shared → Prop) (h₀ : Heap) (env : Env) (target : PySem.Expr) (body : List Stmt) (Q : Flow → Shared → Prop) (xv : Value) (s₁ : Shared) : Prop :=
  ∃ (ax : Addr) (k : Nat) (m₀ : Str → Option Value) (news₀ : Led), xv = .ref ax ∧ A.handled = none ∧ Fr h₀ env.locals s₁.heap m₀ ∧ News h₀ env.locals s₁.heap news₀ ∧
    ((∃ v, (ax, listOf #[v] k) ∈ news₀ ∧ ∀ I oI h tk, (∀ p ∈ news₀, p.1 < I) → Fr h₀ env.locals h m₀ → News h₀ env.locals h ((I, oI) :: news₀) →
      wpAny (model prog w) A (assign target env v) (fun _ s₂ => wpAny (model prog w) A (execs body env) (OneEnd h₀ env.locals { s₁ with heap := h, toks := tk } Q I oI (ax, listOf #[v] k)) E s₂) E { s₁ with heap := h, toks := tk }) ∨
     ((ax, listOf #[] k) ∈ news₀ ∧ ∀ h tk, Fr h₀ env.locals h m₀ → News h₀ env.locals h news₀ → Q .next { s₁ with heap := h, toks := tk }))
theorem for_one {iter : PySem.Expr} {pos : Pos} {m : Str → Option Value} (F : Fr h₀ env.locals s.heap m)
    (h : wpAny (model prog w) A (eval iter env) (fun xv s₁ => OneSrc prog w A E h₀ env target body Q xv s₁) E s)
    (hs : ∀ x, foldedSetIterable iter env x = pure x := by intro _; rfl)
    (hE : PassesOwn (model prog w) A env E := by passes_own) :
    wpAny (model prog w) A (exec (.For target iter body [] pos) env) Q E s := by
  refine forT F (wpAny_mono h (fun xv s₁ h₁ => ?_) fun _ _ e => e) hs hE
  obtain ⟨ax, k, m₀, news₀, rfl, hh, F₁, N₁, ⟨v, hm, step⟩ | ⟨hm, fin⟩⟩ := h₁
  · refine ⟨ax, [v], k, fun g => g = h₀, fun i m n => (i = 0 ∧ m = m₀ ∧ n = news₀) ∨ (i = 1 ∧ (ax, listOf #[v] k) ∈ n ∧ ∀ h' tk', Fr h₀ env.locals h' m → News h₀ env.locals h' n → Q .next { s₁ with heap := h', toks := tk' }), m₀, news₀, rfl, hh, rfl, (fun g e b q => by rw [e]; exact q), F₁, N₁, .inl ⟨rfl, rfl, rfl⟩, ?_, ?_, ?_⟩
    · rintro i m n (⟨_, _, rfl⟩ | ⟨_, h, _⟩)
      · exact hm
      · exact h
    · rintro i u g m n I oI hx tk hu rfl hJ hI hI0 F N
      rcases hJ with ⟨rfl, rfl, rfl⟩ | ⟨rfl, _, _⟩
      · have hu' : v = u := by simpa using hu
        subst hu'
        refine wpAny_mono (step I oI hx tk hI0 F N) (fun _ s₂ h₂ => wpAny_mono h₂ (fun f s₃ h₃ => ?_) fun _ _ e => e) fun _ _ e => e
        obtain ⟨hf, h', tk', m', n', rfl, F', N', off, hxx, q⟩ := h₃
        exact ⟨hf, _, h', tk', m', n', rfl, rfl, F', N', off, .inr ⟨rfl, hxx, q⟩⟩
      · simp at hu
    · rintro g m n hx tk rfl hJ F N
      rcases hJ with ⟨e, _, _⟩ | ⟨_, _, q⟩
      · simp at e
      · exact q hx tk F N
  · refine ⟨ax, [], k, fun g => g = h₀, fun i m n => (m = m₀ ∧ n = news₀), m₀, news₀, rfl, hh, rfl, (fun g e b q => by rw [e]; exact q), F₁, N₁, ⟨rfl, rfl⟩, ?_, ?_, ?_⟩
    · rintro i m n ⟨_, rfl⟩
      exact hm
    · rintro i u g m n I oI h tk hu
      simp at hu
    · rintro g m n hx tk rfl ⟨rfl, rfl⟩ F N
      exact fin hx tk F N
theorem one_close {L X U I2 l hp pe T1 I D P : Addr} {ox ou oI2 ol oh op o1 oI oD oP : Obj} {nx : Led} {h : Heap} {m : Str → Option Value} {tk : Nat} {s₁ : Shared} (F : Fr h₀ L h m)
    (N : News h₀ L h ((X, ox) :: (U, ou) :: (I2, oI2) :: (l, ol) :: (hp, oh) :: (pe, op) :: (T1, o1) :: (I, oI) :: (D, oD) :: (P, oP) :: nx))
    (lX : I2 < X) (lU : I2 < U) (lI : l < I2 ∧ hp < I2 ∧ pe < I2 ∧ T1 < I2 ∧ I < I2 ∧ D < I2 ∧ P < I2 ∧ AllLt I2 nx)
    (k : ∀ h' tk', Fr h₀ L h' m → News h₀ L h' ((X, ox) :: (U, ou) :: (l, ol) :: (T1, o1) :: (I, oI) :: (D, oD) :: (P, oP) :: nx) → Q .next { s₁ with heap := h', toks := tk' }) :
    OneEnd h₀ L s₁ Q I2 oI2 (l, ol) .next { s₁ with heap := h, toks := tk } := by
  obtain ⟨a1, a2, a3, a4, a5, a6, a7, a8⟩ := lI
  refine ⟨.inl rfl, h, tk, m, _, rfl, F, fun q hq => N q ?_, fun q hq => ?_, .tail _ (.tail _ (.head _)), k⟩
  · simp only [List.mem_cons] at hq ⊢
    rcases hq with h | h | h | h | h | h | h | h | h <;> simp [h]
  · simp only [List.mem_cons] at hq
    rcases hq with h | h | h | h | h | h | h | h
    · rw [h]; exact Nat.ne_of_gt lX
    · rw [h]; exact Nat.ne_of_gt lU
    · rw [h]; exact Nat.ne_of_lt a1
    · rw [h]; exact Nat.ne_of_lt a4
    · rw [h]; exact Nat.ne_of_lt a5
    · rw [h]; exact Nat.ne_of_lt a6
    · rw [h]; exact Nat.ne_of_lt a7
    · exact Nat.ne_of_lt (allLt_at a8 q h)
end
end Mine
namespace Mine
/-- what a call of a def of the text's does, from any frame of any def -/
abbrev Contract (dN : Nat) (w : World) (p : Program) (loose : List Str) (mean : ExcName → Option Value) (mg mb : Str → Option Value) (f : Addr) (vs : List Value)
   (news : List (Addr × Obj)) (R : Value → List (Addr × Obj) → Prop) : Prop :=
  ∀ (dp un : Nat) (gd : Option (List Code)) (cn : Str) (cs : Scope) (a : Addr) (ccd : Value) (cl : List (Str × Addr)) (outer : List Env) (A₀ : Around) (base h₀ : Heap) (L : Addr) (m : Str → Option Value) (s : Shared) (Q E : Value → Shared → Prop),
    Below A₀ base outer h₀ → Fr h₀ L s.heap m → (Mine.hd.heap_39 w.params).In h₀ → News h₀ L s.heap news → Top p loose mean mg mb h₀ → cs.kind = .function →
    dp + dN < recursionLimit → un + 8 * dN < cLine →
    (∀ v (h' : Heap) (tk' : Nat) tl, Fr h₀ L h' m → News h₀ L h' (tl ++ news) → (∀ q ∈ tl, ∀ p ∈ news, p.1 < q.1) → R v tl → Q v { s with heap := h', toks := tk' }) →
      wpAny (model PySem.Challenge.pw_tr0012_01 w) (ktrTop dp un gd cn cs L a ccd cl outer) (call (.ref f) vs) Q E s

/-- the same from the one frame above the ground -/
abbrev ContractS (dN : Nat) (w : World) (p : Program) (loose : List Str) (mean : ExcName → Option Value) (mg mb : Str → Option Value) (f : Addr) (vs : List Value)
   (news : List (Addr × Obj)) (R : Value → List (Addr × Obj) → Prop) : Prop :=
  ∀ (dp un : Nat) (gd : Option (List Code)) (cn : Str) (cs : Scope) (a : Addr) (ccd : Value) (cl : List (Str × Addr)) (A₀ : Around) (h₀ : Heap) (L : Addr) (m : Str → Option Value) (s : Shared) (Q E : Value → Shared → Prop),
    Below A₀ h₀ [] h₀ → Fr h₀ L s.heap m → (Mine.hd.heap_39 w.params).In h₀ → News h₀ L s.heap news → Top p loose mean mg mb h₀ → cs.kind = .function →
    dp + dN < recursionLimit → un + 8 * dN < cLine →
    (∀ v (h' : Heap) (tk' : Nat) tl, Fr h₀ L h' m → News h₀ L h' (tl ++ news) → (∀ q ∈ tl, ∀ p ∈ news, p.1 < q.1) → R v tl → Q v { s with heap := h', toks := tk' }) →
      wpAny (model PySem.Challenge.pw_tr0012_01 w) (ktrTop dp un gd cn cs L a ccd cl []) (call (.ref f) vs) Q E s

abbrev tupO (vs : Array Value) : Obj := { cls := .type "tuple", data := .seq vs }
def IsTup3 (r : UInt64 × UInt64 × UInt64) (v : Value) (tl : List (Addr × Obj)) : Prop := ∃ D a b c t1 t2 t3, v = .ref D ∧ tl = [(D, tupO #[.float a t1, .float b t2, .float c t3])] ∧ (a, b, c) = r

/-- a pair: the host's text and the port -/
def IsHP (name : Str) (k : Int) (v : Value) (tl : List (Addr × Obj)) : Prop := ∃ D t t', v = .ref D ∧ tl = [(D, tupO #[.str name t, .int k t'])]
def IsStr (x : Str) (v : Value) (tl : List (Addr × Obj)) : Prop := ∃ t, v = .str x t ∧ tl = []
theorem led_drop {h₀ h : Heap} {L : Addr} {news news' : List (Addr × Obj)} (N : News h₀ L h news') (hs : ∀ p ∈ news, p ∈ news') : News h₀ L h news := fun p hp => N p (hs p hp)
theorem led_more {h₀ h : Heap} {L A : Addr} {o : Obj} {news : List (Addr × Obj)} (N : News h₀ L h news) (hA : (A, o) ∈ news) : News h₀ L h ((A, o) :: news) := fun p hp => (List.mem_cons.mp hp).elim (fun e => e ▸ N _ hA) (N p)

theorem allLt_to {d : Addr} : ∀ {l : List (Addr × Obj)}, AllLt d l → ∀ p ∈ l, p.1 < d
  | [], _ => fun _ h => nomatch h
  | x :: r, h => fun p hp => (List.mem_cons.mp hp).elim (fun e => by rw [e]; exact h.1) (fun e => allLt_to h.2 p e)
theorem led_13 {h₀ h : Heap} {L : Addr} {x y z : Addr × Obj} {news : List (Addr × Obj)} (N : News h₀ L h (x :: y :: z :: news)) : News h₀ L h ([x] ++ news) := led_drop N fun p hp => (List.mem_cons.mp hp).elim (fun e => e ▸ List.mem_cons_self) fun e => List.mem_cons_of_mem _ (List.mem_cons_of_mem _ (List.mem_cons_of_mem _ e))
theorem led_12 {h₀ h : Heap} {L : Addr} {x y : Addr × Obj} {news : List (Addr × Obj)} (N : News h₀ L h (x :: y :: news)) : News h₀ L h ([x] ++ news) := led_drop N fun p hp => (List.mem_cons.mp hp).elim (fun e => e ▸ List.mem_cons_self) fun e => List.mem_cons_of_mem _ (List.mem_cons_of_mem _ e)
theorem new_one {x : Addr × Obj} {news : List (Addr × Obj)} (h : ∀ p ∈ news, p.1 < x.1) : ∀ q ∈ [x], ∀ p ∈ news, p.1 < q.1 := fun q hq p hp => by rw [List.mem_singleton.mp hq]; exact h p hp

def six : UInt64 := 4618441417868443648
def one : UInt64 := 4607182418800017408
def two : UInt64 := 4611686018427387904
def four : UInt64 := 4616189618054758400
def half : UInt64 := 4602678819172646912
def hsvM (x : UInt64) : UInt64 := Float64.mul x six
def hsvI (x : UInt64) : Int := Flt.toInt Float64.truncOf (hsvM x)
def hsvFr (x : UInt64) : UInt64 := Float64.sub (hsvM x) (Float64.ofInt (hsvI x))
def hsvOk (x : UInt64) : Bool := !Float64.isNaN (hsvM x) && !Float64.isInf (hsvM x) && decide ((hsvI x).natAbs < 2 ^ 1024 - 2 ^ 970)
def hsvF (x y z : UInt64) : UInt64 × UInt64 × UInt64 :=
  if (Float64.cmp y 0 == some Ordering.eq) = true then (z, z, z) else
  if (hsvI x).fmod 6 = 0 then (z, Float64.mul z (Float64.sub one (Float64.mul y (Float64.sub one (hsvFr x)))), Float64.mul z (Float64.sub one y)) else
  if (hsvI x).fmod 6 = 1 then (Float64.mul z (Float64.sub one (Float64.mul y (hsvFr x))), z, Float64.mul z (Float64.sub one y)) else
  if (hsvI x).fmod 6 = 2 then (Float64.mul z (Float64.sub one y), z, Float64.mul z (Float64.sub one (Float64.mul y (Float64.sub one (hsvFr x))))) else
  if (hsvI x).fmod 6 = 3 then (Float64.mul z (Float64.sub one y), Float64.mul z (Float64.sub one (Float64.mul y (hsvFr x))), z) else
  if (hsvI x).fmod 6 = 4 then (Float64.mul z (Float64.sub one (Float64.mul y (Float64.sub one (hsvFr x)))), Float64.mul z (Float64.sub one y), z) else
  (z, Float64.mul z (Float64.sub one y), Float64.mul z (Float64.sub one (Float64.mul y (hsvFr x))))
def hlsOk (x y z : UInt64) : Bool := !Float64.isZero (Float64.add (fmax3 x y z) (fmin3 x y z)) && (!Float64.isZero (Float64.sub (fmax3 x y z) (fmin3 x y z)) && !Float64.isZero (Float64.sub (Float64.sub two (fmax3 x y z)) (fmin3 x y z)))
def hlsL (x y z : UInt64) : UInt64 := Float64.div (Float64.add (fmax3 x y z) (fmin3 x y z)) two
def hlsC (x y z c : UInt64) : UInt64 := Float64.div (Float64.sub (fmax3 x y z) c) (Float64.sub (fmax3 x y z) (fmin3 x y z))
def hlsF (x y z : UInt64) : UInt64 × UInt64 × UInt64 :=
  if (Float64.cmp (fmin3 x y z) (fmax3 x y z) == some Ordering.eq) = true then (0, hlsL x y z, 0) else
  (if (Float64.cmp x (fmax3 x y z) == some Ordering.eq) = true then (Float64.divmod (Float64.div (Float64.sub (hlsC x y z z) (hlsC x y z y)) six) one).2
    else if (Float64.cmp y (fmax3 x y z) == some Ordering.eq) = true then (Float64.divmod (Float64.div (Float64.sub (Float64.add two (hlsC x y z x)) (hlsC x y z z)) six) one).2
    else (Float64.divmod (Float64.div (Float64.sub (Float64.add four (hlsC x y z y)) (hlsC x y z x)) six) one).2,
   hlsL x y z,
   if (Float64.cmp (hlsL x y z) half == some Ordering.lt || Float64.cmp (hlsL x y z) half == some Ordering.eq) = true then Float64.div (Float64.sub (fmax3 x y z) (fmin3 x y z)) (Float64.add (fmax3 x y z) (fmin3 x y z))
    else Float64.div (Float64.sub (fmax3 x y z) (fmin3 x y z)) (Float64.sub (Float64.sub two (fmax3 x y z)) (fmin3 x y z)))
theorem fmod6 (i : Int) : i.fmod 6 = 0 ∨ i.fmod 6 = 1 ∨ i.fmod 6 = 2 ∨ i.fmod 6 = 3 ∨ i.fmod 6 = 4 ∨ i.fmod 6 = 5 := by
  have h1 := Int.fmod_nonneg_of_pos i (show (0:Int) < 6 by decide)
  have h2 := Int.fmod_lt_of_pos i (show (0:Int) < 6 by decide)
  omega
end Mine
namespace Mine
def hueF (k : Int) : UInt64 := Float64.ofFrac (decide (k.fmod 8 < 0) != decide ((8 : Int) < 0)) (k.fmod 8).natAbs (Int.natAbs 8)
def valF (k : Int) : UInt64 := Float64.ofFrac (decide ((1 : Int) < 0) != decide (1 + k.fdiv 8 < 0)) (Int.natAbs 1) (1 + k.fdiv 8).natAbs
theorem hue_inf {k : Int} (h0 : 0 ≤ k) (h1 : k < 16) : Float64.isInf (Float64.ofFrac (decide (k.fmod 8 < 0) != decide ((8 : Int) < 0)) (k.fmod 8).natAbs (Int.natAbs 8)) = false := by
  rcases sixteen h0 h1 with h | h | h | h | h | h | h | h | h | h | h | h | h | h | h | h <;> subst h <;> decide +kernel
theorem val_ne {k : Int} (h0 : 0 ≤ k) (h1 : k < 16) : 1 + k.fdiv 8 ≠ 0 := by
  rcases sixteen h0 h1 with h | h | h | h | h | h | h | h | h | h | h | h | h | h | h | h <;> subst h <;> decide +kernel
theorem val_inf {k : Int} (h0 : 0 ≤ k) (h1 : k < 16) : Float64.isInf (Float64.ofFrac (decide ((1 : Int) < 0) != decide (1 + k.fdiv 8 < 0)) (Int.natAbs 1) (1 + k.fdiv 8).natAbs) = false := by
  rcases sixteen h0 h1 with h | h | h | h | h | h | h | h | h | h | h | h | h | h | h | h <;> subst h <;> decide +kernel
theorem hue_ok {k : Int} (h0 : 0 ≤ k) (h1 : k < 16) : hsvOk (Float64.ofFrac (decide (k.fmod 8 < 0) != decide ((8 : Int) < 0)) (k.fmod 8).natAbs (Int.natAbs 8)) = true := by
  rcases sixteen h0 h1 with h | h | h | h | h | h | h | h | h | h | h | h | h | h | h | h <;> subst h <;> decide +kernel
/-- what _law_paints makes of one kept place -/
def paintC (k : Int) : UInt64 × UInt64 × UInt64 := hsvF (hueF k) one (valF k)
def paintF (d : Str × Int) : Str × (UInt64 × UInt64 × UInt64) := (d.1, paintC d.2)
def IsPaint (led : Led) (v : Value) (d : Str × (UInt64 × UInt64 × UInt64)) : Prop :=
  ∃ T t U ta tb tc, v = .ref T ∧ (T, ({ cls := .type "tuple", data := .seq #[.str d.1 t, .ref U] } : Obj)) ∈ led ∧ (U, ({ cls := .type "tuple", data := .seq #[.float d.2.1 ta, .float d.2.2.1 tb, .float d.2.2.2 tc] } : Obj)) ∈ led
theorem IsPaint.mono {l l' : Led} (k : ∀ p ∈ l, p ∈ l') : ∀ v d, IsPaint l v d → IsPaint l' v d := fun _ _ ⟨T, a, U, b, c, d, e, h1, h2⟩ => ⟨T, a, U, b, c, d, e, k _ h1, k _ h2⟩
/-- an entry of the valid pairs: a name with its reply, or two empty texts -/
def entS : Option (Str × Int) → Str × Str
  | some (n, k) => (n, repT k)
  | none => (Str.ofString "", Str.ofString "")
/-- how far _law_paints is after i entries -/
def Jp (P : Addr) (k0 : Nat) (ps : List Value) (es : List (Option (Str × Int))) (news : Led) (i : Nat) (m1 : Str → Option Value) (n1 : Led) : Prop :=
  ∃ D ys ext, n1 = (D, listOf ys.toArray ys.length) :: (P, listOf ps.toArray k0) :: (ext ++ news) ∧ m1 (Str.ofString "paints") = some (.ref D) ∧ All2 (IsPaint (ext ++ news)) ys (((es.take i).filterMap id).map paintF) ∧
     (∀ q ∈ ext ++ news, q.1 ≠ D) ∧ (∀ q ∈ ext, ∀ p ∈ news, p.1 < q.1) ∧ (∀ p ∈ news, p.1 < D) ∧ @Ne Nat P D ∧ ys.length ≤ i
theorem jp_some {P : Addr} {k0 : Nat} {ps : List Value} {es : List (Option (Str × Int))} {news ext nx : Led} {i : Nat} {g h : Heap} {m : Str → Option Value} {tk : Nat} {s₁ : Shared} {G : Heap → Prop} {L X U I2 l hp pe T1 I D : Addr} {oI ol o1 : Obj}
    {ys : List Value} {nm : Str} {kk : Int} {t ta tb tc : Tok} {a b c : UInt64}
    (hG : G g) (F : Fr g L h m) (N : News g L h ((X, ({ cls := .type "tuple", data := .seq #[.str nm t, Value.ref U] } : Obj)) :: (U, tupO #[.float a ta, .float b tb, .float c tc]) :: (l, ol) :: (T1, o1) :: (I, oI) :: (D, listOf (ys.toArray.push (Value.ref X)) (ys.length + 1)) :: (P, listOf ps.toArray k0) :: nx))
    (hnx : ext ++ news = nx) (hm : m (Str.ofString "paints") = some (.ref D)) (he : es[i]? = some (some (nm, kk))) (e3 : (a, b, c) = paintC kk)
    (hys : All2 (IsPaint nx) ys (((es.take i).filterMap id).map paintF)) (hD : ∀ q ∈ nx, q.1 ≠ D) (hext : ∀ q ∈ ext, ∀ p ∈ news, p.1 < q.1) (hDn : ∀ p ∈ news, p.1 < D) (hPD : @Ne Nat P D) (hyl : ys.length ≤ i)
    (hDI : @Ne Nat D I) (hPI : @Ne Nat P I) (hI : ∀ q ∈ nx, q.1 ≠ I)
    (lX : I2 < X) (lU : I2 < U) (lI : l < I2 ∧ hp < I2 ∧ pe < I2 ∧ T1 < I2 ∧ I < I2 ∧ D < I2 ∧ P < I2 ∧ AllLt I2 nx) :
    ForEnd L s₁ G I oI (Jp P k0 ps es news (i + 1)) .next { s₁ with heap := h, toks := tk } := by
  obtain ⟨a1, a2, a3, a4, a5, a6, a7, a8⟩ := lI
  subst hnx
  have hnI : ∀ p ∈ news, p.1 < I2 := fun p hp => allLt_at a8 p (List.mem_append_right ext hp)
  rw [listOf_snoc] at N
  refine ⟨.inl rfl, g, h, tk, m, (D, listOf (ys ++ [Value.ref X]).toArray (ys ++ [Value.ref X]).length) :: (P, listOf ps.toArray k0) :: (((X, ({ cls := .type "tuple", data := .seq #[.str nm t, Value.ref U] } : Obj)) :: (U, tupO #[.float a ta, .float b tb, .float c tc]) :: ext) ++ news), rfl, hG, F, fun q hq => N q ?_, fun q hq => ?_,
    D, ys ++ [Value.ref X], (X, ({ cls := .type "tuple", data := .seq #[.str nm t, Value.ref U] } : Obj)) :: (U, tupO #[.float a ta, .float b tb, .float c tc]) :: ext, rfl, hm, ?_, ?_, ?_, hDn, hPD, ?_⟩
  · simp only [List.cons_append, List.mem_cons, List.mem_append] at hq ⊢
    rcases hq with h | h | h | h | h | h | h <;> simp [h]
  · simp only [List.cons_append, List.mem_cons] at hq
    rcases hq with h | h | h | h | h
    · rw [h]; exact hDI
    · rw [h]; exact hPI
    · rw [h]; exact Nat.ne_of_gt (Nat.lt_trans a5 lX)
    · rw [h]; exact Nat.ne_of_gt (Nat.lt_trans a5 lU)
    · exact hI q h
  · rw [take_snoc he, List.filterMap_append, List.map_append]
    refine All2.snoc ?_ (All2.mono (IsPaint.mono fun _ h => .tail _ (.tail _ h)) hys)
    have e4 : paintF (nm, kk) = (nm, a, b, c) := by rw [e3]; rfl
    show IsPaint _ _ (paintF (nm, kk))
    rw [e4]
    exact ⟨X, t, U, ta, tb, tc, rfl, .head _, .tail _ (.head _)⟩
  · intro q hq
    simp only [List.cons_append, List.mem_cons] at hq
    rcases hq with h | h | h
    · rw [h]; exact Nat.ne_of_gt (Nat.lt_trans a6 lX)
    · rw [h]; exact Nat.ne_of_gt (Nat.lt_trans a6 lU)
    · exact hD q h
  · intro q hq p hp
    simp only [List.mem_cons] at hq
    rcases hq with h | h | h
    · rw [h]; exact Nat.lt_trans (hnI p hp) lX
    · rw [h]; exact Nat.lt_trans (hnI p hp) lU
    · exact hext q h p hp
  · rw [List.length_append]; exact Nat.succ_le_succ hyl
theorem jp_none {P : Addr} {k0 : Nat} {ps : List Value} {es : List (Option (Str × Int))} {news ext nx : Led} {i : Nat} {g h : Heap} {m : Str → Option Value} {tk : Nat} {s₁ : Shared} {G : Heap → Prop} {L I D : Addr} {oI : Obj}
    {ys : List Value}
    (hG : G g) (F : Fr g L h m) (N : News g L h ((I, oI) :: (D, listOf ys.toArray ys.length) :: (P, listOf ps.toArray k0) :: nx))
    (hnx : ext ++ news = nx) (hm : m (Str.ofString "paints") = some (.ref D)) (he : es[i]? = some none)
    (hys : All2 (IsPaint nx) ys (((es.take i).filterMap id).map paintF)) (hD : ∀ q ∈ nx, q.1 ≠ D) (hext : ∀ q ∈ ext, ∀ p ∈ news, p.1 < q.1) (hDn : ∀ p ∈ news, p.1 < D) (hPD : @Ne Nat P D) (hyl : ys.length ≤ i)
    (hDI : @Ne Nat D I) (hPI : @Ne Nat P I) (hI : ∀ q ∈ nx, q.1 ≠ I) :
    ForEnd L s₁ G I oI (Jp P k0 ps es news (i + 1)) .next { s₁ with heap := h, toks := tk } := by
  subst hnx
  refine ⟨.inl rfl, g, h, tk, m, _, rfl, hG, F, N, fun q hq => ?_, D, ys, ext, rfl, hm, ?_, hD, hext, hDn, hPD, Nat.le_succ_of_le hyl⟩
  · simp only [List.mem_cons] at hq
    rcases hq with h | h | h
    · rw [h]; exact hDI
    · rw [h]; exact hPI
    · exact hI q h
  · rw [take_snoc he, List.filterMap_append, List.map_append]
    simpa using hys
end Mine
namespace Mine
/-- a goal that is met by hand -/
def Hold (p : Prop) : Prop := p
theorem bools_get {bs : List Bool} {k : Int} (hb : bs.length = 16) (h0 : 0 ≤ k) (h1 : k < 16) : (bs.map Value.bool).toArray[k.toNat]? = some (.bool (bs.getD k.toNat false)) := by
  have h : k.toNat < bs.length := by omega
  simp [List.getD, h]
theorem bools_set {bs : List Bool} {b : Bool} {j : Nat} : (bs.map Value.bool).toArray.setIfInBounds j (.bool b) = ((bs.set j b).map Value.bool).toArray := by
  simp
theorem off1_mem {D : Addr} : ∀ {l : Led}, LCg.Off1 D l → ∀ p ∈ l, p.1 ≠ D
  | [], _, _, h => nomatch h
  | _ :: _, x, p, h => (List.mem_cons.mp h).elim (fun e => by rw [e]; exact x.1) (fun e => off1_mem x.2 p e)
theorem fmod16 (n : Int) : 0 ≤ n.fmod 16 ∧ n.fmod 16 < 16 := ⟨Int.fmod_nonneg_of_pos n (by decide), Int.fmod_lt_of_pos n (by decide)⟩
theorem ints_get : ∀ {vs : List Value} {ns : List Int} {i : Nat} {v : Value}, IntsAre vs ns → vs[i]? = some v → ∃ n t, v = .int n t ∧ ns[i]? = some n
  | [], _, i, v, h, e => by simp at e
  | u :: vs, [], i, v, h, e => by cases h
  | u :: vs, n :: ns, i, v, h, e => by
    obtain ⟨t, vs', e1, h'⟩ := h.cons_inv
    injection e1 with e2 e3
    subst e2; subst e3
    cases i with
    | zero => simp at e; exact ⟨n, t, e.symm, by simp⟩
    | succ i => simp at e; obtain ⟨a, b, c, d⟩ := ints_get h' e; exact ⟨a, b, c, by simpa using d⟩
section
variable {prog : Program} {w : World} {A : Around} {E : Value → Shared → Prop} {s : Shared} {h₀ : Heap} {L D : Addr} {m : Str → Option Value} {news news' : Led} {its : Array Value} {n : Nat} {k : Int} {t u : Tok}
/-- the item of a list of the ledger at a whole number in range -/
theorem sub_at {value slice : PySem.Expr} {x : Value} {Q : Value → Shared → Prop} (N : News h₀ L s.heap news) (hm : (D, listOf its n) ∈ news) (h0 : 0 ≤ k) (h1 : k < 1000) (hx : its[k.toNat]? = some x) (h : Q x s)
    (hb : subscripted slice false (.ref D) (.int k u) = operate [.ref D, .int k u] (getItem (.ref D) (.int k u)) := by with_unfolding_all rfl) :
    wpAny (model prog w) A (subscriptTail value slice (.ref D) (.int k u)) Q E s :=
  have hl : s.heap.IsList D its := PySem.IsL.isList (n := n) (N _ hm).1
  tail_any hl.typeIs slot_list_getitem.lookup (wpAny_getItem_list hl h0 (by omega) hx h) hb
theorem get_at {x : Value} {Q : Value → Shared → Prop} (N : News h₀ L s.heap news) (hm : (D, listOf its n) ∈ news) (h0 : 0 ≤ k) (h1 : k < 1000) (hx : its[k.toNat]? = some x) (h : Q x s) :
    wpAny (model prog w) A (getItem (.ref D) (.int k u)) Q E s :=
  wpAny_getItem_list (PySem.IsL.isList (n := n) (N _ hm).1) h0 (by omega) hx h
/-- a store into a list of the ledger at a whole number in range -/
theorem set_at {v : Value} {Q : Unit → Shared → Prop} (F : Fr h₀ L s.heap m) (Nw : News h₀ L s.heap news) (U : Upd D (listOf its n) (listOf (its.setIfInBounds k.toNat v) n) news news') (h0 : 0 ≤ k) (h1 : k < its.size) (hs : its.size ≤ 1000)
    (h : ∀ h', Fr h₀ L h' m → News h₀ L h' news' → Q () { s with heap := h' }) : wpAny (model prog w) A (setItem (.ref D) (.int k t) v) Q E s := by
  obtain ⟨pre, post, rfl, rfl, a, b⟩ := U.split
  have z := Nw (D, listOf its n) (List.mem_append.mpr (.inr (.head _)))
  refine ki_setAt z.1 h0 (by omega) h1 (h _ (F.change (Heap.SameBut.update ..) z.2.1 z.2.2) (ki_turn _ Nw a b rfl ?_))
  rw [if_pos (by simp)]
end
section
variable {prog : Program} {w : World} {A : Around} {h₀ : Heap} {L : Addr} {m : Str → Option Value} {env : Env} {elt ct : PySem.Expr} {x x₂ : Str} {scope : Scope} {cl : List (Str × Addr)} {s : Shared} {S : Led → Prop} {P : Nat → Value → Prop} {Fin : List Value → Led → Prop}
theorem end_mono {s₁ s₂ : Shared} {I C D : Addr} {oI oC oD : Obj} {r r' : Value → Led → Prop} {y : Value} (k : ∀ y n, r y n → r' y n) (h : LCg.CompEnd h₀ L m s₁ I oI C oC D oD S r y s₂) : LCg.CompEnd h₀ L m s₁ I oI C oC D oD S r' y s₂ := by
  obtain ⟨h', tk, n', e, F, N, o, hS, q⟩ := h
  exact ⟨h', tk, n', e, F, N, o, hS, k _ _ q⟩
/-- the turns of a comprehension by an invariant -/
theorem rest_inv (n : Nat) (J : Nat → List Value → Led → Prop)
    (step : ∀ i ys news, i < n → J i ys news → ∀ v I oI C oC D m₂ h tk (E' : Value → Shared → Prop), P i v → LCg.NsObj oC m₂ → m₂ x = some v → Fr h₀ L h m → News h₀ L h ((I, oI) :: (C, oC) :: (D, LCg.lst ys) :: news) → LCg.Off3 I C D news → ((@Ne Nat I C) ∧ (@Ne Nat I D) ∧ (@Ne Nat C D)) →
      wpAny (model prog w) A (eval elt (compEnvC scope cl C env)) (LCg.CompEnd h₀ L m { s with heap := h, toks := tk } I oI C oC D (LCg.lst ys) S (fun y news' => J (i + 1) (ys ++ [y]) news')) E' { s with heap := h, toks := tk })
    (fin : ∀ ys news, J n ys news → Fin ys news) : ∀ k i ys news, i + k = n → J i ys news → LCg.CompRest prog w A h₀ L m env elt x scope cl s S P Fin k i ys news
  | 0, i, ys, news, e, hJ => LCg.CompRest.zero (fin _ _ (by rw [← e]; exact hJ))
  | k + 1, i, ys, news, e, hJ => LCg.CompRest.succ fun v I oI C oC D m₂ h tk E' hv hC hx F N off ne =>
      wpAny_mono (step i ys news (by omega) hJ v I oI C oC D m₂ h tk E' hv hC hx F N off ne) (fun _ _ q => end_mono (fun y n' z => rest_inv n J step fin k (i + 1) _ n' (by omega) z) q) fun _ _ e => e
theorem restT_inv (n : Nat) (J : Nat → List Value → Led → Prop)
    (step : ∀ i ys news, i < n → J i ys news → ∀ v I oI C oC D m₂ h tk (E' : Value → Shared → Prop), P i v → LCg.NsObj oC m₂ → m₂ x = some v → Fr h₀ L h m → News h₀ L h ((I, oI) :: (C, oC) :: (D, LCg.lst ys) :: news) → LCg.Off3 I C D news → ((@Ne Nat I C) ∧ (@Ne Nat I D) ∧ (@Ne Nat C D)) →
      wpAny (model prog w) A (isTrue ct (compEnvC scope cl C env) (eval ct (compEnvC scope cl C env))) (fun ok s' => if ok = true then
        wpAny (model prog w) A (eval elt (compEnvC scope cl C env)) (LCg.CompEnd h₀ L m { s with heap := h, toks := tk } I oI C oC D (LCg.lst ys) S (fun y news' => J (i + 1) (ys ++ [y]) news')) E' s'
        else LCg.CompEnd h₀ L m { s with heap := h, toks := tk } I oI C oC D (LCg.lst ys) S (fun _ news' => J (i + 1) ys news') Value.none s') E' { s with heap := h, toks := tk })
    (fin : ∀ ys news, J n ys news → Fin ys news) : ∀ k i ys news, i + k = n → J i ys news → LCt.CompRestT prog w A h₀ L m env ct elt x scope cl s S P Fin k i ys news
  | 0, i, ys, news, e, hJ => LCt.CompRestT.zero (fin _ _ (by rw [← e]; exact hJ))
  | k + 1, i, ys, news, e, hJ => LCt.CompRestT.succ fun v I oI C oC D m₂ h tk E' hv hC hx F N off ne => by
      refine wpAny_mono (step i ys news (by omega) hJ v I oI C oC D m₂ h tk E' hv hC hx F N off ne) (fun ok s' q => ?_) fun _ _ e => e
      cases ok with
      | true =>
        simp only [if_true] at q ⊢
        exact wpAny_mono q (fun _ _ q => end_mono (fun y n' z => restT_inv n J step fin k (i + 1) _ n' (by omega) z) q) fun _ _ e => e
      | false =>
        simp only [Bool.false_eq_true, if_false] at q ⊢
        exact end_mono (fun y n' z => restT_inv n J step fin k (i + 1) _ n' (by omega) z) q
theorem restP_inv (n : Nat) (J : Nat → List Value → Led → Prop)
    (step : ∀ i ys news, i < n → J i ys news → ∀ v, P i v → ∃ (t : Addr) (ot : Obj) (v₁ v₂ : Value) (nt : Nat), v = .ref t ∧ (t, ot) ∈ news ∧ ot.cls = .type "tuple" ∧ ot.data = .seq #[v₁, v₂] nt ∧
      ∀ I oI C oC D m₂ h tk (E' : Value → Shared → Prop), LCg.NsObj oC m₂ → m₂ x = some v₁ → m₂ x₂ = some v₂ → Fr h₀ L h m → News h₀ L h ((I, oI) :: (C, oC) :: (D, LCg.lst ys) :: news) → LCg.Off3 I C D news → ((@Ne Nat I C) ∧ (@Ne Nat I D) ∧ (@Ne Nat C D)) →
      wpAny (model prog w) A (eval elt (compEnvC scope cl C env)) (LCg.CompEnd h₀ L m { s with heap := h, toks := tk } I oI C oC D (LCg.lst ys) S (fun y news' => J (i + 1) (ys ++ [y]) news')) E' { s with heap := h, toks := tk })
    (fin : ∀ ys news, J n ys news → Fin ys news) : ∀ k i ys news, i + k = n → J i ys news → LCp.CompRestP prog w A h₀ L m env elt x x₂ scope cl s S P Fin k i ys news
  | 0, i, ys, news, e, hJ => LCp.CompRestP.zero (fin _ _ (by rw [← e]; exact hJ))
  | k + 1, i, ys, news, e, hJ => LCp.CompRestP.succ fun v hv => by
      obtain ⟨t, ot, v₁, v₂, nt, e1, e2, e3, e4, q⟩ := step i ys news (by omega) hJ v hv
      exact ⟨t, ot, v₁, v₂, nt, e1, e2, e3, e4, fun I oI C oC D m₂ h tk E' hC hx hx₂ F N off ne =>
        wpAny_mono (q I oI C oC D m₂ h tk E' hC hx hx₂ F N off ne) (fun _ _ q => end_mono (fun y n' z => restP_inv n J step fin k (i + 1) _ n' (by omega) z) q) fun _ _ e => e⟩
end
end Mine
namespace Mine
/-- a pair of whole numbers in the ledger -/
def IsII (led : Led) (v : Value) (d : Int × Int) : Prop := ∃ T t1 t2, v = .ref T ∧ (T, ({ cls := .type "tuple", data := .seq #[.int d.1 t1, .int d.2 t2] } : Obj)) ∈ led
theorem IsII.mono {l l' : Led} (k : ∀ p ∈ l, p ∈ l') : ∀ v d, IsII l v d → IsII l' v d := fun _ _ ⟨T, a, b, e, h⟩ => ⟨T, a, b, e, k _ h⟩
def idxF (x y : Int × Int) : Int := (x.1 - y.1).fmod 8 + 8 * Builtin.bitXor x.2 y.2
def incF (x : Int × Int) (cs : List Int) (y : Int × Int) : List Int := cs.set (idxF x y).toNat (cs.getD (idxF x y).toNat 0 + 1)
def cntF (ds : List (Int × Int)) : List Int := ds.foldl (fun cs x => ds.foldl (incF x) cs) (List.replicate 16 0)
theorem ints16 (t : Tok) : IntsAre (List.replicate (Int.toNat 16) [Value.int 0 t]).flatten (List.replicate 16 0) := by
  show IntsAre [.int 0 t, .int 0 t, .int 0 t, .int 0 t, .int 0 t, .int 0 t, .int 0 t, .int 0 t, .int 0 t, .int 0 t, .int 0 t, .int 0 t, .int 0 t, .int 0 t, .int 0 t, .int 0 t] [0, 0, 0, 0, 0, 0, 0, 0, 0, 0, 0, 0, 0, 0, 0, 0]
  repeat (first | exact .nil | refine .cons _ _ ?_)
theorem incF_len (x : Int × Int) (cs : List Int) (y : Int × Int) : (incF x cs y).length = cs.length := by rw [incF, List.length_set]
theorem foldl_len {α : Type} {f : List Int → α → List Int} (h : ∀ cs y, (f cs y).length = cs.length) : ∀ (l : List α) (cs : List Int), (l.foldl f cs).length = cs.length
  | [], _ => rfl
  | y :: l, cs => (foldl_len h l (f cs y)).trans (h cs y)
theorem bitx {b d : Int} (h0 : 0 ≤ b ∧ b < 2) (h1 : 0 ≤ d ∧ d < 2) : Builtin.bitXor b d = 0 ∨ Builtin.bitXor b d = 1 := by
  have e0 : b = 0 ∨ b = 1 := by omega
  have e1 : d = 0 ∨ d = 1 := by omega
  rcases e0 with rfl | rfl <;> rcases e1 with rfl | rfl <;> decide
theorem idx_in {x y : Int × Int} (hx : (0 ≤ x.1 ∧ x.1 < 8) ∧ (0 ≤ x.2 ∧ x.2 < 2)) (hy : (0 ≤ y.1 ∧ y.1 < 8) ∧ (0 ≤ y.2 ∧ y.2 < 2)) : 0 ≤ (x.1 - y.1).fmod 8 + 8 * Builtin.bitXor x.2 y.2 ∧ (x.1 - y.1).fmod 8 + 8 * Builtin.bitXor x.2 y.2 < 16 := by
  have h1 := Int.fmod_nonneg_of_pos (x.1 - y.1) (show (0:Int) < 8 by decide)
  have h2 := Int.fmod_lt_of_pos (x.1 - y.1) (show (0:Int) < 8 by decide)
  rcases bitx hx.2 hy.2 with e | e <;> rw [e] <;> omega
theorem ints_at : ∀ {vs : List Value} {ns : List Int} {j : Nat}, IntsAre vs ns → j < ns.length → ∃ t, vs.toArray[j]? = some (.int (ns.getD j 0) t)
  | [], [], j, _, e => absurd e (Nat.not_lt_zero _)
  | u :: vs, [], j, h, e => absurd e (Nat.not_lt_zero _)
  | [], n :: ns, j, h, e => by cases h
  | u :: vs, n :: ns, j, h, e => by
    obtain ⟨t, vs', e1, h'⟩ := h.cons_inv
    injection e1 with e2 e3
    subst e2; subst e3
    cases j with
    | zero => exact ⟨t, by simp⟩
    | succ j =>
      obtain ⟨t', q⟩ := ints_at (j := j) h' (Nat.lt_of_succ_lt_succ e)
      exact ⟨t', by simpa using q⟩
theorem ints_set {t : Tok} {a : Int} : ∀ {vs : List Value} {ns : List Int} (j : Nat), IntsAre vs ns → IntsAre (vs.set j (.int a t)) (ns.set j a)
  | [], [], j, _ => by simpa using IntsAre.nil
  | u :: vs, [], j, h => by cases h
  | [], n :: ns, j, h => by cases h
  | u :: vs, n :: ns, j, h => by
    obtain ⟨t', vs', e1, h'⟩ := h.cons_inv
    injection e1 with e2 e3
    subst e2; subst e3
    cases j with
    | zero => exact .cons _ _ h'
    | succ j => exact .cons _ _ (ints_set j h')
theorem foldl_take {α β : Type} {f : β → α → β} {l : List α} {j : Nat} {y : α} {b : β} (e : l[j]? = some y) : (l.take (j + 1)).foldl f b = f ((l.take j).foldl f b) y := by
  rw [take_snoc e, List.foldl_append]; rfl
theorem forend4 {L I2 T : Addr} {oT oI2 : Obj} {x y : Addr × Obj} {nx : Led} {g h : Heap} {m : Str → Option Value} {tk : Nat} {s₁ : Shared} {G : Heap → Prop} {J : (Str → Option Value) → Led → Prop}
    (hG : G g) (F : Fr g L h m) (N : News g L h ((T, oT) :: (I2, oI2) :: x :: y :: nx)) (hx : x.1 ≠ I2) (hy : y.1 ≠ I2) (hn : ∀ q ∈ nx, q.1 ≠ I2) (hJ : J m (x :: y :: nx)) : ForEnd L s₁ G I2 oI2 J .next { s₁ with heap := h, toks := tk } :=
  ⟨.inl rfl, g, h, tk, m, x :: y :: nx, rfl, hG, F, led_drop N fun _ hq => .tail _ hq, fun q hq => by
    rcases List.mem_cons.mp hq with rfl | hq
    · exact hx
    · rcases List.mem_cons.mp hq with rfl | hq
      · exact hy
      · exact hn q hq, hJ⟩
def termF (tn sg : Int) (d : Int × Int) : Int := 2 ^ ((d.1 * tn).fmod 8).toNat * (1 - 2 * d.2 * sg)
theorem pow_ok (z c : Int) : IntMulOk (2 ^ (z.fmod 8).toNat) c := by
  refine IntMulOk.of_left ?_
  have h1 := Int.fmod_nonneg_of_pos z (show (0:Int) < 8 by decide)
  have h2 := Int.fmod_lt_of_pos z (show (0:Int) < 8 by decide)
  have h3 : (z.fmod 8).toNat = 0 ∨ (z.fmod 8).toNat = 1 ∨ (z.fmod 8).toNat = 2 ∨ (z.fmod 8).toNat = 3 ∨ (z.fmod 8).toNat = 4 ∨ (z.fmod 8).toNat = 5 ∨ (z.fmod 8).toNat = 6 ∨ (z.fmod 8).toNat = 7 := by omega
  rcases h3 with h | h | h | h | h | h | h | h <;> rw [h] <;> decide
theorem ints_snoc {α : Type} {f : α → Int} {ds : List α} {i : Nat} {x : α} {ys : List Value} (hx : ds[i]? = some x) (h : IntsAre ys ((ds.take i).map f)) (t : Tok) : IntsAre (ys ++ [.int (f x) t]) ((ds.take (i + 1)).map f) := by
  rw [take_snoc hx, map_snoc]
  exact h.append (.cons _ _ .nil)
/-- the kept places below i -/
def keptI (bs : List Bool) (i : Nat) : List Int := ((List.range i).filter fun j => bs.getD j false).map Int.ofNat
theorem keptI_t {bs : List Bool} {i : Nat} (h : bs.getD i false = true) : keptI bs (i + 1) = keptI bs i ++ [(i : Int)] := by
  unfold keptI; rw [List.range_succ, List.filter_append, List.filter_cons_of_pos (p := fun j => bs.getD j false) h]; simp
theorem keptI_f {bs : List Bool} {i : Nat} (h : bs.getD i false = false) : keptI bs (i + 1) = keptI bs i := by
  unfold keptI; rw [List.range_succ, List.filter_append, List.filter_cons_of_neg (p := fun j => bs.getD j false) (by rw [h]; exact Bool.false_ne_true)]; simp
theorem bools_at {bs : List Bool} {i : Nat} (hb : bs.length = 16) (h1 : i < 16) : (bs.map Value.bool).toArray[(i : Int).toNat]? = some (.bool (bs.getD i false)) := by
  have h : i < bs.length := by omega
  simp [List.getD, h]
theorem ints_kT {bs : List Bool} {i : Nat} {ys : List Value} {t : Tok} (h : bs.getD i false = true) (hy : IntsAre ys (keptI bs i)) : IntsAre (ys ++ [.int (i : Int) t]) (keptI bs (i + 1)) := by
  rw [keptI_t h]; exact hy.append (.cons _ _ .nil)
theorem ints_kF {bs : List Bool} {i : Nat} {ys : List Value} (h : bs.getD i false = false) (hy : IntsAre ys (keptI bs i)) : IntsAre ys (keptI bs (i + 1)) := by
  rw [keptI_f h]; exact hy
/-- the end of a comprehension's turn that made one object -/
theorem comp_grow {h₀ h : Heap} {L X I C D : Addr} {oX oI oC oD : Obj} {m : Str → Option Value} {tk : Nat} {s₁ : Shared} {S : Led → Prop} {rest : Value → Led → Prop} {y : Value} {c ext : Led} {r : Prop}
    (F : Fr h₀ L h m) (N : News h₀ L h ((X, oX) :: (I, oI) :: (C, oC) :: (D, oD) :: (c ++ ext))) (off : LCg.Off3 I C D (c ++ ext)) (hX : I < X ∧ C < X ∧ D < X ∧ r) (hS : S (c ++ (X, oX) :: ext)) (q : rest y (c ++ (X, oX) :: ext)) :
    LCg.CompEnd h₀ L m s₁ I oI C oC D oD S rest y { s₁ with heap := h, toks := tk } := by
  refine ⟨h, tk, _, rfl, F, fun p hp => N p ?_, ?_, hS, q⟩
  · simp only [List.mem_cons, List.mem_append] at hp ⊢
    rcases hp with h | h | h | h | h | h <;> simp [h]
  · have o := LCg.Off3.mem off
    have : ∀ p ∈ c ++ (X, oX) :: ext, p.1 ≠ I ∧ p.1 ≠ C ∧ p.1 ≠ D := fun p hp => by
      rcases List.mem_append.mp hp with h | h
      · exact o p (List.mem_append_left _ h)
      · rcases List.mem_cons.mp h with rfl | h
        · exact ⟨Nat.ne_of_gt hX.1, Nat.ne_of_gt hX.2.1, Nat.ne_of_gt hX.2.2.1⟩
        · exact o p (List.mem_append_right _ h)
    exact LCg.Off3.of this
/-- the name of a place -/
def nameT (i : Int) : Str := { cps := #[(97 + i).toNat] }
theorem ss_snoc {f : Nat → Str × Str} {i : Nat} {ys : List Value} {led : Led} {X : Addr} {t1 t2 : Tok} (h : All2 (IsSS led) ys ((List.range i).map f)) :
    All2 (IsSS ((X, ({ cls := .type "tuple", data := .seq #[.str (f i).1 t1, .str (f i).2 t2] } : Obj)) :: led)) (ys ++ [.ref X]) ((List.range (i + 1)).map f) := by
  rw [List.range_succ, List.map_append]
  exact All2.snoc ⟨X, t1, t2, rfl, .head _⟩ (All2.mono (IsSS.mono fun _ h => .tail _ h) h)
theorem led_turn {h₀ h : Heap} {L : Addr} {x : Addr × Obj} {c e e' : Led} (N : News h₀ L h (x :: (e' ++ (c ++ e)))) : News h₀ L h (x :: (c ++ (e' ++ e))) := led_drop N fun p hp => by
  simp only [List.mem_cons, List.mem_append] at hp ⊢
  grind
theorem allLt_left {d : Addr} : ∀ {c e : Led}, AllLt d (c ++ e) → AllLt d c
  | [], _, _ => trivial
  | _ :: _, _, h => ⟨h.1, allLt_left h.2⟩
theorem newer_cons {c e : Led} {X : Addr} {o : Obj} (h : ∀ p ∈ e, AllLt p.1 c) (hX : AllLt X c) : ∀ p ∈ (X, o) :: e, AllLt p.1 c := fun p hp => (List.mem_cons.mp hp).elim (fun q => by rw [q]; exact hX) (h p)
end Mine
namespace Mine
open PySem PySem.Spec PySem.Calls PySem.W PyProof.Rows PySem.SeqAt PyProof.V
theorem All2.at {α : Type} {R : Value → α → Prop} : ∀ {vs : List Value} {ds : List α} {i : Nat} {d : α}, All2 R vs ds → ds[i]? = some d → ∃ v, vs[i]? = some v ∧ R v d
  | [], [], i, v, _, e => by simp at e
  | x :: vs, d :: ds, 0, v, h, e => by simp at e; exact ⟨x, by simp, e ▸ h.1⟩
  | x :: vs, d :: ds, i + 1, v, h, e => by simp at e; obtain ⟨d', h1, h2⟩ := All2.at h.2 e; exact ⟨d', by simpa using h1, h2⟩
  | [], _ :: _, _, _, h, _ => (show False from h).elim
  | _ :: _, [], _, _, h, _ => (show False from h).elim
theorem off1_of {D : Addr} : ∀ {l : Led}, (∀ p ∈ l, p.1 ≠ D) → LCg.Off1 D l
  | [], _ => trivial
  | x :: _, h => ⟨h x (.head _), off1_of fun p hp => h p (.tail _ hp)⟩
theorem range_map_at {α : Type} {f : Nat → α} {n i : Nat} (h : i < n) : ((List.range n).map f)[i]? = some (f i) := by simp [h]
theorem toArr_at {vs : List Value} {i : Nat} {v : Value} (h : vs[i]? = some v) : vs.toArray[(i : Int).toNat]? = some v := by simpa using h
theorem led_turn2 {h₀ h : Heap} {L : Addr} {x : Addr × Obj} {c e e' : Led} {vs : List Value} {ds : List (Str × Str)} (N : News h₀ L h (x :: (e' ++ (c ++ e)))) (hv : All2 (IsSS (e' ++ (c ++ e))) vs ds) :
    News h₀ L h (x :: (c ++ (e' ++ e))) ∧ All2 (IsSS (x :: (c ++ (e' ++ e)))) vs ds := ⟨led_turn N, All2.mono (IsSS.mono fun p hp => by
  simp only [List.mem_cons, List.mem_append] at hp ⊢
  grind) hv⟩
theorem name4 {a b x1 x2 x3 x4 : Addr × Obj} {ext : Led} (h : ∀ p ∈ ext, AllLt p.1 [a, b, x1, x2, x3, x4]) : ∃ c4 : Led, [x1, x2, x3, x4] = c4 ∧ ∀ p ∈ ext, AllLt p.1 c4 := ⟨_, rfl, fun p hp => (h p hp).2.2⟩
def ssD (d : Str × Str) : PyData := .tuple [.str d.1, .str d.2]
theorem reads_ss {h₀ h : Heap} {L : Addr} {led : Led} (N : News h₀ L h led) : ∀ {vs : List Value} {ds : List (Str × Str)}, All2 (IsSS led) vs ds → ReadsAll h vs (ds.map ssD) []
  | [], [], _ => .nil
  | v :: vs, d :: ds, h => by
    obtain ⟨⟨T, t1, t2, rfl, hT⟩, hr⟩ := h
    have z := (N _ hT).1
    have r1 : ReadsAll h [Value.str d.1 t1, Value.str d.2 t2] [.str d.1, .str d.2] [] := by
      have := ReadsAll.cons (Reads.str (h := h) d.1 t1) (ReadsAll.cons (Reads.str (h := h) d.2 t2) .nil)
      simpa using this
    have := ReadsAll.cons (Reads.tuple z rfl rfl r1) (reads_ss N hr)
    simpa [ssD] using this
  | [], _ :: _, h => (show False from h).elim
  | _ :: _, [], h => (show False from h).elim
theorem ss_lay : ∀ {ds : List (Str × Str)}, (∀ d ∈ ds, PyData.strOk d.1 = true ∧ PyData.strOk d.2 = true) → PyData.canLayAll0 (ds.map ssD) = true
  | [], _ => by simp [PyData.canLayAll0]
  | d :: ds, h => by
    have h1 := h d (.head _)
    have h2 := ss_lay (ds := ds) fun d hd => h d (.tail _ hd)
    simp only [List.map_cons, ssD, PyData.canLayAll0, PyData.canLay0, h1.1, h1.2, Bool.true_and, Bool.and_true]
    exact h2
theorem ss_depth : ∀ ds : List (Str × Str), PyData.depthAll (ds.map ssD) ≤ 3
  | [] => by simp [PyData.depthAll]
  | d :: ds => by
    have := ss_depth ds
    simp only [List.map_cons, PyData.depthAll, ssD, PyData.depth] at this ⊢
    omega
theorem ss_mix : ∀ ds : List (Str × Str), noMixAll (ds.map ssD) (ds.map ssD) = true
  | [] => by simp [noMixAll]
  | d :: ds => by
    have := ss_mix ds
    simp [noMixAll, noMix, ssD] at this ⊢
    exact this
theorem ss_same : ∀ ds : List (Str × Str), PySem.Spec.sameAll (ds.map ssD) (ds.map ssD) = true
  | [] => by simp [PySem.Spec.sameAll]
  | d :: ds => by
    have := ss_same ds
    simp [PySem.Spec.sameAll, PySem.Spec.same, ssD] at this ⊢
    exact this
theorem ss_old {f : Nat → Str × Str} {i : Nat} {ys : List Value} {led : Led} {X : Addr} {t1 t2 : Tok} {d : Str × Str} (e : f i = d) (hX : (X, ({ cls := .type "tuple", data := .seq #[.str d.1 t1, .str d.2 t2] } : Obj)) ∈ led) (h : All2 (IsSS led) ys ((List.range i).map f)) :
    All2 (IsSS led) (ys ++ [.ref X]) ((List.range (i + 1)).map f) := by
  rw [List.range_succ, List.map_append]
  exact All2.snoc ⟨X, t1, t2, rfl, by rw [e]; exact hX⟩ h
section
variable {prog : Program} {w : World} {A : Around} {E : Value → Shared → Prop} {s : Shared}
/-- two lists of the same pairs of texts are not unequal -/
theorem ne_ss {h₀ : Heap} {L a b : Addr} {led : Led} {vs us : List Value} {n k : Nat} {ds : List (Str × Str)} {Q : Value → Shared → Prop} (N : News h₀ L s.heap led) (ha : (a, listOf vs.toArray n) ∈ led) (hb : (b, listOf us.toArray k) ∈ led)
    (h1 : All2 (IsSS led) vs ds) (h2 : All2 (IsSS led) us ds) (hok : ∀ d ∈ ds, PyData.strOk d.1 = true ∧ PyData.strOk d.2 = true) (hu : A.units + 64 < cLine) (h : Q (.bool false) s) : wpAny (model prog w) A (compareOp .NotEq (.ref a) (.ref b)) Q E s := by
  have sh : shaped (.list (ds.map ssD)) = true := by
    have d1 := ss_depth ds
    have d2 : PyData.depth (.list (ds.map ssD)) ≤ 64 := by simp only [PyData.depth]; omega
    show (PyData.canLay0 (.list (ds.map ssD)) && decide (PyData.depth (.list (ds.map ssD)) ≤ 64)) = true
    rw [Bool.and_eq_true]
    exact ⟨by simp only [PyData.canLay0]; exact ss_lay hok, decide_eq_true d2⟩
  refine ne_dataH_same (Reads.list (N _ ha).1 rfl rfl (by simpa using reads_ss N h1)) (Reads.list (N _ hb).1 rfl rfl (by simpa using reads_ss N h2)) sh sh hu (by simp only [noMix]; exact ss_mix ds) ?_
  simp only [PySem.Spec.same]
  rw [ss_same]
  exact h
end
end Mine
namespace Mine
section
variable (w : World) (p : Program) (loose : List Str) (mean : ExcName → Option Value) (mg mb : Str → Option Value) 
theorem c_hsv (x y z : UInt64) (t1 t2 t3 : Tok) (news : List (Addr × Obj)) (hok : hsvOk x = true) :
   Contract 2 w p loose mean mg mb 28 [.float x t1, .float y t2, .float z t3] news (IsTup3 (hsvF x y z)) := by
  intro dp un gd cn cs a ccd cl outer A₀ base h₀ L m s Q E B F X N T hk hd hu hret
  have n1 : Float64.isNaN (Float64.mul x 4618441417868443648) = false := by simp only [hsvOk, hsvM, six, Bool.and_eq_true, Bool.not_eq_true'] at hok; exact hok.1.1
  have n2 : Float64.isInf (Float64.mul x 4618441417868443648) = false := by simp only [hsvOk, hsvM, six, Bool.and_eq_true, Bool.not_eq_true'] at hok; exact hok.1.2
  have n3 : (Flt.toInt Float64.truncOf (Float64.mul x 4618441417868443648)).natAbs < 2 ^ 1024 - 2 ^ 970 := by (have h' := hok; unfold hsvOk at h'; rw [Bool.and_eq_true] at h'; exact of_decide_eq_true h'.2)
  refine wpAny_call ?_
  k_dflt ktr_enter
  k_steps
  all_goals first
    | (exfalso; first | exact absurd (by assumption) (by rw [n1]; exact Bool.false_ne_true) | exact absurd (by assumption) (by rw [n2]; exact Bool.false_ne_true) | exact absurd n3 (Nat.not_lt.mpr (by assumption)))
    | (refine hret _ _ _ [_] ‹Fr h₀ L _ m› ‹News h₀ L _ _› (by intro q hq p hp; rw [List.mem_singleton.mp hq]; exact (by assumption : ∀ p ∈ news, p.1 < _) p hp) ⟨_, _, _, _, _, _, _, rfl, rfl, ?_⟩
       unfold hsvF hsvFr hsvI hsvM six one
       (repeat' (first | rw [if_pos (by assumption)] | rw [if_neg (by first | assumption | (rw [Bool.not_eq_true]; assumption))]))
       (try rfl))
    | (exfalso; rcases fmod6 (Flt.toInt Float64.truncOf (Float64.mul x 4618441417868443648)) with h | h | h | h | h | h <;> exact absurd h (by assumption))
end
end Mine
namespace Mine
section
variable (w : World) (p : Program) (loose : List Str) (mean : ExcName → Option Value) (mg mb : Str → Option Value) 
local macro_rules | `(tactic| walk_at "call builtin:max") => `(tactic| (k_here; (with_reducible show wpAny _ _ (PySem.call (Value.builtin "max") [Value.float _ _, Value.float _ _, Value.float _ _]) _ _ _); k_dflt (refine' max3_N ?k1 ?k2 ?k3 ?_; (case k1 => rfl); (case k2 => k_asm); (case k3 => k_asm); k_whole); intro h' tk' q' F' N'))
local macro_rules | `(tactic| walk_at "call builtin:min") => `(tactic| (k_here; (with_reducible show wpAny _ _ (PySem.call (Value.builtin "min") [Value.float _ _, Value.float _ _, Value.float _ _]) _ _ _); k_dflt (refine' min3_N ?k1 ?k2 ?k3 ?_; (case k1 => rfl); (case k2 => k_asm); (case k3 => k_asm); k_whole); intro h' tk' q' F' N'))
theorem c_hls (x y z : UInt64) (t1 t2 t3 : Tok) (news : List (Addr × Obj)) (hok : hlsOk x y z = true) :
   Contract 2 w p loose mean mg mb 21 [.float x t1, .float y t2, .float z t3] news (IsTup3 (hlsF x y z)) := by
  intro dp un gd cn cs a ccd cl outer A₀ base h₀ L m s Q E B F X N T hk hd hu hret
  have n1 : Float64.isZero (Float64.add (fmax3 x y z) (fmin3 x y z)) = false := by simp only [hlsOk, Bool.and_eq_true, Bool.not_eq_true'] at hok; exact hok.1
  have n2 : Float64.isZero (Float64.sub (fmax3 x y z) (fmin3 x y z)) = false := by simp only [hlsOk, Bool.and_eq_true, Bool.not_eq_true'] at hok; exact hok.2.1
  have n3 : Float64.isZero (Float64.sub (Float64.sub 4611686018427387904 (fmax3 x y z)) (fmin3 x y z)) = false := by simp only [hlsOk, two, Bool.and_eq_true, Bool.not_eq_true'] at hok; exact hok.2.2
  refine wpAny_call ?_
  k_dflt ktr_enter
  k_steps
  all_goals first
    | (exfalso; first | exact absurd (by assumption) (by rw [n1]; exact Bool.false_ne_true) | exact absurd (by assumption) (by rw [n2]; exact Bool.false_ne_true) | exact absurd (by assumption) (by rw [n3]; exact Bool.false_ne_true))
    | (refine hret _ _ _ [_] ‹Fr h₀ L _ m› ‹News h₀ L _ _› (by intro q hq p hp; rw [List.mem_singleton.mp hq]; exact (by assumption : ∀ p ∈ news, p.1 < _) p hp) ⟨_, _, _, _, _, _, _, rfl, rfl, ?_⟩
       unfold hlsF hlsL hlsC six one two four half
       (repeat' (first | rw [if_pos (by assumption)] | rw [if_neg (by first | assumption | (rw [Bool.not_eq_true]; assumption))]))
       (try rfl))
end
end Mine
namespace Mine
section
variable (w : World) (p : Program) (loose : List Str) (mean : ExcName → Option Value) (mg mb : Str → Option Value) 
local macro_rules | `(tactic| walk_at "subscriptTail Name Slice str ref") => `(tactic| (k_here; (with_reducible show wpAny _ _ (subscriptTail _ _ (Value.str (repT _) _) (Value.ref _)) _ _ _); k_dflt (show Hold (wpAny _ _ _ _ _ _))))
local macro_rules | `(tactic| walk_at "subscriptTail Name BinOp str int") => `(tactic| (k_here; (with_reducible show wpAny _ _ (subscriptTail _ _ (Value.str (repT _) _) (Value.int _ _)) _ _ _); k_dflt (show Hold (wpAny _ _ _ _ _ _))))
local macro_rules | `(tactic| walk_at "call builtin:str.find") => `(tactic| (k_here; (with_reducible show wpAny _ _ (PySem.call (Value.builtin "str.find") _) _ _ _); k_dflt (show Hold (wpAny _ _ _ _ _ _))))
local macro_rules | `(tactic| walk_at "call builtin:str.split") => `(tactic| (k_here; (with_reducible show wpAny _ _ (PySem.call (Value.builtin "str.split") _) _ _ _); k_dflt (show Hold (wpAny _ _ _ _ _ _))))
theorem c_par (k : Int) (hk0 : 0 ≤ k) (hk1 : k < 16) (t1 t2 t3 : Tok) (A1 : Addr) (name : Str) (news : List (Addr × Obj)) (hA : (A1, tupO #[.str name t2, .int 21 t3]) ∈ news) :
   Contract 2 w p loose mean mg mb 79 [.str (repT k) t1, .ref A1] news (IsHP name k) := by
  intro dp un gd cn cs a ccd cl outer A₀ base h₀ L m s Q E B F X N T hk hd hu hret
  have N2 := led_more N hA
  clear N
  have hkE := endT_b k
  have hkL := r_len hk0 hk1
  have hkl : (repT k).length ≤ sizeLine := by rw [sizeLine_eq]; omega
  have hkm : (midT k).length + 2 ≤ sizeLine := by have := r_lenM hk0 hk1; rw [sizeLine_eq]; omega
  refine wpAny_call ?_
  k_dflt ktr_enter
  k_steps
  with_reducible rename Fr _ _ _ _ => F'
  with_reducible rename News _ _ _ _ => N'
  refine slice_ns_is (s := ⟨_, _, _, _, _⟩) (r_slice3 (by assumption) (by assumption)) F' N' (by assumption) ?_
  intro _ _ _ _ _
  k_steps
  refine KXw.find (r_find (by assumption) (by assumption)) ?_
  intro _ _
  k_steps
  refine find3_is (r_find3 (by assumption) (by assumption)) ?_
  intro _ _
  k_steps
  first | refine item_is (r_item5 (by assumption) (by assumption)) (by decide) (by omega) (by decide) ?_ | refine item_is (r_itemE (by assumption) (by assumption)) (by omega) (by omega) (by omega) ?_
  k_steps
  first | refine item_is (r_item5 (by assumption) (by assumption)) (by decide) (by omega) (by decide) ?_ | refine item_is (r_itemE (by assumption) (by assumption)) (by omega) (by omega) (by omega) ?_
  k_steps
  with_reducible rename Fr _ _ _ _ => F'
  with_reducible rename News _ _ _ _ => N'
  refine slice_ss_is (s := ⟨_, _, _, _, _⟩) (r_mid (by assumption) (by assumption)) F' N' (by assumption) ?_
  intro _ _ _ _ _
  k_steps
  first | refine item_is (r_item5 (by assumption) (by assumption)) (by decide) (by omega) (by decide) ?_ | refine item_is (r_itemE (by assumption) (by assumption)) (by omega) (by omega) (by omega) ?_
  k_steps
  refine split5 (by k_asm) (by k_asm) (by decide) (r_split (by assumption) (by assumption)) (by assumption) ?_
  intro D' ta' tb' tc' td' te' h' k' F' N' l1
  try k_lt l1
  k_steps
  refine hret _ _ _ [_] ‹Fr h₀ L _ m› (led_13 ‹News h₀ L _ _›) (new_one ?_) ⟨_, _, _, rfl, rfl⟩
  exact allLt_to (by assumption : _ ∧ _ ∧ AllLt _ news).2.2
end
end Mine
namespace Mine
section
variable (w : World) (p : Program) (loose : List Str) (mean : ExcName → Option Value) (mg mb : Str → Option Value) 
local macro_rules | `(tactic| walk_at "binaryOp Mult") => `(tactic| (k_here; (with_reducible show wpAny _ _ (binaryOp Operator.Mult (Value.int 3 _) (Value.str (Str.ofString "|") _)) _ _ _); (refine mul_int_str bar3 bar3e ?_); intro _ _))
local macro_rules | `(tactic| walk_at "binaryOp Mult") => `(tactic| (k_here; (with_reducible show wpAny _ _ (binaryOp Operator.Mult (Value.int 3 _) (Value.str (Str.ofString "[") _)) _ _ _); (refine mul_int_str bra3 bra3e ?_); intro _ _))
theorem c_reply (k : Int) (t1 : Tok) (h0 : 0 ≤ k) (h1 : k < 16) (news : List (Addr × Obj)) :
   Contract 2 w p loose mean mg mb 91 [.int k t1, .bool true] news (IsStr (repT k)) := by
  intro dp un gd cn cs a ccd cl outer A₀ base h₀ L m s Q E B F X N T hk hd hu hret
  refine wpAny_call ?_
  k_dflt ktr_enter
  k_steps
  all_goals exact hret _ _ _ [] ‹Fr h₀ L _ m› ‹News h₀ L _ _› (fun _ h => nomatch h) ⟨_, rfl, rfl⟩
def badT (k : Int) : Str := Str.ofString "229 (" ++ Str.ofString "[[[" ++ Str.ofString (toString k) ++ Str.ofString "[" ++ Str.ofString ")"
theorem c_replyN (k : Int) (t1 : Tok) (h0 : 0 ≤ k) (h1 : k < 16) (news : List (Addr × Obj)) :
   Contract 2 w p loose mean mg mb 91 [.int k t1, .bool false] news (IsStr (badT k)) := by
  intro dp un gd cn cs a ccd cl outer A₀ base h₀ L m s Q E B F X N T hk hd hu hret
  refine wpAny_call ?_
  k_dflt ktr_enter
  k_steps
  all_goals exact hret _ _ _ [] ‹Fr h₀ L _ m› ‹News h₀ L _ _› (fun _ h => nomatch h) ⟨_, rfl, rfl⟩
/-- the reply for a place, kept or not -/
def repB (b : Bool) (k : Int) : Str := if b then repT k else badT k
/-- an entry of the book -/
def bookF (bs : List Bool) (j : Nat) : Str × Str := (nameT j, repB (bs.getD j false) j)
def compF (bs : List Bool) (j : Nat) : Str × Str := if bs.getD j false = true then bookF bs j else (Str.ofString "", Str.ofString "")
theorem c_replyB (k : Int) (b : Bool) (t1 : Tok) (h0 : 0 ≤ k) (h1 : k < 16) (news : List (Addr × Obj)) :
   Contract 2 w p loose mean mg mb 91 [.int k t1, .bool b] news (IsStr (repB b k)) := by
  cases b with
  | true => exact c_reply w p loose mean mg mb k t1 h0 h1 news
  | false => exact c_replyN w p loose mean mg mb k t1 h0 h1 news
end
end Mine
namespace Mine
section
variable (w : World) (p : Program) (loose : List Str) (mean : ExcName → Option Value) (mg mb : Str → Option Value) 
local macro_rules | `(tactic| k_room) => `(tactic| ktr_room)
local macro_rules | `(tactic| k_units) => `(tactic| ktr_units)
local macro_rules | `(tactic| walk_at "exec For Name Name cons nil") => `(tactic| (k_here; (with_reducible rename Fr _ _ _ _ => lF'); (with_unfolding_all refine' forT lF' ?_); k_whole))
local macro_rules | `(tactic| k_all) => `(tactic| assumption)
local macro_rules | `(tactic| walk_at "call builtin:list.append") => `(tactic| (k_here; (with_reducible show wpAny _ _ (PySem.call (Value.builtin _) [Value.ref _, _]) _ _ _); k_dflt (refine' append_K ?k1 ?k2 ?k3 ?_ ?z; (case k1 => k_asm); (case k2 => k_asm); (case k3 => k_upd); (case z => assumption); k_whole); intro h' F' N'))
def validF (d : Str × Str) : Str × Str := if (Builtin.Str.occurrences d.2 (Str.ofString "[") 0 d.2.length 1).isEmpty = true then d else (Str.ofString "", Str.ofString "")
theorem c_valid (P : Addr) (k : Nat) (ps : List Value) (ds : List (Str × Str)) (news : Led) (hP : (P, listOf ps.toArray k) ∈ news) (hds : All2 (IsSS news) ps ds) (hlen : ds.length ≤ 16) :
   Contract 2 w p loose mean mg mb 35 [.ref P] news (fun v tl => ∃ D ys ext, v = .ref D ∧ tl = (D, listOf ys.toArray ys.length) :: ext ∧ All2 (IsSS (ext ++ news)) ys (ds.map validF)) := by
  intro dp un gd cn cs a ccd cl outer A₀ base h₀ L m s Q E B F X N T hk hd hu hret
  have N2 := led_more N hP
  clear N
  refine wpAny_call ?_
  k_dflt ktr_enter
  k_steps
  with_reducible rename Fr _ _ _ _ => F9
  with_reducible rename News _ _ _ _ => N9
  with_reducible rename _ ∧ AllLt _ _ => l9
  rename Addr => D9
  refine ⟨P, ps, k, fun g => g = _, fun i m1 n1 => ∃ D ys ext, n1 = (D, listOf ys.toArray ys.length) :: (P, listOf ps.toArray k) :: (ext ++ news) ∧ m1 (Str.ofString "accepted_values") = some (.ref D) ∧ All2 (IsSS (ext ++ news)) ys ((ds.take i).map validF) ∧
     (∀ q ∈ ext ++ news, q.1 ≠ D) ∧ (∀ q ∈ ext, ∀ p ∈ news, p.1 < q.1) ∧ (∀ p ∈ news, p.1 < D) ∧ @Ne Nat P D, _, _, rfl, rfl, rfl, ?_, F9, N9, ?_, ?_, ?_, ?_⟩
  · rintro g rfl b e; exact e
  · refine ⟨_, [], [], rfl, rfl, trivial, ?_, (fun _ h => nomatch h), ?_, ?_⟩
    · intro q hq; exact Nat.ne_of_lt (allLt_to l9.2 q hq)
    · exact allLt_to l9.2
    · exact Nat.ne_of_lt l9.1
  · rintro i m1 n1 ⟨D, ys, ext, rfl, _⟩; exact .tail _ (.head _)
  · rintro i v g m1 n1 I oI h1 tk1 hv rfl ⟨D, ys, ext, rfl, hm, hys, hD, hext, hDn, hPD⟩ hI hI0 F1 N1
    obtain ⟨d, hd1, T1, t1, t2, rfl, hT1⟩ := hds.get hv
    have F2 := fr_name F1 _ _ hm
    have hT2 := List.mem_append_right ext hT1
    have N3 := led_more N1 (.tail _ (.tail _ (.tail _ hT2)))
    have hTD : @Ne Nat T1 D := hD _ hT2
    have hTI : @Ne Nat T1 I := hI _ (.tail _ (.tail _ hT2))
    have hDI : @Ne Nat D I := hI _ (.head _)
    have hPI : @Ne Nat P I := hI _ (.tail _ (.head _))
    have hsz : ys.toArray.size ≤ sizeLine := by
      have := hys.len
      rw [sizeLine_eq, List.size_toArray, this, List.length_map, List.length_take]; omega
    generalize hnx : ext ++ news = nx at *
    clear F1 N1 F9 N9
    k_steps
    · with_reducible rename Fr _ _ _ _ => F8
      with_reducible rename News _ _ _ _ => N8
      refine ⟨.inl rfl, _, _, _, _, _, rfl, rfl, F8, led_drop N8 (fun q hq => .tail _ hq), ?_, D, ys ++ [.ref T1], ext, ?_, rfl, ?_, ?_, hext, hDn, hPD⟩
      · intro q hq
        rcases List.mem_cons.mp hq with rfl | hq
        · exact hDI
        · exact hI _ (.tail _ hq)
      · rw [listOf_snoc, hnx]
      · rw [hnx, take_snoc hd1, map_snoc]
        refine All2.snoc ?_ hys
        rw [validF, if_pos (by assumption)]
        exact ⟨_, _, _, rfl, hT2⟩
      · rw [hnx]; exact hD
    · with_reducible rename Fr _ _ _ _ => F8
      with_reducible rename News _ _ _ _ => N8
      with_reducible rename _ ∧ _ => l8
      obtain ⟨_, q2, q3, _, q5⟩ := l8
      rename_i t8 X8 _ _ _ _ _ _ _ _
      rw [listOf_snoc, ← hnx] at N8
      rw [← hnx] at q5 hD hys
      refine ⟨.inl rfl, _, _, _, _, _, rfl, rfl, F8, led_drop (news' := _) N8 ?_, ?_, D, ys ++ [.ref X8], (X8, { cls := .type "tuple", data := .seq #[.str (Str.ofString "") t8, .str (Str.ofString "") (t8 + 1)] }) :: ext, rfl, rfl, ?_, ?_, ?_, hDn, hPD⟩
      · intro q hq
        rcases List.mem_cons.mp hq with rfl | hq
        · exact .tail _ (.tail _ (.head _))
        · rcases List.mem_cons.mp hq with rfl | hq
          · exact .tail _ (.tail _ (.tail _ (.head _)))
          · rcases List.mem_cons.mp hq with rfl | hq
            · exact .tail _ (.tail _ (.tail _ (.tail _ (.head _))))
            · rcases List.mem_cons.mp hq with rfl | hq
              · exact .head _
              · exact .tail _ (.tail _ (.tail _ (.tail _ (.tail _ hq))))
      · intro q hq
        rcases List.mem_cons.mp hq with rfl | hq
        · exact hDI
        · rcases List.mem_cons.mp hq with rfl | hq
          · exact hPI
          · rcases List.mem_cons.mp hq with rfl | hq
            · exact Nat.ne_of_gt q2
            · exact hI _ (.tail _ (.tail _ (hnx ▸ hq)))
      · rw [take_snoc hd1, map_snoc]
        refine All2.snoc ?_ (All2.mono (IsSS.mono fun _ h => .tail _ h) hys)
        rw [validF, if_neg (by rw [Bool.not_eq_true]; assumption)]
        exact ⟨_, _, _, rfl, .head _⟩
      · intro q hq
        rcases List.mem_cons.mp hq with rfl | hq
        · exact Nat.ne_of_gt q3
        · exact hD _ hq
      · intro q hq p hp
        rcases List.mem_cons.mp hq with rfl | hq
        · exact allLt_to q5 p (List.mem_append_right ext hp)
        · exact hext q hq p hp
  · rintro g m1 n1 h1 tk1 rfl ⟨D, ys, ext, rfl, hm, hys, hD, hext, hDn, hPD⟩ F1 N1
    have F2 := fr_name F1 _ _ hm
    rw [take_all hds.len] at hys
    generalize hnx : ext ++ news = nx at *
    clear F1 F9 N9
    k_steps
    with_reducible rename Fr _ _ _ _ => F8
    with_reducible rename News _ _ _ _ => N8
    rw [← hnx] at N8 hys
    refine hret _ _ _ ((D, listOf ys.toArray ys.length) :: ext) F8 ?_ ?_ ⟨D, ys, ext, rfl, rfl, hys⟩
    · refine led_drop N8 fun q hq => ?_
      rcases List.mem_cons.mp hq with rfl | hq
      · exact .head _
      · exact .tail _ (.tail _ hq)
    · intro q hq p hp
      rcases List.mem_cons.mp hq with rfl | hq
      · exact hDn p hp
      · exact hext q hq p hp
end
end Mine
namespace Mine
section
variable (w : World) (p : Program) (loose : List Str) (mean : ExcName → Option Value) (mg mb : Str → Option Value) 
local macro_rules | `(tactic| walk_at "call ref") => `(tactic| (k_here; (with_reducible show wpAny _ _ (PySem.call (Value.ref 79) [Value.str (repT _) _, Value.ref _]) _ _ _); k_dflt (show Hold (wpAny _ _ (PySem.call _ _) _ _ _))))
local macro_rules | `(tactic| walk_at "call ref") => `(tactic| (k_here; (with_reducible show wpAny _ _ (PySem.call (Value.ref 28) [Value.float _ _, Value.float _ _, Value.float _ _]) _ _ _); k_dflt (show Hold (wpAny _ _ (PySem.call _ _) _ _ _))))
local macro_rules | `(tactic| k_room) => `(tactic| ktr_room)
local macro_rules | `(tactic| k_units) => `(tactic| ktr_units)
local macro_rules | `(tactic| walk_at "exec For Tuple Name cons nil") => `(tactic| (k_here; (with_reducible show wpAny _ _ (exec (Stmt.For _ (Expr.Name (Str.ofString "pairs") _) _ _ _) _) _ _ _); (with_reducible rename Fr _ _ _ _ => lF'); (with_unfolding_all refine' forT lF' ?_); k_whole))
local macro_rules | `(tactic| walk_at "exec For Tuple Name cons nil") => `(tactic| (k_here; (with_reducible show wpAny _ _ (exec (Stmt.For _ (Expr.Name (Str.ofString "heard") _) _ _ _) _) _ _ _); (with_reducible rename Fr _ _ _ _ => lF'); (with_unfolding_all refine' for_one lF' ?_); k_whole))
local macro_rules | `(tactic| k_all) => `(tactic| assumption)
local macro_rules | `(tactic| walk_at "call builtin:list.append") => `(tactic| (k_here; (with_reducible show wpAny _ _ (PySem.call (Value.builtin _) [Value.ref _, _]) _ _ _); k_dflt (refine' append_K ?k1 ?k2 ?k3 ?_ ?z; (case k1 => k_asm); (case k2 => k_asm); (case k3 => k_upd); (case z => assumption); k_whole); intro h' F' N'))
theorem c_paints (P : Addr) (k0 : Nat) (ps : List Value) (es : List (Option (Str × Int))) (news : Led) (hP : (P, listOf ps.toArray k0) ∈ news) (hes : All2 (fun v e => IsSS news v (entS e)) ps es) (hlen : es.length ≤ 16)
   (hk : ∀ d, some d ∈ es → 0 ≤ d.2 ∧ d.2 < 16) :
   ContractS 4 w p loose mean mg mb 98 [.ref P] news (fun v tl => ∃ D ys ext, v = .ref D ∧ tl = (D, listOf ys.toArray ys.length) :: ext ∧ All2 (IsPaint (ext ++ news)) ys ((es.filterMap id).map paintF)) := by
  intro dp un gd cn cs a ccd cl A₀ h₀ L m s Q E B F X N T hk' hd hu hret
  have N2 := led_more N hP
  clear N
  refine wpAny_call ?_
  k_dflt (refine' enterX0 ?k1 ?k2 ?k3 ?k4 ?k5 ?kA ?kF ?kK ?k6 ?k7 ?k8 ?k9 ?kB ?_ ?c2 ?c3 ?c4 ?c5; (case kA => exact rfl); (case kF => exact rfl); (case kK => assumption); (case k2 => k_asm); (case k1 => k_asm); (case k3 => k_asm); (case k4 => k_asm); (case k5 => k_asm); (case k6 => k_is); (case k7 => k_is); (case k8 => k_room); (case k9 => first | exact binds_K (by k_in) rfl (by k_is) rfl rfl rfl | exact BindsTo.of_eq rfl); (case kB => exact locs rfl); (case c2 => exact rfl); (case c3 => exact rfl); (case c4 => exact rfl); (case c5 => decide); k_whole; intro g' L' h' FG' F' N' B' X' T' D'; (try dsimp only); (try k_lift B'); (try k_fold))
  k_steps
  with_reducible rename Fr _ _ _ _ => F9
  with_reducible rename News _ _ _ _ => N9
  with_reducible rename _ ∧ AllLt _ _ => l9
  refine ⟨P, ps, k0, fun g => KtsTurn (List.filterMap (fun x => x.frame) [envX cn cs L a ccd cl]) g' g ∧ Below (ktrTop dp un gd cn cs L a ccd cl []) h₀ [envX cn cs L a ccd cl] g ∧ (Mine.hd.heap_39 w.params).In g ∧ Top p loose mean mg mb g ∧ KtsDicts (List.filterMap (fun x => x.frame) [envX cn cs L a ccd cl]) g,
     Jp P k0 ps es news, _, _, rfl, rfl, ⟨KtsTurn.refl, B', X', T', D'⟩, ?_, F9, N9, ?_, ?_, ?_, ?_⟩
  · rintro g ⟨hT, _⟩ b e; exact hT.none_ b e
  · refine ⟨_, [], [], rfl, rfl, trivial, ?_, (fun _ h => nomatch h), ?_, ?_, Nat.le_refl _⟩
    · intro q hq; exact Nat.ne_of_lt (allLt_to l9.2 q hq)
    · exact allLt_to l9.2
    · exact Nat.ne_of_lt l9.1
  · rintro i m1 n1 ⟨D, ys, ext, rfl, _⟩; exact .tail _ (.head _)
  · rintro i v g m1 n1 I oI h1 tk1 hv ⟨hT, hB, hX, hTo, hKD⟩ ⟨D, ys, ext, rfl, hm, hys, hD, hext, hDn, hPD, hyl⟩ hI hI0 F1 N1
    obtain ⟨e, he, T1, t1, t2, rfl, hT1⟩ := hes.get hv
    have F2 := fr_name F1 _ _ hm
    have hT2 := List.mem_append_right ext hT1
    have N3 := led_more N1 (.tail _ (.tail _ (.tail _ hT2)))
    have hTD : @Ne Nat T1 D := hD _ hT2
    have hTI : @Ne Nat T1 I := hI _ (.tail _ (.tail _ hT2))
    have hDI : @Ne Nat D I := hI _ (.head _)
    have hPI : @Ne Nat P I := hI _ (.tail _ (.head _))
    have hi : i < es.length := by
      have := List.getElem?_eq_some_iff.mp he
      exact this.1
    have hsz : ys.toArray.size ≤ sizeLine := by
      rw [sizeLine_eq, List.size_toArray]; omega
    clear F1 N1 F9 N9 B' X' T' D' N2
    have hTw := And.intro trivial hT
    clear hT
    cases e with
    | some d =>
      clear B X T
      obtain ⟨nm, kk⟩ := d
      obtain ⟨hk0, hk1⟩ := hk _ (List.mem_of_getElem? he)
      generalize hnx : ext ++ news = nx at *
      have hI1 := hue_inf hk0 hk1
      have hI2 := val_ne hk0 hk1
      have hI3 := val_inf hk0 hk1
      have hI4 := hue_ok hk0 hk1
      simp only [entS] at N3 hT2
      k_steps
      k_dflt ((refine' c_par _ _ _ _ _ _ _ ?h0 ?h1 _ _ _ _ _ _ ?hA _ _ _ _ _ _ _ _ _ _ _ _ _ _ _ _ _ ?k1 ?k2 ?k3 ?k4 ?k5 ?kK ?kd ?ku ?_); (case h0 => first | assumption | omega); (case h1 => first | assumption | omega); (case k1 => k_asm); (case k2 => k_asm); (case k3 => k_asm); (case k4 => ((with_reducible rename News _ _ _ _ => N9'); exact N9')); (case hA => k_mem); (case k5 => k_asm); (case kK => first | exact rfl | assumption); (case kd => ktr_room); (case ku => ktr_units); intro v' h' tk' tl' F' N' l1' R'; obtain ⟨D', t', u', e1', e2'⟩ := R'; subst e1'; subst e2'; (try simp only [List.cons_append, List.nil_append] at N'); (have l2' := allLt_of (d := D') (l1' _ (List.Mem.head _))); clear l1'; (try simp only [AllLt, and_true] at l2'))
      k_steps
      with_reducible rename Fr _ _ _ _ => F8
      with_reducible rename News _ _ _ _ => N8
      refine ⟨_, _, _, _, rfl, rfl, F8, N8, .inl ⟨_, .head _, ?_⟩⟩
      intro I2 oI2 h2 tk2 hI2 F7 N7
      k_lt hI2
      clear F8 N8
      k_steps
      k_dflt ((refine' c_hsv _ _ _ _ _ _ _ _ _ _ _ _ _ ?h0 _ _ _ _ _ _ _ _ _ _ _ _ _ _ _ _ _ ?k1 ?k2 ?k3 ?k4 ?k5 ?kK ?kd ?ku ?_); (case h0 => assumption); (case k1 => k_asm); (case k2 => k_asm); (case k3 => k_asm); (case k4 => ((with_reducible rename News _ _ _ _ => N9'); exact N9')); (case k5 => k_asm); (case kK => first | exact rfl | assumption); (case kd => ktr_room); (case ku => ktr_units); intro v' h' tk' tl' F' N' l1' R'; obtain ⟨D', a', b', c', t', u', v', e1', e2', e3'⟩ := R'; subst e1'; subst e2'; (try simp only [List.cons_append, List.nil_append] at N'); (have l2' := allLt_of (d := D') (l1' _ (List.Mem.head _))); clear l1'; (try simp only [AllLt, and_true] at l2'))
      k_steps
      with_reducible rename Fr _ _ _ _ => F8
      with_reducible rename News _ _ _ _ => N8
      with_reducible rename _ ∧ _ => l8
      have lX := l8.2.1
      clear l8
      with_reducible rename _ ∧ _ => l7
      have lU := l7.1
      clear l7
      refine one_close F8 N8 lX lU hI2 ?_
      clear F8 N8
      intro h6 tk6 F6 N6
      with_reducible rename _ = hsvF _ _ _ => e8
      k_steps
      exact jp_some ⟨hTw.2, hB, hX, hTo, hKD⟩ F6 N6 hnx rfl he e8 hys hD hext hDn hPD hyl hDI hPI (fun q hq => hI q (.tail _ (.tail _ hq))) lX lU hI2
    | none =>
      generalize hnx : ext ++ news = nx at *
      simp only [entS] at N3 hT2
      k_steps
      with_reducible rename Fr _ _ _ _ => F8
      with_reducible rename News _ _ _ _ => N8
      refine ⟨_, _, _, _, rfl, rfl, F8, N8, .inr ⟨.head _, ?_⟩⟩
      clear F8 N8
      intro h6 tk6 F6 N6
      k_steps
      with_reducible rename KtsTurn _ _ _ => hT3
      with_reducible rename Below _ _ _ _ => B3
      with_reducible rename Frag.In _ _ => X3
      with_reducible rename Top _ _ _ _ _ _ => T3
      with_reducible rename KtsDicts _ _ => D3
      exact jp_none ⟨hTw.2.trans hT3, B3, X3, T3, D3⟩ F6 (led_drop N6 fun q hq => .tail _ (.tail _ (.tail _ hq))) hnx rfl he hys hD hext hDn hPD hyl hDI hPI (fun q hq => hI q (.tail _ (.tail _ hq)))
  · rintro g m1 n1 h1 tk1 ⟨hT, hB, hX, hTo, hKD⟩ ⟨D, ys, ext, rfl, hm, hys, hD, hext, hDn, hPD, hyl⟩ F1 N1
    have F2 := fr_name F1 _ _ hm
    rw [take_all hes.len] at hys
    generalize hnx : ext ++ news = nx at *
    clear F1 F9 N9
    k_steps
    with_reducible rename Fr _ _ _ _ => F8
    with_reducible rename News _ _ _ _ => N8
    rw [← hnx] at N8 hys
    refine hret _ _ _ ((D, listOf ys.toArray ys.length) :: ext) F8 ?_ ?_ ⟨D, ys, ext, rfl, rfl, hys⟩
    · refine led_drop N8 fun q hq => ?_
      rcases List.mem_cons.mp hq with rfl | hq
      · exact .head _
      · exact .tail _ (.tail _ hq)
    · intro q hq p hp
      rcases List.mem_cons.mp hq with rfl | hq
      · exact hDn p hp
      · exact hext q hq p hp
end
end Mine
namespace Mine
section
variable (w : World) (p : Program) (loose : List Str) (mean : ExcName → Option Value) (mg mb : Str → Option Value) 
local macro_rules | `(tactic| k_room) => `(tactic| ktr_room)
local macro_rules | `(tactic| k_units) => `(tactic| ktr_units)
local macro_rules | `(tactic| walk_at "exec Assign cons ListComp") => `(tactic| (k_here; (with_reducible show wpAny _ _ (exec (Stmt.Assign [Expr.Name (Str.ofString "kept") _] (Expr.ListComp _ _ _ _) _) _) _ _ _); k_dflt (refine LCg.Assign_ListComp_U (F₀ := by k_asm) (by rfl) (by with_unfolding_all rfl) (by with_unfolding_all rfl) (by decide) (by rfl) (by decide) (by rfl) (by rfl) (by rfl) ?_)))
local macro_rules | `(tactic| walk_at "exec For Name Subscript cons nil") => `(tactic| (k_here; (with_reducible rename Fr _ _ _ _ => lF'); (with_unfolding_all refine' forT lF' ?_); k_whole))
local macro_rules | `(tactic| k_all) => `(tactic| assumption)
local macro_rules | `(tactic| walk_at "CompSrc") => `(tactic| (k_here; k_dflt (show Hold _)))
local macro_rules | `(tactic| walk_at "subscriptTail Name BinOp ref int") => `(tactic| (k_here; (with_reducible show wpAny _ _ (subscriptTail _ _ (Value.ref _) (Value.int _ _)) _ _ _); k_dflt (refine' sub_at ?N ?m ?a ?b ?x ?_; (case N => k_asm); (case m => k_mem); (case a => assumption); (case b => omega); (case x => assumption); k_whole)))
local macro_rules | `(tactic| walk_at "setItem ref int") => `(tactic| (k_here; (with_reducible show wpAny _ _ (PySem.setItem (Value.ref _) (Value.int _ _) _) _ _ _); k_dflt (refine' set_at ?F ?N ?U ?a ?b ?z ?_; (case F => k_asm); (case N => k_asm); (case U => k_upd); (case a => assumption); (case b => assumption); (case z => assumption); k_whole); intro h' F' N'))
theorem c_kept (Sc : Addr) (vs : List Value) (ns : List Int) (hI : IntsAre vs ns) (hns : ns.length ≤ 63) (news : Led) (dp un : Nat) (gd : Option (List Code)) (cn : Str) (cs : Scope) (a : Addr) (ccd : Value) (cl : List (Str × Addr)) (outer : List Env) (A₀ : Around) (base h₀ : Heap) (L : Addr) (m : Str → Option Value) (s : Shared) (Q E : Value → Shared → Prop)
    (B : Below A₀ base outer h₀) (F : Fr h₀ L s.heap m) (X : (Mine.hd.heap_39 w.params).In h₀) (N : News h₀ L s.heap news) (T : Top p loose mean mg mb h₀) (hk : cs.kind = .function)
    (hd : dp + 4 < recursionLimit) (hu : un + 8 * 4 < cLine) (hLs : base.IsList Sc vs.toArray)
    (hret : ∀ v (h' : Heap) (tk' : Nat) tl, Fr h₀ L h' m → News h₀ L h' (tl ++ news) → (∀ q ∈ tl, ∀ p ∈ news, p.1 ≠ q.1) → (∃ D k, ∃ bs : List Bool, bs.length = 16 ∧ v = .ref D ∧ tl = [(D, listOf (bs.map Value.bool).toArray k)]) → Q v { s with heap := h', toks := tk' }) :
      wpAny (model PySem.Challenge.pw_tr0012_01 w) (ktrTop dp un gd cn cs L a ccd cl outer) (call (.ref 84) [.ref Sc]) Q E s := by
  refine wpAny_call ?_
  k_dflt ktr_enter
  with_reducible rename Below _ _ _ _ => B9
  have hL9 := stays_list B9.stays hLs
  k_steps
  refine LCg.CompSrc.range (n := 16) (by rfl) (by k_asm) (by k_asm) (by assumption) (by decide) (by decide) (by rw [sizeLine_eq]; decide) (fun g8 => rest_inv 16 (fun i ys n1 => news = n1 ∧ ∃ bs : List Bool, bs.length = i ∧ ys = bs.map Value.bool) ?_ ?_ 16 0 [] news rfl ⟨rfl, [], rfl, rfl⟩)
  · rintro i ys _ hi ⟨rfl, bs, hbs, rfl⟩ v I oI C oC D m₂ h tk E' ⟨t, rfl⟩ hC hx F' N' off ne
    k_steps
    with_reducible rename Fr _ _ _ _ => F8
    with_reducible rename News _ _ _ _ => N8
    exact ⟨_, _, _, rfl, F8, led_drop N8 (fun q hq => .tail _ hq), off, trivial, rfl, bs ++ [_], by rw [List.length_append, hbs]; rfl, by rw [List.map_append]; rfl⟩
  · rintro ys _ ⟨rfl, bs, hbs, rfl⟩
    k_steps
    with_reducible rename Fr _ _ _ _ => F9
    with_reducible rename News _ _ _ _ => N9
    with_reducible rename IntsAre _ _ => I9
    with_reducible rename LCg.Off1 _ _ => o9
    with_reducible rename _ ∧ AllLt _ _ => l9
    rename_i Dk _ _ Ds ws _ _ _
    refine ⟨Ds, ws, 0, fun g => g = _, fun i m1 n1 => ∃ k, ∃ bs : List Bool, bs.length = 16 ∧ (Dk, listOf (bs.map Value.bool).toArray k) :: (Ds, listOf ws.toArray 0) :: news = n1 ∧ m1 (Str.ofString "kept") = some (.ref Dk), _, _, rfl, rfl, rfl, ?_, F9, led_drop N9 ?_, ⟨(bs.map Value.bool).length, bs, hbs, rfl, rfl⟩, ?_, ?_, ?_⟩
    · rintro g rfl b e; exact e
    · intro q hq
      rcases List.mem_cons.mp hq with rfl | hq
      · exact .tail _ (.head _)
      · rcases List.mem_cons.mp hq with rfl | hq
        · exact .head _
        · exact .tail _ (.tail _ hq)
    · rintro i m1 _ ⟨k, bs, _, rfl, _⟩; exact .tail _ (.head _)
    · rintro i v g m1 _ I oI h1 tk1 hv rfl ⟨k, bs, hbs, rfl, hm⟩ hI' hI0 F1 N1
      have F2 := fr_name F1 _ _ hm
      clear F1 F9 N9
      have hDI : @Ne Nat Dk I := hI' _ (.head _)
      have hDD : @Ne Nat Dk Ds := Nat.ne_of_lt l9.1
      obtain ⟨n, t, rfl, _⟩ := ints_get I9 hv
      obtain ⟨hn0, hn1⟩ := fmod16 n
      have hbg := bools_get hbs hn0 hn1
      have hnb : n.fmod 16 < ((bs.map Value.bool).toArray.size : Int) := by simp [hbs, hn1]
      have hnz : (bs.map Value.bool).toArray.size ≤ 1000 := by simp [hbs]
      have hDn : ∀ q ∈ news, q.1 ≠ Dk := off1_mem o9
      k_steps
      with_reducible rename Fr _ _ _ _ => F8
      with_reducible rename News _ _ _ _ => N8
      rw [bools_set] at N8
      refine ⟨.inl rfl, g, _, _, _, (Dk, listOf ((bs.set (n.fmod 16).toNat (!bs.getD (n.fmod 16).toNat false)).map Value.bool).toArray k) :: (Ds, listOf ws.toArray 0) :: news, rfl, rfl, F8, N8, ?_, k, bs.set (n.fmod 16).toNat (!bs.getD (n.fmod 16).toNat false), by rw [List.length_set, hbs], rfl, rfl⟩
      intro q hq
      rcases List.mem_cons.mp hq with rfl | hq
      · exact hDI
      · exact hI' _ (.tail _ hq)
    · rintro g m1 _ h1 tk1 rfl ⟨k, bs, hbs, rfl, hm⟩ F1 N1
      have F2 := fr_name F1 _ _ hm
      clear F1 F9 N9
      k_steps
      with_reducible rename Fr _ _ _ _ => F8
      with_reducible rename News _ _ _ _ => N8
      refine hret _ _ _ [(Dk, listOf (bs.map Value.bool).toArray k)] F8 (led_drop N8 fun q hq => ?_) (fun q hq p hp => ?_) ⟨Dk, k, bs, hbs, rfl, rfl⟩
      · rcases List.mem_cons.mp hq with rfl | hq
        · exact .head _
        · exact .tail _ (.tail _ hq)
      · rw [List.mem_singleton.mp hq]; exact off1_mem o9 p hp
end
end Mine
namespace Mine
section
variable (w : World) (p : Program) (loose : List Str) (mean : ExcName → Option Value) (mg mb : Str → Option Value) 
local macro_rules | `(tactic| k_room) => `(tactic| ktr_room)
local macro_rules | `(tactic| k_units) => `(tactic| ktr_units)
local macro_rules | `(tactic| walk_at "exec For Tuple Name cons nil") => `(tactic| (k_here; (with_reducible rename Fr _ _ _ _ => lF'); (with_unfolding_all refine' forT lF' ?_); k_whole))
local macro_rules | `(tactic| k_all) => `(tactic| assumption)
local macro_rules | `(tactic| walk_at "setItem ref int") => `(tactic| (k_here; (with_reducible show wpAny _ _ (PySem.setItem (Value.ref _) (Value.int _ _) _) _ _ _); k_dflt (refine' set_at ?F ?N ?U ?a ?b ?z ?_; (case F => k_asm); (case N => k_asm); (case U => k_upd); (case a => assumption); (case b => assumption); (case z => assumption); k_whole); intro h' F' N'))
local macro_rules | `(tactic| walk_at "getItem ref int") => `(tactic| (k_here; (with_reducible show wpAny _ _ (PySem.getItem (Value.ref _) (Value.int _ _)) _ _ _); k_dflt (refine' get_at ?N ?m ?a ?b ?x ?_; (case N => k_asm); (case m => k_mem); (case a => assumption); (case b => omega); (case x => assumption); k_whole)))
theorem c_counts (P : Addr) (k0 : Nat) (ts : List Value) (ds : List (Int × Int)) (news : Led) (hP : (P, listOf ts.toArray k0) ∈ news) (hds : All2 (IsII news) ts ds) (hlen : ds.length ≤ 16) (hr : ∀ d ∈ ds, (0 ≤ d.1 ∧ d.1 < 8) ∧ (0 ≤ d.2 ∧ d.2 < 2)) :
   Contract 2 w p loose mean mg mb 105 [.ref P] news (fun v tl => ∃ D its k, v = .ref D ∧ tl = [(D, listOf (List.toArray its) k)] ∧ IntsAre its (cntF ds)) := by
  intro dp un gd cn cs a ccd cl outer A₀ base h₀ L m s Q E B F X N T hk hd hu hret
  refine wpAny_call ?_
  k_dflt ktr_enter
  k_steps
  with_reducible rename Fr _ _ _ _ => F9
  with_reducible rename News _ _ _ _ => N9
  with_reducible rename _ ∧ AllLt _ _ => l9
  have hDn := allLt_to l9.2
  rename_i tk9 _ _ _ D9 _ _ _ _ _ _ _ _
  refine ⟨P, ts, k0, fun g => g = _, fun i m1 n1 => ∃ its, IntsAre its ((ds.take i).foldl (fun cs x => ds.foldl (incF x) cs) (List.replicate 16 0)) ∧ (D9, listOf (List.toArray its) 0) :: news = n1 ∧ m1 (Str.ofString "counts") = some (.ref D9) ∧ m1 (Str.ofString "told") = some (.ref P), _, _, rfl, rfl, rfl, ?_, F9, led_drop N9 ?_, ⟨(List.replicate (Int.toNat 16) [Value.int 0 tk9]).flatten, ints16 tk9, rfl, rfl, rfl⟩, ?_, ?_, ?_⟩
  · rintro g rfl b e; exact e
  · intro q hq
    rcases List.mem_cons.mp hq with rfl | hq
    · exact .head _
    · exact .tail _ (.tail _ hq)
  · rintro i m1 _ ⟨its, _, rfl, _⟩; exact .tail _ hP
  · rintro i v g m1 _ I oI h1 tk1 hv rfl ⟨its, hits, rfl, hm, hmt⟩ hI hI0 F1 N1
    obtain ⟨x, hx, T1, t1, t2, rfl, hT1⟩ := hds.get hv
    have F2 := fr_name (fr_name F1 _ _ hm) _ _ (show (if Str.ofString "told" = Str.ofString "counts" then some (Value.ref D9) else m1 (Str.ofString "told")) = some (.ref P) from hmt)
    have N3 := led_more N1 (.tail _ (.tail _ hT1))
    have hTD : @Ne Nat T1 D9 := Nat.ne_of_lt (hDn _ hT1)
    have hTI : @Ne Nat T1 I := hI _ (.tail _ hT1)
    have hDI : @Ne Nat D9 I := hI _ (.head _)
    clear F1 F9 N9
    k_steps
    with_reducible rename Fr _ _ _ _ => F8
    with_reducible rename News _ _ _ _ => N8
    refine ⟨P, ts, k0, fun g' => g' = g, fun j m2 n2 => ∃ its, IntsAre its ((ds.take j).foldl (incF x) ((ds.take i).foldl (fun cs x => ds.foldl (incF x) cs) (List.replicate 16 0))) ∧ (I, oI) :: (D9, listOf (List.toArray its) 0) :: news = n2 ∧ m2 (Str.ofString "counts") = some (.ref D9) ∧ m2 (Str.ofString "told") = some (.ref P) ∧
       m2 (Str.ofString "a") = some (.int x.1 t1) ∧ m2 (Str.ofString "b") = some (.int x.2 t2), _, _, rfl, rfl, rfl, ?_, F8, led_drop N8 (fun q hq => .tail _ hq), ⟨its, hits, rfl, rfl, rfl, rfl, rfl⟩, ?_, ?_, ?_⟩
    · rintro g rfl b e; exact e
    · rintro j m1 _ ⟨its, _, rfl, _⟩; exact .tail _ (.tail _ hP)
    · rintro j v g m2 _ I2 oI2 h2 tk2 hv2 rfl ⟨its, hits, rfl, hc, ht, ha, hb⟩ hI2 hI20 F1 N1
      obtain ⟨y, hy, T2, u1, u2, rfl, hT2⟩ := hds.get hv2
      have F2 := fr_name (fr_name (fr_name (fr_name F1 _ _ hc) _ _ (show (if Str.ofString "told" = Str.ofString "counts" then some (Value.ref D9) else m2 (Str.ofString "told")) = some (.ref P) from ht)) (Str.ofString "a") (.int x.1 t1) ha) (Str.ofString "b") (.int x.2 t2) hb
      have N3 := led_more N1 (.tail _ (.tail _ (.tail _ hT2)))
      have hTD2 : @Ne Nat T2 D9 := Nat.ne_of_lt (hDn _ hT2)
      have hTI2 : @Ne Nat T2 I := hI _ (.tail _ hT2)
      have hTII2 : @Ne Nat T2 I2 := hI2 _ (.tail _ (.tail _ hT2))
      have hDI2 : @Ne Nat D9 I2 := hI2 _ (.tail _ (.head _))
      have hII2 : @Ne Nat I I2 := hI2 _ (.head _)
      have hnD : ∀ q ∈ news, q.1 ≠ D9 := fun q hq => Nat.ne_of_lt (hDn q hq)
      clear F1 N1 F8 N8
      obtain ⟨hj0, hj1⟩ := idx_in (hr x (List.mem_of_getElem? hx)) (hr y (List.mem_of_getElem? hy))
      have hlen16 := hits.length
      rw [foldl_len (incF_len x), foldl_len (fun cs x => foldl_len (incF_len x) ds cs), List.length_replicate] at hlen16
      obtain ⟨tc, hct⟩ := ints_at (j := ((x.1 - y.1).fmod 8 + 8 * Builtin.bitXor x.2 y.2).toNat) hits (by rw [foldl_len (incF_len x), foldl_len (fun cs x => foldl_len (incF_len x) ds cs), List.length_replicate]; omega)
      have hjs : (x.1 - y.1).fmod 8 + 8 * Builtin.bitXor x.2 y.2 < ((List.toArray its).size : Int) := by rw [List.size_toArray, hlen16]; exact hj1
      have hjz : (List.toArray its).size ≤ 1000 := by rw [List.size_toArray, hlen16]; decide
      k_steps
      with_reducible rename Fr _ _ _ _ => F8
      with_reducible rename News _ _ _ _ => N8
      rw [List.setIfInBounds_toArray] at N8
      refine forend4 rfl F8 N8 hII2 hDI2 (fun q hq => hI2 _ (.tail _ (.tail _ hq))) ⟨_, ?_, rfl, rfl, rfl, rfl, rfl⟩
      rw [foldl_take hy]
      exact ints_set _ hits
    · rintro g m2 _ h2 tk2 rfl ⟨its, hits, rfl, hc, ht, ha, hb⟩ F1 N1
      have F2 := fr_name (fr_name F1 _ _ hc) _ _ (show (if Str.ofString "told" = Str.ofString "counts" then some (Value.ref D9) else m2 (Str.ofString "told")) = some (.ref P) from ht)
      rw [take_all hds.len] at hits
      clear F1 F8 N8
      k_steps
      with_reducible rename Fr _ _ _ _ => F8
      with_reducible rename News _ _ _ _ => N8
      refine ⟨.inl rfl, g, _, _, _, (D9, listOf (List.toArray its) 0) :: news, rfl, rfl, F8, N8, ?_, its, ?_, rfl, rfl, rfl⟩
      · intro q hq
        rcases List.mem_cons.mp hq with rfl | hq
        · exact hDI
        · exact hI _ (.tail _ hq)
      · rw [foldl_take hx]
        exact hits
  · rintro g m2 _ h2 tk2 rfl ⟨its, hits, rfl, hc, ht⟩ F1 N1
    have F2 := fr_name F1 _ _ hc
    rw [take_all hds.len] at hits
    clear F1 F9 N9
    k_steps
    with_reducible rename Fr _ _ _ _ => F8
    with_reducible rename News _ _ _ _ => N8
    exact hret _ _ _ [(D9, listOf (List.toArray its) 0)] F8 N8 (new_one hDn) ⟨D9, its, 0, rfl, rfl, hits⟩
end
end Mine
namespace Mine
section
variable (w : World) (p : Program) (loose : List Str) (mean : ExcName → Option Value) (mg mb : Str → Option Value) 
local macro_rules | `(tactic| k_room) => `(tactic| ktr_room)
local macro_rules | `(tactic| k_units) => `(tactic| ktr_units)
local macro_rules | `(tactic| walk_at "eval ListComp") => `(tactic| (k_here; k_dflt (refine LCp.ListComp_P (F₀ := by k_asm) (by with_unfolding_all rfl) (by decide) (by rfl) (by decide) (by rfl) (by rfl) (by decide) ?_)))
local macro_rules | `(tactic| k_all) => `(tactic| assumption)
local macro_rules | `(tactic| walk_at "SrcLP") => `(tactic| (k_here; k_dflt (show Hold (LCp.SrcLP _ _ _ _ _ _ _ _ _ _ _ _ _ _ _))))
local macro_rules | `(tactic| walk_at "binaryOp Mult int int") => `(tactic| (k_here; with_reducible refine mul_int ?_ (by assumption)))
theorem c_sum (P : Addr) (k0 : Nat) (ts : List Value) (ds : List (Int × Int)) (tn sg : Int) (t1 t2 : Tok) (news : Led) (hP : (P, listOf ts.toArray k0) ∈ news) (hds : All2 (IsII news) ts ds) (hlen : ds.length ≤ 16) (hr : ∀ d ∈ ds, (0 ≤ d.1 ∧ d.1 < 8) ∧ (0 ≤ d.2 ∧ d.2 < 2)) (ht0 : 0 ≤ tn) (ht1 : tn < 8) (hs0 : 0 ≤ sg) (hs1 : sg < 2) :
   Contract 2 w p loose mean mg mb 110 [.ref P, .int tn t1, .int sg t2] news (fun v tl => ∃ t, v = .int ((ds.map (termF tn sg)).sum.fmod 17) t ∧ tl = []) := by
  intro dp un gd cn cs a ccd cl outer A₀ base h₀ L m s Q E B F X N T hk hd hu hret
  have N2 := led_more N hP
  clear N
  refine wpAny_call ?_
  k_dflt (refine' code_defC ?k1 ?k2 ?k3 ?k4 ?k5 ?kA ?kF ?kK ?k6 ?k7 ?k8 ?k9 ?kB ?kD ?_ ?c2 ?c3 ?c4; (case kA => exact rfl); (case kF => exact rfl); (case kK => assumption); (case k1 => k_asm); (case k2 => k_asm); (case k3 => k_asm); (case k4 => k_asm); (case k5 => k_asm); (case k6 => k_is); (case k7 => k_is); (case k8 => k_room); (case k9 => exact BindsTo.of_eq rfl); (case kB => exact rfl); (case kD => decide +kernel); (case c2 => exact rfl); (case c3 => exact rfl); (case c4 => exact rfl); k_whole; intro g' L' h' tk' cells' FG' F' N' Y' B' X' T' l1; (try k_lt l1); k_cells Y'; (try simp only [List.cons_append, List.nil_append] at N'); (try dsimp only); (try k_lift B'); (try k_fold))
  k_steps
  with_reducible rename Fr _ _ _ _ => F9
  with_reducible rename News _ _ _ _ => N9
  generalize hn9 : List.cons _ _ = n9 at N9
  refine LCp.SrcLP.ledger (ax := P) (its := ts.toArray) (k := k0) (by rfl) F9 N9 (by rw [← hn9]; k_mem) ?_ (fun g8 => restP_inv _ (fun i ys n1 => n9 = n1 ∧ IntsAre ys ((ds.take i).map (termF tn sg))) ?_ ?_ _ 0 [] _ (Nat.zero_add _) ⟨rfl, .nil⟩)
  · rw [List.size_toArray, hds.len, sizeLine_eq]; omega
  · rintro i ys _ hi ⟨rfl, hys⟩ v hv
    subst hn9
    obtain ⟨x, hx, T1, t1, t2, rfl, hT1⟩ := hds.get (by simpa using hv)
    refine ⟨T1, _, .int x.1 t1, .int x.2 t2, 0, rfl, .tail _ (.tail _ (.tail _ hT1)), rfl, rfl, ?_⟩
    intro I oI C oC D m₂ h tk E' hC ha hb F' N' off ne
    have hM := pow_ok (x.1 * tn) (1 - 2 * x.2 * sg)
    k_steps
    with_reducible rename Fr _ _ _ _ => F8
    with_reducible rename News _ _ _ _ => N8
    refine ⟨_, _, _, rfl, F8, N8, off, .inr ⟨_, .tail _ (.tail _ (.head _)), rfl, _, rfl⟩, rfl, ?_⟩
    exact ints_snoc (f := termF tn sg) hx hys _
  · rintro ys _ ⟨rfl, hys⟩
    subst hn9
    k_steps
    with_reducible rename Fr _ _ _ _ => F8
    with_reducible rename News _ _ _ _ => N8
    refine hret _ _ _ [] F8 (led_drop N8 fun q hq => ?_) (fun _ h => nomatch h) ?_
    · first | exact .tail _ (.tail _ (.tail _ (.tail _ hq))) | exact .tail _ (.tail _ (.tail _ hq)) | exact .tail _ (.tail _ (.tail _ (.tail _ (.tail _ hq))))
    · rw [take_all (by rw [List.size_toArray, hds.len])]
      exact ⟨_, rfl, rfl⟩
end
end Mine
namespace Mine
theorem occ_rep : ∀ j < 16, (Builtin.Str.occurrences (repB true (j : Nat)) (Str.ofString "[") 0 (repB true (j : Nat)).length 1).isEmpty = true := by decide +kernel
theorem occ_bad : ∀ j < 16, (Builtin.Str.occurrences (repB false (j : Nat)) (Str.ofString "[") 0 (repB false (j : Nat)).length 1).isEmpty = false := by decide +kernel
theorem valid_comp (bs : List Bool) {j : Nat} (h : j < 16) : validF (bookF bs j) = compF bs j := by
  unfold validF compF bookF
  cases e : bs.getD j false with
  | true => rw [if_pos (occ_rep j h), if_pos rfl]
  | false => rw [if_neg (by rw [occ_bad j h]; exact Bool.false_ne_true), if_neg Bool.false_ne_true]
theorem valid_all (bs : List Bool) : ((List.range 16).map (bookF bs)).map validF = (List.range 16).map (compF bs) := by
  rw [List.map_map]
  exact List.map_congr_left fun j hj => valid_comp bs (List.mem_range.mp hj)
theorem rep_ok : ∀ j < 16, PyData.strOk (nameT (j : Nat)) = true ∧ PyData.strOk (repB true (j : Nat)) = true := by decide +kernel
theorem emp_ok : PyData.strOk (Str.ofString "") = true := by decide +kernel
theorem comp_ok (bs : List Bool) {j : Nat} (h : j < 16) : PyData.strOk (compF bs j).1 = true ∧ PyData.strOk (compF bs j).2 = true := by
  unfold compF bookF
  cases e : bs.getD j false with
  | true => rw [if_pos rfl]; exact rep_ok j h
  | false => rw [if_neg Bool.false_ne_true]; exact ⟨emp_ok, emp_ok⟩
theorem comp_ok_all (bs : List Bool) : ∀ d ∈ (List.range 16).map (compF bs), PyData.strOk d.1 = true ∧ PyData.strOk d.2 = true := by
  intro d hd
  obtain ⟨j, hj, rfl⟩ := List.mem_map.mp hd
  exact comp_ok bs (List.mem_range.mp hj)
theorem ss_swap {c e0 e : Led} {x : Addr × Obj} {ys : List Value} {ds : List (Str × Str)} (hsub : ∀ p ∈ e0, p ∈ e) (h : All2 (IsSS (c ++ e0)) ys ds) : All2 (IsSS (x :: (c ++ e))) ys ds :=
  All2.mono (IsSS.mono fun p hp => .tail _ ((List.mem_append.mp hp).elim (fun h => List.mem_append_left e h) fun h => List.mem_append_right c (hsub p h))) h
theorem ss_tail {c e : Led} {ys : List Value} {ds : List (Str × Str)} (h : All2 (IsSS e) ys ds) : All2 (IsSS (c ++ e)) ys ds := All2.mono (IsSS.mono fun p hp => List.mem_append_right c hp) h
def entF (bs : List Bool) (j : Nat) : Option (Str × Int) := if bs.getD j false = true then some (nameT j, (j : Int)) else none
theorem ent_comp (bs : List Bool) (j : Nat) : entS (entF bs j) = compF bs j := by
  unfold entF compF bookF
  cases e : bs.getD j false with
  | true => rw [if_pos rfl, if_pos rfl]; rfl
  | false => rw [if_neg Bool.false_ne_true, if_neg Bool.false_ne_true]; rfl
theorem All2.map {α β : Type} {R : Value → α → Prop} {f : β → α} : ∀ {vs : List Value} {ds : List β}, All2 R vs (ds.map f) → All2 (fun v e => R v (f e)) vs ds
  | [], [], _ => trivial
  | v :: vs, d :: ds, h => ⟨h.1, All2.map h.2⟩
  | [], _ :: _, h => (show False from h).elim
  | _ :: _, [], h => (show False from h).elim
def entL (bs : List Bool) : List (Option (Str × Int)) := (List.range 16).map (entF bs)
theorem ent_all {bs : List Bool} {led : Led} {vs : List Value} (h : All2 (IsSS led) vs ((List.range 16).map (compF bs))) : All2 (fun v e => IsSS led v (entS e)) vs (entL bs) := by
  apply All2.map
  have e : (entL bs).map entS = (List.range 16).map (compF bs) := by
    unfold entL; rw [List.map_map]; exact List.map_congr_left fun j _ => ent_comp bs j
  rw [e]; exact h
theorem ent_len (bs : List Bool) : (entL bs).length ≤ 16 := by unfold entL; simp
theorem ent_in (bs : List Bool) : ∀ d, some d ∈ entL bs → 0 ≤ d.2 ∧ d.2 < 16 := by
  intro d hd
  obtain ⟨j, hj, e⟩ := List.mem_map.mp hd
  have hj := List.mem_range.mp hj
  unfold entF at e
  split at e
  · injection e with e; subst e; exact ⟨Int.natCast_nonneg j, by omega⟩
  · cases e
end Mine
namespace Mine
/-- no entry is a tuple -/
def NoTup (o : Obj) : Prop := ¬ (o.cls = .type "tuple" ∧ ∃ vs n, o.data = .seq vs n)
def NoTups : Led → Prop
  | [] => True
  | p :: r => NoTup p.2 ∧ NoTups r
theorem noTup_cell {o : Obj} {v : Option Value} (h : o.data = .cell v) : NoTup o := fun ⟨_, _, _, e⟩ => by rw [h] at e; cases e
theorem noTup_list {vs : Array Value} {n : Nat} : NoTup (listOf vs n) := fun ⟨e, _⟩ => by
  have h : Value.type "list" = Value.type "tuple" := e
  injection h with h
  exact absurd h (by decide)
theorem tup_loc {p : Addr × Obj} : ∀ {c e : Led}, NoTups c → p.2.cls = .type "tuple" → (∃ vs n, p.2.data = .seq vs n) → p ∈ c ++ e → p ∈ e
  | [], _, _, _, _, h => h
  | _ :: _, _, hn, h1, h2, h => (List.mem_cons.mp h).elim (fun e => by subst e; exact absurd ⟨h1, h2⟩ hn.1) (tup_loc hn.2 h1 h2)
theorem All2.imp {α : Type} {R S : Value → α → Prop} (k : ∀ v d, R v d → S v d) : ∀ {vs : List Value} {ds : List α}, All2 R vs ds → All2 S vs ds
  | [], [], _ => trivial
  | _ :: _, _ :: _, h => ⟨k _ _ h.1, All2.imp k h.2⟩
  | [], _ :: _, h => (show False from h).elim
  | _ :: _, [], h => (show False from h).elim
theorem ss_loc {c e : Led} {ys : List Value} {ds : List (Str × Str)} (hc : NoTups c) (h : All2 (IsSS (c ++ e)) ys ds) : All2 (IsSS e) ys ds :=
  All2.imp (fun _ _ ⟨T, t1, t2, e1, e2⟩ => ⟨T, t1, t2, e1, tup_loc hc rfl ⟨_, _, rfl⟩ e2⟩) h
/-- the kept places -/
def keptN (bs : List Bool) : List Nat := (List.range 16).filter fun j => bs.getD j false
theorem keptN_lt {bs : List Bool} : ∀ j ∈ keptN bs, j < 16 := fun _ h => List.mem_range.mp (List.mem_filter.mp h).1
theorem keptN_len (bs : List Bool) : (keptN bs).length ≤ 16 := by
  have := List.length_filter_le (fun j => bs.getD j false) (List.range 16)
  simpa [keptN] using this
theorem ent_kept (bs : List Bool) (l : List Nat) : (l.map (entF bs)).filterMap id = (l.filter fun j => bs.getD j false).map fun (j : Nat) => (nameT j, (j : Int)) := by
  induction l with
  | nil => rfl
  | cons a l ih =>
    rw [List.map_cons]
    cases e : bs.getD a false with
    | true =>
      have e1 : entF bs a = some (nameT a, (a : Int)) := by unfold entF; rw [e]; exact if_pos rfl
      rw [e1, List.filterMap_cons_some (by rfl), ih, List.filter_cons_of_pos (p := fun j => bs.getD j false) e]; rfl
    | false =>
      have e1 : entF bs a = none := by unfold entF; rw [e]; exact if_neg Bool.false_ne_true
      rw [e1, List.filterMap_cons_none (by rfl), ih, List.filter_cons_of_neg (p := fun j => bs.getD j false) (by rw [e]; exact Bool.false_ne_true)]
def PaintR (led : Led) (v : Value) (j : Nat) : Prop := IsPaint led v (nameT j, paintC j)
theorem paint_kept {bs : List Bool} {led : Led} {ys : List Value} (h : All2 (IsPaint led) ys (((entL bs).filterMap id).map paintF)) : All2 (PaintR led) ys (keptN bs) := by
  unfold entL at h
  rw [ent_kept, List.map_map] at h
  exact All2.map (R := IsPaint led) (f := fun j : Nat => (nameT j, paintC j)) h
theorem paint_loc {c e' e : Led} {ys : List Value} {ds : List Nat} (hc : NoTups c) (h : All2 (PaintR (e' ++ (c ++ e))) ys ds) : All2 (PaintR (e' ++ e)) ys ds :=
  All2.imp (fun _ _ ⟨T, t, U, ta, tb, tc, e1, e2, e3⟩ => ⟨T, t, U, ta, tb, tc, e1, 
    (List.mem_append.mp e2).elim (fun h => List.mem_append_left _ h) (fun h => List.mem_append_right _ (tup_loc hc rfl ⟨_, _, rfl⟩ h)),
    (List.mem_append.mp e3).elim (fun h => List.mem_append_left _ h) (fun h => List.mem_append_right _ (tup_loc hc rfl ⟨_, _, rfl⟩ h))⟩) h
theorem paint_tail {c e : Led} {ys : List Value} {ds : List Nat} (h : All2 (PaintR e) ys ds) : All2 (PaintR (c ++ e)) ys ds :=
  All2.imp (fun v j h => IsPaint.mono (fun _ h => List.mem_append_right c h) v _ h) h
end Mine
namespace Mine
theorem led_pick {h₀ h : Heap} {L : Addr} {x0 x1 x2 x3 x4 x5 x6 x7 x8 : Addr × Obj} {e0 e : Led} (N : News h₀ L h (x0 :: x1 :: x2 :: x3 :: x4 :: x5 :: x6 :: x7 :: x8 :: e)) (hsub : ∀ p ∈ e0, p ∈ e) : News h₀ L h (x1 :: x3 :: x5 :: x6 :: e0) :=
  led_drop N fun p hp => by
    simp only [List.mem_cons] at hp ⊢
    rcases hp with h | h | h | h | h
    · simp [h]
    · simp [h]
    · simp [h]
    · simp [h]
    · simp [hsub p h]
theorem after_paints {h₀ h : Heap} {L : Addr} {x0 x1 x3 x5 x6 x7 x8 : Addr × Obj} {e0 ext c4 : Led} {ys : List Value} {bs : List Bool} (N : News h₀ L h (x0 :: (ext ++ (x1 :: x3 :: x5 :: x6 :: e0))))
   (l1 : ∀ q ∈ x0 :: ext, ∀ p ∈ x1 :: x3 :: x5 :: x6 :: e0, p.1 < q.1) (hc : NoTups [x1, x3, x5, x6]) (hpp : All2 (IsPaint (ext ++ (x1 :: x3 :: x5 :: x6 :: e0))) ys (((entL bs).filterMap id).map paintF)) (hc4 : [x5, x6, x7, x8] = c4) (ho : ∀ p ∈ e0, AllLt p.1 c4) :
   ∃ e1, News h₀ L h (x0 :: x3 :: x5 :: x6 :: e1) ∧ (∀ p ∈ e1, AllLt p.1 [x5, x6]) ∧ All2 (PaintR e1) ys (keptN bs) ∧ (x3.1 < x0.1 ∧ x5.1 < x0.1 ∧ x6.1 < x0.1) := by
  refine ⟨ext ++ e0, led_drop N fun p hp => ?_, fun p hp => ?_, paint_loc (c := [x1, x3, x5, x6]) hc (paint_kept hpp), l1 _ (.head _) _ (.tail _ (.head _)), l1 _ (.head _) _ (.tail _ (.tail _ (.head _))), l1 _ (.head _) _ (.tail _ (.tail _ (.tail _ (.head _))))⟩
  · simp only [List.mem_cons, List.mem_append] at hp ⊢
    rcases hp with h | h | h | h | h | h <;> simp [h]
  · rcases List.mem_append.mp hp with h | h
    · exact ⟨l1 _ (.tail _ h) _ (.tail _ (.tail _ (.head _))), l1 _ (.tail _ h) _ (.tail _ (.tail _ (.tail _ (.head _)))), trivial⟩
    · have := ho p h
      rw [← hc4] at this
      exact ⟨this.1, this.2.1, trivial⟩
end Mine
namespace Mine
def colF (j : Nat) : UInt64 × UInt64 × UInt64 := hlsF (paintC j).1 (paintC j).2.1 (paintC j).2.2
/-- the sixteen paints, and what rgb_to_hls makes of them -/
def paintT (j : Nat) : UInt64 × UInt64 × UInt64 := [(4607182418800017408, 0, 0), (4607182418800017408, 4604930618986332160, 0), (4602678819172646912, 4607182418800017408, 0), (0, 4607182418800017408, 4598175219545276416), (0, 4607182418800017408, 4607182418800017408), (0, 4598175219545276416, 4607182418800017408), (4602678819172646912, 0, 4607182418800017408), (4607182418800017408, 0, 4604930618986332160), (4602678819172646912, 0, 0), (4602678819172646912, 4600427019358961664, 0), (4598175219545276416, 4602678819172646912, 0), (0, 4602678819172646912, 4593671619917905920), (0, 4602678819172646912, 4602678819172646912), (0, 4593671619917905920, 4602678819172646912), (4598175219545276416, 0, 4602678819172646912), (4602678819172646912, 0, 4600427019358961664)].getD j (0, 0, 0)
def colT (j : Nat) : UInt64 × UInt64 × UInt64 := [(0, 4602678819172646912, 4607182418800017408), (4593671619917905920, 4602678819172646912, 4607182418800017408), (4598175219545276416, 4602678819172646912, 4607182418800017408), (4600427019358961664, 4602678819172646912, 4607182418800017408), (4602678819172646912, 4602678819172646912, 4607182418800017408), (4603804719079489536, 4602678819172646912, 4607182418800017408), (4604930618986332160, 4602678819172646912, 4607182418800017408), (4606056518893174784, 4602678819172646912, 4607182418800017408), (0, 4598175219545276416, 4607182418800017408), (4593671619917905920, 4598175219545276416, 4607182418800017408), (4598175219545276416, 4598175219545276416, 4607182418800017408), (4600427019358961664, 4598175219545276416, 4607182418800017408), (4602678819172646912, 4598175219545276416, 4607182418800017408), (4603804719079489536, 4598175219545276416, 4607182418800017408), (4604930618986332160, 4598175219545276416, 4607182418800017408), (4606056518893174784, 4598175219545276416, 4607182418800017408)].getD j (0, 0, 0)
theorem paint_tab : ∀ j < 16, paintC (j : Nat) = paintT j := by decide +kernel
theorem hls_tab : ∀ j < 16, hlsOk (paintT j).1 (paintT j).2.1 (paintT j).2.2 = true := by decide +kernel
theorem col_tabT : ∀ j < 16, hlsF (paintT j).1 (paintT j).2.1 (paintT j).2.2 = colT j := by decide +kernel
theorem col_tab (j : Nat) (h : j < 16) : colF j = colT j := by
  unfold colF
  rw [paint_tab j h]
  exact col_tabT j h
theorem hls_ok (j : Nat) (h : j < 16) : hlsOk (paintC (j : Nat)).1 (paintC (j : Nat)).2.1 (paintC (j : Nat)).2.2 = true := by
  rw [paint_tab j h]
  exact hls_tab j h
def ColR (led : Led) (v : Value) (j : Nat) : Prop := ∃ T a b c ta tb tc, v = .ref T ∧ (T, ({ cls := .type "tuple", data := .seq #[.float a ta, .float b tb, .float c tc] } : Obj)) ∈ led ∧ (a, b, c) = colF j
theorem ColR.mono {l l' : Led} (k : ∀ p ∈ l, p ∈ l') : ∀ v d, ColR l v d → ColR l' v d := fun _ _ ⟨T, a, b, c, x, y, z, e, h1, h2⟩ => ⟨T, a, b, c, x, y, z, e, k _ h1, h2⟩
theorem col_snoc {ys : List Value} {e : Led} {X : Addr} {a b c : UInt64} {ta tb tc : Tok} {ks : List Nat} {i j : Nat} (hj : ks[i]? = some j) (h : (a, b, c) = colF j) (hy : All2 (ColR e) ys (ks.take i)) :
    All2 (ColR ((X, tupO #[.float a ta, .float b tb, .float c tc]) :: e)) (ys ++ [.ref X]) (ks.take (i + 1)) := by
  rw [take_snoc hj]
  exact All2.snoc ⟨X, a, b, c, ta, tb, tc, rfl, .head _, h⟩ (All2.mono (ColR.mono fun _ h => .tail _ h) hy)
def eight : UInt64 := 4620693217682128896
theorem hue_nanT : ∀ j < 16, Float64.isNaN (Float64.mul (Float64.ofInt 8) (colT j).1) = false := by decide +kernel
theorem hue_nan (j : Nat) (h : j < 16) : Float64.isNaN (Float64.mul (Float64.ofInt 8) (colF j).1) = false := by rw [col_tab j h]; exact hue_nanT j h
theorem hue_inf2T : ∀ j < 16, Float64.isInf (Float64.mul (Float64.ofInt 8) (colT j).1) = false := by decide +kernel
theorem hue_inf2 (j : Nat) (h : j < 16) : Float64.isInf (Float64.mul (Float64.ofInt 8) (colF j).1) = false := by rw [col_tab j h]; exact hue_inf2T j h
theorem lig_nanT : ∀ j < 16, Float64.isNaN (Float64.mul (Float64.ofInt 4) (colT j).2.1) = false := by decide +kernel
theorem lig_nan (j : Nat) (h : j < 16) : Float64.isNaN (Float64.mul (Float64.ofInt 4) (colF j).2.1) = false := by rw [col_tab j h]; exact lig_nanT j h
theorem lig_inf2T : ∀ j < 16, Float64.isInf (Float64.mul (Float64.ofInt 4) (colT j).2.1) = false := by decide +kernel
theorem lig_inf2 (j : Nat) (h : j < 16) : Float64.isInf (Float64.mul (Float64.ofInt 4) (colF j).2.1) = false := by rw [col_tab j h]; exact lig_inf2T j h
theorem hue_isT : ∀ j < 16, Flt.toInt Float64.truncOf (Float64.mul (Float64.ofInt 8) (colT j).1) = ((j % 8 : Nat) : Int) := by decide +kernel
theorem hue_is (j : Nat) (h : j < 16) : Flt.toInt Float64.truncOf (Float64.mul (Float64.ofInt 8) (colF j).1) = ((j % 8 : Nat) : Int) := by rw [col_tab j h]; exact hue_isT j h
theorem lig_isT : ∀ j < 16, 2 - Flt.toInt Float64.truncOf (Float64.mul (Float64.ofInt 4) (colT j).2.1) = ((j / 8 : Nat) : Int) := by decide +kernel
theorem lig_is (j : Nat) (h : j < 16) : 2 - Flt.toInt Float64.truncOf (Float64.mul (Float64.ofInt 4) (colF j).2.1) = ((j / 8 : Nat) : Int) := by rw [col_tab j h]; exact lig_isT j h
def abF (j : Nat) : Int × Int := (((j % 8 : Nat) : Int), ((j / 8 : Nat) : Int))
theorem ints_put {α : Type} {ks : List α} {f : α → Int} {i : Nat} {j : α} {us : List Value} {n : Int} {t : Tok} (hj : ks[i]? = some j) (e : n = f j) (h : IntsAre us ((ks.take i).map f)) : IntsAre (us ++ [.int n t]) ((ks.take (i + 1)).map f) := by
  subst e; exact ints_snoc hj h t
theorem led_pick4 {h₀ h : Heap} {L : Addr} {x0 x1 x2 x3 x4 x5 x6 : Addr × Obj} {e : Led} (N : News h₀ L h (x0 :: x1 :: x2 :: x3 :: x4 :: x5 :: x6 :: e)) : News h₀ L h (x1 :: x4 :: x5 :: x6 :: e) :=
  led_drop N fun p hp => by
    simp only [List.mem_cons] at hp ⊢
    rcases hp with h | h | h | h | h <;> simp [h]
def abS (j : Nat) : Int := (abF j).1 + 8 * (abF j).2
theorem abS_is (j : Nat) : abS j = Int.ofNat j := by
  show ((j % 8 : Nat) : Int) + 8 * ((j / 8 : Nat) : Int) = (j : Int)
  omega
theorem abS_all (bs : List Bool) : (keptN bs).map abS = keptI bs 16 := List.map_congr_left fun j _ => abS_is j
theorem lt3 {X a b c d : Nat} {r : Prop} (h : a < X ∧ b < X ∧ c < X ∧ d < X ∧ r) : b < X ∧ c < X ∧ d < X ∧ r := h.2
theorem ii_snoc {ys : List Value} {e : Led} {X : Addr} {a b : Int} {ta tb : Tok} {ks : List Nat} {i j : Nat} (hj : ks[i]? = some j) (h1 : a = ((j % 8 : Nat) : Int)) (h2 : b = ((j / 8 : Nat) : Int)) (hy : All2 (IsII e) ys ((ks.take i).map abF)) :
    All2 (IsII ((X, ({ cls := .type "tuple", data := .seq #[.int a ta, .int b tb] } : Obj)) :: e)) (ys ++ [.ref X]) ((ks.take (i + 1)).map abF) := by
  rw [take_snoc hj, map_snoc]

  subst h1; subst h2
  exact All2.snoc ⟨X, ta, tb, rfl, .head _⟩ (All2.mono (IsII.mono fun _ h => .tail _ h) hy)
end Mine
namespace Mine
section
variable {prog : Program} {w : World} {A : Around} {E : Value → Shared → Prop} {s : Shared} {h₀ : Heap} {L : Addr} {m : Str → Option Value} {env : Env}
/-- three names at once -/
theorem tri_assign {a b c : Str} {pa pb pc tp : Pos} {kk : Nat} {T : Addr} {x y z : Value} {m : Str → Option Value} {Q : Unit → Shared → Prop} (hh : A.handled = none) (ht : IsTup s.heap T #[x, y, z])
    (ha : env.kindOf a = some .local) (hb : env.kindOf b = some .local) (hc : env.kindOf c = some .local) (hp : (env.scope.kind == .class || (env.scope.kind == .module && env.locals != env.globals)) = false) (hn : s.heap.Ns env.locals m)
    (h : ∀ (h' : Heap) (tk : Nat), h'.Ns env.locals (fun v => if v = c then some z else if v = b then some y else if v = a then some x else m v) → (∀ d o, d ≠ env.locals → s.heap.get? d = some o → h'.get? d = some o) → Q () { s with heap := h', toks := tk }) :
    wpAny (model prog w) A (assign (.Tuple [.Name a pa, .Name b pb, .Name c pc] kk tp) env (.ref T)) Q E s := by
  refine assign_Tuple_tuple hh ht rfl rfl fun g1 e1 => ?_
  have up : ∀ d o, s.heap.get? d = some o → g1.get? d = some o := fun d o e => e1 d o (Nat.ne_of_lt (Heap.lt_size e)) e
  have n1 : g1.Ns env.locals m := hn.at' fun o e => up _ o e
  refine assignInOrder_cons (wpAny_assign_Name (wpAny_storeName_local ha n1 (fun g2 n2 s2 => ?_) hp))
  refine assignInOrder_cons (wpAny_assign_Name (wpAny_storeName_local hb n2 (fun g3 n3 s3 => ?_) hp))
  refine assignInOrder_cons (wpAny_assign_Name (wpAny_storeName_local hc n3 (fun g4 n4 s4 => ?_) hp))
  exact assignInOrder_nil (h g4 _ n4 fun d o hd e => s4.extBut d o hd (s3.extBut d o hd (s2.extBut d o hd (up d o e))))
/-- one turn of a comprehension over triples -/
def Turn3 (prog : Program) (w : World) (A : Around) (h₀ : Heap) (L : Addr) (m : Str → Option Value) (env : Env) (elt : PySem.Expr) (a b c : Str) (scope : Scope) (cl : List (Str × Addr)) (s : Shared) (its : Array Value) (J : Nat → List Value → Led → Prop) : Prop :=
  ∀ i ys nw, i < its.size → J i ys nw → ∀ v, its[i]? = some v → ∃ (T : Addr) (x y z : Value), v = .ref T ∧ (T, tupO #[x, y, z]) ∈ nw ∧
    ∀ I oI C oC D m₂ h tk (E' : Value → Shared → Prop), LCg.NsObj oC m₂ → m₂ a = some x → m₂ b = some y → m₂ c = some z → Fr h₀ L h m → News h₀ L h ((I, oI) :: (C, oC) :: (D, LCg.lst ys) :: nw) → LCg.Off3 I C D nw → ((@Ne Nat I C) ∧ (@Ne Nat I D) ∧ (@Ne Nat C D)) →
      wpAny (model prog w) A (eval elt (compEnvC scope cl C env)) (LCg.CompEnd h₀ L m { s with heap := h, toks := tk } I oI C oC D (LCg.lst ys) (fun _ => True) (fun u nw' => J (i + 1) (ys ++ [u]) nw')) E' { s with heap := h, toks := tk }
theorem tri_loop {elt iter : PySem.Expr} {a b c : Str} {pa pb pc tp : Pos} {kk : Nat} {scope : Scope} {cl : List (Str × Addr)} {pos : Pos} {I C D ax : Addr} {its : Array Value} {k : Nat} {J : Nat → List Value → Led → Prop} {nw : Led} {mC : Str → Option Value} {R : Result → Shared → Prop}
    (hh : A.handled = none) (hsz : its.size ≤ sizeLine) (hkind : scope.kind = .function) (ha : scope.names.lookup a = some .local) (hb : scope.names.lookup b = some .local) (hc : scope.names.lookup c = some .local) (hab : a ≠ b) (hac : a ≠ c) (hbc : b ≠ c)
    (hIL : L ≠ I) (hCL : C ≠ L) (hDL : D ≠ L) (hI₀ : h₀.get? I = none) (hC₀ : h₀.get? C = none) (hD₀ : h₀.get? D = none) (hIC : I ≠ C) (hID : I ≠ D) (hCD : C ≠ D) (hmem : ∀ i ys n, J i ys n → (ax, listOf its k) ∈ n)
    (turn : Turn3 prog w A h₀ L m env elt a b c scope cl s its J)
    (fin : ∀ h tk m' ys n, J its.size ys n → Fr h₀ L h m → News h₀ L h ((D, LCg.lst ys) :: n) → (∀ p ∈ n, p.1 ≠ I ∧ p.1 ≠ C ∧ p.1 ≠ D) → h.Ns C m' → R (.ok .next) { s with heap := h, toks := tk })
    (hit : s.heap.IsListIter I ax 0) (F : Fr h₀ L s.heap m) (hn : s.heap.Ns C mC) (N : News h₀ L s.heap ((D, LCg.lst []) :: nw)) (off : ∀ p ∈ nw, p.1 ≠ I ∧ p.1 ≠ C ∧ p.1 ≠ D) (hJ : J 0 [] nw) :
    codeAny (model prog w) A (.compLoop (.ListComp elt [⟨.Tuple [.Name a pa, .Name b pb, .Name c pc] kk tp, iter, [], 0⟩] scope pos) 0 (.ref I) (.ref D) (compEnvC scope cl C env)) R s := by
  refine kcp_loop (fun t s' => ∃ h' tk i ys m' n, s' = { s with heap := h', toks := tk } ∧ i ≤ its.size ∧ t = its.size + 1 - i ∧ ys.length = i ∧ h'.IsListIter I ax i ∧ Fr h₀ L h' m ∧ h'.Ns C m' ∧ News h₀ L h' ((D, LCg.lst ys) :: n) ∧ (∀ p ∈ n, p.1 ≠ I ∧ p.1 ≠ C ∧ p.1 ≠ D) ∧ J i ys n)
    ?_ (its.size + 1) ⟨s.heap, s.toks, 0, [], mC, nw, rfl, Nat.zero_le _, rfl, rfl, hit, F, hn, N, off, hJ⟩
  rintro t _ ⟨h1, tk, i, ys, m1, n, rfl, hi, rfl, hlen, it1, F1, n1, N1, off1, hJ1⟩
  have hlist : h1.IsList ax its := ⟨_, (N1 _ (.tail _ (hmem _ _ _ hJ1))).1, rfl, _, rfl⟩
  by_cases hlt : i < its.size
  · refine wpAny_pyNext_list_item it1 hlist (x := its[i]) (by simp [hlt]) fun h2 it2 s2 => ?_
    obtain ⟨T, x, y, z, hv, hT, step⟩ := turn i ys n hlt hJ1 its[i] (by simp [hlt])
    have k2 : ∀ d o, d ∉ [I] → h1.get? d = some o → h2.get? d = some o := fun d o hd e => s2.extBut d o (by simpa using hd) e
    have N2 := LCg.news_but N1 k2 (fun p hp => (List.mem_cons.mp hp).elim (fun e => by rw [e]; exact Ne.symm hID) fun hp => (off1 p hp).1)
    have F2 := LCg.fr_but F1 k2 hIL hI₀
    have n2 : h2.Ns C m1 := n1.at' fun o e => k2 C o (by simpa using Ne.symm hIC) e
    rw [hv]
    refine wpAny_letOwnedTupleGo_listiter it2 ?_
    refine tri_assign (env := compEnvC scope cl C env) hh ⟨_, (N2 _ (.tail _ hT)).1, rfl, _, rfl⟩ (lookup_relabel_local ha) (lookup_relabel_local hb) (lookup_relabel_local hc) (by simp [compEnvC, relabel, hkind]) n2 fun h3 tk3 n3 e3 => ?_
    have k3 : ∀ d o, d ∉ [C] → h2.get? d = some o → h3.get? d = some o := fun d o hd e => e3 d o (show d ≠ C by simpa using hd) e
    have F3 := LCg.fr_but F2 k3 (Ne.symm hCL) hC₀
    have N3 := LCg.news_but N2 k3 (fun p hp => (List.mem_cons.mp hp).elim (fun e => by rw [e]; exact Ne.symm hCD) fun hp => (off1 p hp).2.1)
    have it3 : h3.IsListIter I ax (i + 1) := it2.at fun o e => k3 I o (by simpa using hIC) e
    obtain ⟨oI, eI, rI⟩ := it3
    obtain ⟨oC, eC, rC⟩ := LCg.ns_obj n3
    have N3' : News h₀ L h3 ((I, oI) :: (C, oC) :: (D, LCg.lst ys) :: n) := fun p hp => by
      rcases List.mem_cons.mp hp with rfl | hp
      · exact ⟨eI, Ne.symm hIL, hI₀⟩
      · rcases List.mem_cons.mp hp with rfl | hp
        · exact ⟨eC, hCL, hC₀⟩
        · exact N3 p hp
    refine wpAny_mono (step I oI C oC D _ h3 _ _ rC (by simp [hab, hac]) (by simp [hbc]) (by simp) F3 N3' (LCg.Off3.of off1) ⟨hIC, hID, hCD⟩) (fun u s4 h4 => ?_) fun _ _ e => e
    obtain ⟨h4, tk4, n4, rfl, F4, N4, off4, _, hJ4⟩ := h4
    refine append_at (N4 _ (.tail _ (.tail _ (.head _)))).1 (hsz := by rw [List.size_toArray, hlen]; exact Nat.le_trans hi hsz) fun h5 s5 e5 => ?_
    have off5 := LCg.Off3.mem off4
    refine ⟨its.size + 1 - (i + 1), by omega, h5, tk4, i + 1, ys ++ [u], _, n4, rfl, hlt, rfl, by rw [List.length_append, hlen]; rfl, ?_, F4.change s5 hDL hD₀, (rC.ns (N4 _ (.tail _ (.head _))).1).sameBut s5 hCD, fun p hp => ?_, off5, hJ4⟩
    · exact ⟨oI, s5.extBut _ _ hID (N4 _ (.head _)).1, rI⟩
    · rcases List.mem_cons.mp hp with rfl | hp
      · exact ⟨e5.trans (congrArg some (LCg.lst_snoc ys u)), hDL, hD₀⟩
      · exact ⟨s5.extBut _ _ (off5 p hp).2.2 (N4 p (.tail _ (.tail _ (.tail _ hp)))).1, (N4 p (.tail _ (.tail _ (.tail _ hp)))).2⟩
  · obtain rfl : i = its.size := Nat.le_antisymm hi (Nat.not_lt.mp hlt)
    refine wpAny_pyNext_list_end hh it1 hlist (by simp) fun h2 e2 => ?_
    have k2 : ∀ d o, d ∉ [I] → h1.get? d = some o → h2.get? d = some o := fun d o hd e => e2 d o (by simpa using hd) e
    exact fin h2 _ m1 ys n hJ1 (LCg.fr_but F1 k2 hIL hI₀) (LCg.news_but N1 k2 (fun p hp => (List.mem_cons.mp hp).elim (fun e => by rw [e]; exact Ne.symm hID) fun hp => (off1 p hp).1)) off1 (n1.at' fun o e => k2 C o (by simpa using Ne.symm hIC) e)
/-- where the triples come from, and what is made of them -/
def Src3 (prog : Program) (w : World) (A : Around) (h₀ : Heap) (L : Addr) (m : Str → Option Value) (env : Env) (elt : PySem.Expr) (a b c : Str) (scope : Scope) (cl : List (Str × Addr)) (Q : Value → Shared → Prop) (xv : Value) (s₁ : Shared) : Prop :=
  ∃ (ax : Addr) (its : Array Value) (k : Nat) (J : Nat → List Value → Led → Prop) (nw : Led), xv = .ref ax ∧ A.handled = none ∧ Fr h₀ L s₁.heap m ∧ News h₀ L s₁.heap nw ∧ its.size ≤ sizeLine ∧ (∀ i ys n, J i ys n → (ax, listOf its k) ∈ n) ∧ J 0 [] nw ∧
    (∀ g, Turn3 prog w A h₀ L m env elt a b c scope cl { s₁ with heap := g } its J) ∧
    (∀ D h tk ys n, J its.size ys n → Fr h₀ L h m → News h₀ L h ((D, LCg.lst ys) :: n) → LCg.Off1 D n → Q (.ref D) { s₁ with heap := h, toks := tk })
theorem tri_comp {elt iter : PySem.Expr} {a b c : Str} {pa pb pc tp : Pos} {kk : Nat} {scope : Scope} {cl : List (Str × Addr)} {pos : Pos} {Q : Value → Shared → Prop} (_F₀ : Fr h₀ L s.heap m)
    (hclos : closureFor scope env = pure cl) (hcell : ∀ y ∈ scope.names, y.2 ≠ .cell) (hkind : scope.kind = .function)
    (hnames : ∀ y ∈ scope.names, y.2 = .local → scope.names.lookup y.1 = some .local) (ha : scope.names.lookup a = some .local) (hb : scope.names.lookup b = some .local) (hc : scope.names.lookup c = some .local) (hab : a ≠ b) (hac : a ≠ c) (hbc : b ≠ c)
    (h : wpAny (model prog w) A (eval iter env) (Src3 prog w A h₀ L m env elt a b c scope cl Q) E s)
    (hs : ∀ x, foldedSetIterable iter env x = pure x := by intro _; rfl) :
    wpAny (model prog w) A (eval (.ListComp elt [⟨.Tuple [.Name a pa, .Name b pb, .Name c pc] kk tp, iter, [], 0⟩] scope pos) env) Q E s := by
  rw [eval_ListComp]
  refine wpAny_comprehension_free (use := none) rfl hs hclos hkind hnames (wpAny_mono h (fun xv s₁ h₁ => ?_) fun _ _ e => e)
  obtain ⟨ax, its, k, J, nw, rfl, hh, F, N, hsz, hmem, hJ, turn, fin⟩ := h₁
  have hlist : s₁.heap.IsList ax its := ⟨_, (N _ (hmem _ _ _ hJ)).1, rfl, _, rfl⟩
  refine wpAny_pyIter_list hlist ?_
  have up : ∀ d o, s₁.heap.get? d = some o → (s₁.heap.push { cls := .type "list_iterator", data := .fields #[.ref ax, .int 0 0] }).get? d = some o := fun d o e => Heap.get?_push_of_some _ e
  have hit : (s₁.heap.push { cls := .type "list_iterator", data := .fields #[.ref ax, .int 0 0] }).IsListIter s₁.heap.objs.size ax 0 := ⟨_, Heap.get?_push_size _ rfl, rfl, rfl⟩
  have hz : (s₁.heap.push { cls := .type "list_iterator", data := .fields #[.ref ax, .int 0 0] }).objs.size = s₁.heap.objs.size + 1 := Heap.size_push ..
  have F1 := F.keeps up
  have N1 := N.grown up
  have hIL : L ≠ s₁.heap.objs.size := Nat.ne_of_lt F.ns.lt
  have hnone : ∀ d, s₁.heap.objs.size ≤ d → h₀.get? d = none := fun d hd => by
    cases e : h₀.get? d with
    | none => rfl
    | some o => exact absurd (Heap.lt_size (F.keep d o e)) (Nat.not_lt.mpr hd)
  have hLt : L < s₁.heap.objs.size := F.ns.lt
  have hIn : ∀ p ∈ nw, p.1 < s₁.heap.objs.size := fun p hp => Heap.lt_size (N p hp).1
  generalize s₁.heap.push { cls := .type "list_iterator", data := .fields #[.ref ax, .int 0 0] } = g1 at hit hz F1 N1 up ⊢
  generalize s₁.heap.objs.size = I at hit hz hIL hnone hIn hLt ⊢
  refine wpAny_newObj_type (wpAny_newFunctionEnv hcell (by intro y hy; simp at hy) (fun g3 ns3 sb3 => ?_) hkind)
  dsimp only at ns3 sb3 ⊢
  generalize hg2 : g1.push { cls := .type "list", dict := none, data := .seq ([] : List Value).toArray } = g2 at ns3 sb3 ⊢
  have hz2 : g2.objs.size = g1.objs.size + 1 := by rw [← hg2, Heap.size_push]
  have h12 : g1.objs.size < g2.objs.size := by rw [hz2]; exact Nat.lt_succ_self _
  have hIlt : I < g1.objs.size := by rw [hz]; exact Nat.lt_succ_self _
  have hI2 : I < g2.objs.size := Nat.lt_trans hIlt h12
  have hL1 : L < g1.objs.size := Nat.lt_trans hLt hIlt
  have hL2 : L < g2.objs.size := Nat.lt_trans hL1 h12
  have e2 : g2.get? g1.objs.size = some (LCg.lst []) := by rw [← hg2]; exact Heap.get?_push_size _ rfl
  have up2 : ∀ d o, g1.get? d = some o → g3.get? d = some o := fun d o e => sb3.extBut d o (Nat.ne_of_lt (Nat.lt_trans (Heap.lt_size e) h12)) (Heap.get?_push_of_some _ (by rw [← hg2]; exact Heap.get?_push_of_some _ e))
  have e3 : g3.get? g1.objs.size = some (LCg.lst []) := sb3.extBut _ _ (Nat.ne_of_lt h12) (Heap.get?_push_of_some _ e2)
  have hit3 : g3.IsListIter I ax 0 := hit.at fun o e => up2 _ o e
  have F3 := F1.keeps up2
  have N3 := N1.grown up2
  have hnw : ∀ p ∈ nw, p.1 ≠ I ∧ p.1 ≠ g2.objs.size ∧ p.1 ≠ g1.objs.size := fun p hp => by
    have := hIn p hp
    exact ⟨Nat.ne_of_lt this, Nat.ne_of_lt (Nat.lt_trans this hI2), Nat.ne_of_lt (Nat.lt_trans this hIlt)⟩
  have N4 : News h₀ L g3 ((g1.objs.size, LCg.lst []) :: nw) := fun p hp => by
    rcases List.mem_cons.mp hp with rfl | hp
    · exact ⟨e3, Ne.symm (Nat.ne_of_lt hL1), hnone _ (Nat.le_of_lt hIlt)⟩
    · exact N3 p hp
  refine codeAny_compStart_list ?l (wpAny_pyIter_listiter hit3 ?l)
  case l =>
    refine tri_loop hh hsz hkind ha hb hc hab hac hbc hIL (Nat.ne_of_gt hL2) (Nat.ne_of_gt hL1) (hnone _ (Nat.le_refl _)) (hnone _ (Nat.le_of_lt hI2)) (hnone _ (Nat.le_of_lt hIlt)) (Nat.ne_of_lt hI2) (Nat.ne_of_lt hIlt) (Nat.ne_of_gt h12) hmem (turn g3) (fun h tk m' ys n hJ F N off hn => ?_) hit3 F3 ns3 N4 hnw hJ
    refine ⟨m', hn, fun h'' hs'' => fin _ h'' tk ys n hJ (F.change hs'' (Nat.ne_of_gt hL2) (hnone _ (Nat.le_of_lt hI2))) (fun p hp => ?_) (off1_of fun p hp => (off p hp).2.2)⟩
    refine ⟨hs''.extBut _ _ ?_ (N p hp).1, (N p hp).2⟩
    rcases List.mem_cons.mp hp with rfl | hp
    · exact Nat.ne_of_lt h12
    · exact (off p hp).2.1
end
end Mine
namespace Mine
theorem two_turn1 (elt ta i1 tb i2 : PySem.Expr) (scope : Scope) (pos : Pos) (it acc : Value) (env : Env) :
    compTurn (.ListComp elt [⟨ta, i1, [], 0⟩, ⟨tb, i2, [], 0⟩] scope pos) 1 it acc env = (standAt i2.pos >>= fun _ => pyNext it >>= fun r => match r with
      | none => pure (.done .next)
      | some v => letOwnedTupleGo tb it v >>= fun _ => assign tb env v >>= fun _ =>
        (eval elt env >>= fun x => call (.builtin "list.append") [acc, x] >>= fun _ => pure ()) >>= fun _ =>
          again (.compLoop (.ListComp elt [⟨ta, i1, [], 0⟩, ⟨tb, i2, [], 0⟩] scope pos) 1 it acc env)) := by rfl
theorem two_turn0 (elt ta i1 tb i2 : PySem.Expr) (scope : Scope) (pos : Pos) (it acc : Value) (env : Env) :
    compTurn (.ListComp elt [⟨ta, i1, [], 0⟩, ⟨tb, i2, [], 0⟩] scope pos) 0 it acc env = (standAt i1.pos >>= fun _ => pyNext it >>= fun r => match r with
      | none => pure (.done .next)
      | some v => letOwnedTupleGo ta it v >>= fun _ => assign ta env v >>= fun _ =>
        eval i2 env >>= fun x => standAt i2.pos >>= fun _ => foldedSetIterable i2 env x >>= fun x => holding [x] (pyIter x) >>= fun it2 =>
          runOwn (.compStart (.ListComp elt [⟨ta, i1, [], 0⟩, ⟨tb, i2, [], 0⟩] scope pos) 1 it2 acc env) env >>= fun _ =>
          again (.compLoop (.ListComp elt [⟨ta, i1, [], 0⟩, ⟨tb, i2, [], 0⟩] scope pos) 0 it acc env)) := by rfl
section
variable {prog : Program} {w : World} {A : Around} {E : Value → Shared → Prop} {R : Result → Shared → Prop} {s : Shared} {h₀ : Heap} {L : Addr} {m : Str → Option Value} {env : Env}
/-- the inner clause begins -/
theorem two_start {elt ta i1 tb i2 : PySem.Expr} {scope : Scope} {pos : Pos} {it acc : Value}
    (h0 : codeAny (model prog w) A (.compLoop (.ListComp elt [⟨ta, i1, [], 0⟩, ⟨tb, i2, [], 0⟩] scope pos) 1 it acc env) R s)
    (h : wpAny (model prog w) A (pyIter it) (fun it' s' => codeAny (model prog w) A (.compLoop (.ListComp elt [⟨ta, i1, [], 0⟩, ⟨tb, i2, [], 0⟩] scope pos) 1 it' acc env) R s')
      (notedBy (model prog w) A env fun x s' => R (.error x) s') s) :
    codeAny (model prog w) A (.compStart (.ListComp elt [⟨ta, i1, [], 0⟩, ⟨tb, i2, [], 0⟩] scope pos) 1 it acc env) R s := by
  refine codeAny_of_tree ?_
  show wpAny _ _ ((compStart (.ListComp elt [⟨ta, i1, [], 0⟩, ⟨tb, i2, [], 0⟩] scope pos) 1 it acc env).onRaise (fun x => do noteFrame x env; standAt theWindowsPlace)) _ _ s
  refine wpAny_notedAt ?_
  unfold compStart
  show wpAny _ _ (ask >>= _) _ _ s
  refine wpAny_bind (wpAny_askSetting (wpAny_ite ?_))
  split
  · exact wpAny_bind (wpAny_pure (wpAny_pure ⟨rfl, h0⟩))
  · refine wpAny_bind (wpAny_rule ?_)
    show wpAny _ _ (standAt i2.pos >>= _) _ _ s
    exact wpAny_bind (wpAny_standAt (wpAny_bind (wpAny_mono h (fun it' s' h' => wpAny_pure ⟨rfl, h'⟩) fun _ _ x => x)))
theorem two_loop1 {elt ta i1 tb i2 : PySem.Expr} {scope : Scope} {pos : Pos} {it acc : Value} (I : Nat → Shared → Prop)
    (turn : ∀ n s, I n s → wpAny (model prog w) A (pyNext it) (fun r s₁ => match r with
      | none => R (.ok .next) s₁
      | some v => wpAny (model prog w) A (assign tb env v) (fun _ s₂ => wpAny (model prog w) A (eval elt env) (fun x s₃ =>
          wpAny (model prog w) A (call (.builtin "list.append") [acc, x]) (fun _ s₄ => ∃ m, m < n ∧ I m s₄) (notedBy (model prog w) A env fun e s' => R (.error e) s') s₃)
          (notedBy (model prog w) A env fun e s' => R (.error e) s') s₂) (notedBy (model prog w) A env fun e s' => R (.error e) s') s₁) (notedBy (model prog w) A env fun e s' => R (.error e) s') s)
    (n : Nat) (h : I n s) (ht : ∀ v, letOwnedTupleGo tb it v = pure ()) :
    codeAny (model prog w) A (.compLoop (.ListComp elt [⟨ta, i1, [], 0⟩, ⟨tb, i2, [], 0⟩] scope pos) 1 it acc env) R s := by
  refine codeAny_loop rfl I (fun n s hI => ?_) n h
  show wpAny _ A ((compTurn (.ListComp elt [⟨ta, i1, [], 0⟩, ⟨tb, i2, [], 0⟩] scope pos) 1 it acc env).onRaise (fun x => do noteFrame x env; theTreesLotGoes x)) _ _ s
  refine wpAny_noted ?_
  rw [two_turn1]
  refine wpAny_bind (wpAny_standAt (wpAny_bind (wpAny_mono (turn n s hI) (fun r s₁ h₁ => ?_) fun _ _ h' => h')))
  cases r with
  | none => exact wpAny_pure h₁
  | some v =>
    refine wpAny_bind (wpAny_of_eq (ht v) ?_)
    exact wpAny_bind (wpAny_mono h₁ (fun _ s₂ h₂ => wpAny_bind (wpAny_bind (wpAny_mono h₂ (fun x s₃ h₃ => wpAny_bind (wpAny_mono h₃
      (fun _ s₄ h₄ => wpAny_pure (wpAny_pure ⟨rfl, h₄⟩)) fun _ _ h' => h')) fun _ _ h' => h'))) fun _ _ h' => h')
theorem two_loop0 {elt ta i1 tb i2 : PySem.Expr} {scope : Scope} {pos : Pos} {it acc : Value} (I : Nat → Shared → Prop)
    (turn : ∀ n s, I n s → wpAny (model prog w) A (pyNext it) (fun r s₁ => match r with
      | none => R (.ok .next) s₁
      | some v => wpAny (model prog w) A (assign ta env v) (fun _ s₂ => wpAny (model prog w) A (eval i2 env) (fun x s₃ =>
          wpAny (model prog w) A (pyIter x) (fun it2 s₄ => codeAny (model prog w) A (.compStart (.ListComp elt [⟨ta, i1, [], 0⟩, ⟨tb, i2, [], 0⟩] scope pos) 1 it2 acc env)
            (fun r s₅ => match r with | .ok _ => ∃ m, m < n ∧ I m s₅ | .error e => cameBackBy (model prog w) A env (notedBy (model prog w) A env fun e s' => R (.error e) s') e s₅) s₄) (notedBy (model prog w) A env fun e s' => R (.error e) s') s₃)
          (notedBy (model prog w) A env fun e s' => R (.error e) s') s₂) (notedBy (model prog w) A env fun e s' => R (.error e) s') s₁) (notedBy (model prog w) A env fun e s' => R (.error e) s') s)
    (n : Nat) (h : I n s) (ht : ∀ v, letOwnedTupleGo ta it v = pure ()) (hs : ∀ x, foldedSetIterable i2 env x = pure x) :
    codeAny (model prog w) A (.compLoop (.ListComp elt [⟨ta, i1, [], 0⟩, ⟨tb, i2, [], 0⟩] scope pos) 0 it acc env) R s := by
  refine codeAny_loop rfl I (fun n s hI => ?_) n h
  show wpAny _ A ((compTurn (.ListComp elt [⟨ta, i1, [], 0⟩, ⟨tb, i2, [], 0⟩] scope pos) 0 it acc env).onRaise (fun x => do noteFrame x env; theTreesLotGoes x)) _ _ s
  refine wpAny_noted ?_
  rw [two_turn0]
  refine wpAny_bind (wpAny_standAt (wpAny_bind (wpAny_mono (turn n s hI) (fun r s₁ h₁ => ?_) fun _ _ h' => h')))
  cases r with
  | none => exact wpAny_pure h₁
  | some v =>
    refine wpAny_bind (wpAny_of_eq (ht v) ?_)
    refine wpAny_bind (wpAny_mono h₁ (fun _ s₂ h₂ => ?_) fun _ _ h' => h')
    refine wpAny_bind (wpAny_mono h₂ (fun x s₃ h₃ => ?_) fun _ _ h' => h')
    refine wpAny_bind (wpAny_standAt (wpAny_bind (wpAny_of_eq (hs x) (wpAny_bind (wpAny_holding (wpAny_mono h₃ (fun it2 s₄ h₄ => ?_) fun _ _ h' => h'))))))
    refine wpAny_bind (wpAny_runOwn (codeAny_mono h₄ fun r s₅ h₅ => ?_))
    cases r with
    | ok f => exact wpAny_pure ⟨rfl, h₅⟩
    | error e => exact h₅
end
end Mine
namespace Mine
section
variable {prog : Program} {w : World} {A : Around} {E : Value → Shared → Prop} {R : Result → Shared → Prop} {s : Shared} {h₀ : Heap} {L : Addr} {m : Str → Option Value} {env : Env}
abbrev e2 (elt i1 i2 : PySem.Expr) (a b : Str) (pa pb : Pos) (scope : Scope) (pos : Pos) : PySem.Expr := .ListComp elt [⟨.Name a pa, i1, [], 0⟩, ⟨.Name b pb, i2, [], 0⟩] scope pos
abbrev rIt (x left : Int) : Obj := { cls := .type "range_iterator", dict := none, data := .fields #[rawInt x, rawInt left, rawInt 1], slots := #[] }
def ElEnd (h₀ : Heap) (L : Addr) (m : Str → Option Value) (s : Shared) (l : Led) (K : Value → Prop) (y : Value) (s' : Shared) : Prop := ∃ h' tk', s' = { s with heap := h', toks := tk' } ∧ Fr h₀ L h' m ∧ News h₀ L h' l ∧ K y
def ItEnd (h₀ : Heap) (L : Addr) (m : Str → Option Value) (s : Shared) (l : Led) (n2 : Nat) (x : Value) (s' : Shared) : Prop := ∃ r u1 u2 u3 h' tk', x = .ref r ∧ s' = { s with heap := h', toks := tk' } ∧ IsRange h' r 0 (n2 : Int) 1 u1 u2 u3 ∧ Fr h₀ L h' m ∧ News h₀ L h' l
/-- one element of a comprehension with two clauses, that makes nothing that stays -/
def El2 (prog : Program) (w : World) (A : Around) (h₀ : Heap) (L : Addr) (m : Str → Option Value) (elt : PySem.Expr) (cenv : Env) (s : Shared) (I2 C D : Addr) (nw : Led) (a b : Str) (va : Value) (n2 : Nat) (K : Nat → List Value → Prop) : Prop :=
  ∀ j ys, j < n2 → K j ys → ∀ oI2 oC m₂ h tk t (E' : Value → Shared → Prop), LCg.NsObj oC m₂ → m₂ a = some va → m₂ b = some (.int (j : Int) t) → Fr h₀ L h m → News h₀ L h ((I2, oI2) :: (C, oC) :: (D, LCg.lst ys) :: nw) →
    wpAny (model prog w) A (eval elt cenv) (ElEnd h₀ L m s ((I2, oI2) :: (C, oC) :: (D, LCg.lst ys) :: nw) (fun y => K (j + 1) (ys ++ [y]))) E' { s with heap := h, toks := tk }
theorem two_inner {elt i1 i2 : PySem.Expr} {a b : Str} {pa pb pos : Pos} {scope : Scope} {cl : List (Str × Addr)} {I2 C D : Addr} {nw : Led} {va : Value} {n2 : Nat} {K : Nat → List Value → Prop} {ys₀ : List Value} {mC : Str → Option Value}
    (hh : A.handled = none) (hkind : scope.kind = .function) (hb : scope.names.lookup b = some .local) (hab : a ≠ b)
    (hIL : L ≠ I2) (hCL : C ≠ L) (hDL : D ≠ L) (hI₀ : h₀.get? I2 = none) (hC₀ : h₀.get? C = none) (hD₀ : h₀.get? D = none) (hIC : I2 ≠ C) (hID : I2 ≠ D) (hCD : C ≠ D) (off : ∀ p ∈ nw, p.1 ≠ I2 ∧ p.1 ≠ C ∧ p.1 ≠ D)
    (hK : ∀ j ys, K j ys → ys.length ≤ sizeLine)
    (turn : El2 prog w A h₀ L m elt (compEnvC scope cl C env) s I2 C D nw a b va n2 K)
    (fin : ∀ h tk m' ys, K n2 ys → Fr h₀ L h m → News h₀ L h ((D, LCg.lst ys) :: nw) → h.Ns C m' → R (.ok .next) { s with heap := h, toks := tk })
    (hit : IsRangeIter s.heap I2 0 n2 1) (F : Fr h₀ L s.heap m) (hn : s.heap.Ns C mC) (hva : mC a = some va) (N : News h₀ L s.heap ((D, LCg.lst ys₀) :: nw)) (hK0 : K 0 ys₀) :
    codeAny (model prog w) A (.compLoop (e2 elt i1 i2 a b pa pb scope pos) 1 (.ref I2) (.ref D) (compEnvC scope cl C env)) R s := by
  have W := LCg.range_walks (prog := prog) (w := w) (I := I2) hh 0 n2
  have offD : ∀ ys, ∀ p ∈ (D, LCg.lst ys) :: nw, p.1 ≠ I2 := fun ys p hp => (List.mem_cons.mp hp).elim (fun e => by rw [e]; exact Ne.symm hID) fun hp => (off p hp).1
  have offC : ∀ ys, ∀ p ∈ (D, LCg.lst ys) :: nw, p.1 ≠ C := fun ys p hp => (List.mem_cons.mp hp).elim (fun e => by rw [e]; exact Ne.symm hCD) fun hp => (off p hp).2.1
  refine two_loop1 (fun t s' => ∃ h' tk j ys m', s' = { s with heap := h', toks := tk } ∧ j ≤ n2 ∧ t = n2 + 1 - j ∧ IsRangeIter h' I2 (0 + (j : Int) * 1) ((n2 : Int) - (j : Int)) 1 ∧ Fr h₀ L h' m ∧ h'.Ns C m' ∧ m' a = some va ∧ News h₀ L h' ((D, LCg.lst ys) :: nw) ∧ K j ys)
    ?_ (n2 + 1) ⟨s.heap, s.toks, 0, ys₀, mC, rfl, Nat.zero_le _, rfl, by simpa using hit, F, hn, hva, N, hK0⟩ (fun _ => rfl)
  rintro t _ ⟨h1, tk, j, ys, m1, rfl, hj, rfl, it1, F1, n1, hv1, N1, K1⟩
  by_cases hlt : j < n2
  · refine W.item j _ _ _ hlt it1 fun v h2 tk2 hv it2 k2 => ?_
    obtain ⟨t2, rfl⟩ := hv
    have N2 := LCg.news_but N1 k2 (offD ys)
    have F2 := LCg.fr_but F1 k2 hIL hI₀
    have n2' : h2.Ns C m1 := n1.at' fun o e => k2 C o (by simpa using Ne.symm hIC) e
    refine wpAny_assign_Name (wpAny_storeName_local (env := compEnvC scope cl C env) (lookup_relabel_local hb) n2' (fun h3 n3 s3 => ?_) (by simp [compEnvC, relabel, hkind]))
    have k3 : ∀ d o, d ∉ [C] → h2.get? d = some o → h3.get? d = some o := fun d o hd e => s3.extBut d o (show d ≠ C by simpa using hd) e
    have F3 := LCg.fr_but F2 k3 (Ne.symm hCL) hC₀
    have N3 := LCg.news_but N2 k3 (offC ys)
    have it3 : IsRangeIter h3 I2 (0 + ((j + 1 : Nat) : Int) * 1) ((n2 : Int) - ((j + 1 : Nat) : Int)) 1 := k3 I2 _ (by simpa using hIC) it2
    obtain ⟨oC, eC, rC⟩ := LCg.ns_obj n3
    have N3' : News h₀ L h3 ((I2, rIt (0 + ((j + 1 : Nat) : Int) * 1) ((n2 : Int) - ((j + 1 : Nat) : Int))) :: (C, oC) :: (D, LCg.lst ys) :: nw) := fun p hp => by
      rcases List.mem_cons.mp hp with rfl | hp
      · exact ⟨it3, Ne.symm hIL, hI₀⟩
      · rcases List.mem_cons.mp hp with rfl | hp
        · exact ⟨eC, hCL, hC₀⟩
        · exact N3 p hp
    refine wpAny_mono (turn j ys hlt K1 _ oC _ h3 _ t2 _ rC (by simp [hab, hv1]) (by simp) F3 N3') (fun y s4 h4 => ?_) fun _ _ e => e
    obtain ⟨h4, tk4, rfl, F4, N4, K4⟩ := h4
    refine append_at (N4 _ (.tail _ (.tail _ (.head _)))).1 (hsz := by rw [List.size_toArray]; exact hK _ _ K1) fun h5 s5 e5 => ?_
    refine ⟨n2 + 1 - (j + 1), by omega, h5, tk4, j + 1, ys ++ [y], _, rfl, hlt, rfl, s5.extBut _ _ hID (N4 _ (.head _)).1, F4.change s5 hDL hD₀, (rC.ns (N4 _ (.tail _ (.head _))).1).sameBut s5 hCD, by simp [hab, hv1], fun p hp => ?_, K4⟩
    rcases List.mem_cons.mp hp with rfl | hp
    · exact ⟨e5.trans (congrArg some (LCg.lst_snoc ys y)), hDL, hD₀⟩
    · exact ⟨s5.extBut _ _ (off p hp).2.2 (N4 p (.tail _ (.tail _ (.tail _ hp)))).1, (N4 p (.tail _ (.tail _ (.tail _ hp)))).2⟩
  · obtain rfl : j = n2 := Nat.le_antisymm hj (Nat.not_lt.mp hlt)
    refine W.done _ _ _ it1 fun h2 tk2 k2 => ?_
    exact fin h2 _ m1 ys K1 (LCg.fr_but F1 k2 hIL hI₀) (LCg.news_but N1 k2 (offD ys)) (n1.at' fun o e => k2 C o (by simpa using Ne.symm hIC) e)
/-- the inner clause's source -/
def It2 (prog : Program) (w : World) (A : Around) (h₀ : Heap) (L : Addr) (m : Str → Option Value) (i2 : PySem.Expr) (cenv : Env) (s : Shared) (I C D : Addr) (nw : Led) (n2 : Nat) : Prop :=
  ∀ ys oI oC m₂ h tk (E' : Value → Shared → Prop), LCg.NsObj oC m₂ → Fr h₀ L h m → News h₀ L h ((I, oI) :: (C, oC) :: (D, LCg.lst ys) :: nw) →
    wpAny (model prog w) A (eval i2 cenv) (ItEnd h₀ L m s ((I, oI) :: (C, oC) :: (D, LCg.lst ys) :: nw) n2) E' { s with heap := h, toks := tk }
theorem two_outer {elt i1 i2 : PySem.Expr} {a b : Str} {pa pb pos : Pos} {scope : Scope} {cl : List (Str × Addr)} {I C D : Addr} {nw : Led} {n1 n2 : Nat} {J : Nat → List Value → Prop} {ys₀ : List Value} {mC : Str → Option Value}
    (hh : A.handled = none) (hkind : scope.kind = .function) (ha : scope.names.lookup a = some .local) (hb : scope.names.lookup b = some .local) (hab : a ≠ b)
    (hIL : L ≠ I) (hCL : C ≠ L) (hDL : D ≠ L) (hI₀ : h₀.get? I = none) (hC₀ : h₀.get? C = none) (hD₀ : h₀.get? D = none) (hIC : I ≠ C) (hID : I ≠ D) (hCD : C ≠ D) (off : ∀ p ∈ nw, p.1 ≠ I ∧ p.1 ≠ C ∧ p.1 ≠ D)
    (hK : ∀ j ys, J j ys → ys.length ≤ sizeLine) (hs : ∀ x, foldedSetIterable i2 (compEnvC scope cl C env) x = pure x)
    (hsm : Builtin.Range.small 0 (n2 : Int) 1 = true) (hrs : Builtin.Range.rangeSize 0 (n2 : Int) 1 = (n2 : Int))
    (iter2 : It2 prog w A h₀ L m i2 (compEnvC scope cl C env) s I C D nw n2)
    (turn : ∀ i, i < n1 → ∀ I2 oI t1, El2 prog w A h₀ L m elt (compEnvC scope cl C env) s I2 C D ((I, oI) :: nw) a b (.int (i : Int) t1) n2 (fun j ys => J (i * n2 + j) ys))
    (fin : ∀ h tk m' ys, J (n1 * n2) ys → Fr h₀ L h m → News h₀ L h ((D, LCg.lst ys) :: nw) → h.Ns C m' → R (.ok .next) { s with heap := h, toks := tk })
    (hit : IsRangeIter s.heap I 0 n1 1) (F : Fr h₀ L s.heap m) (hn : s.heap.Ns C mC) (N : News h₀ L s.heap ((D, LCg.lst ys₀) :: nw)) (hJ0 : J 0 ys₀) :
    codeAny (model prog w) A (.compLoop (e2 elt i1 i2 a b pa pb scope pos) 0 (.ref I) (.ref D) (compEnvC scope cl C env)) R s := by
  have W := LCg.range_walks (prog := prog) (w := w) (I := I) hh 0 n1
  have offD : ∀ ys, ∀ p ∈ (D, LCg.lst ys) :: nw, p.1 ≠ I := fun ys p hp => (List.mem_cons.mp hp).elim (fun e => by rw [e]; exact Ne.symm hID) fun hp => (off p hp).1
  have offC : ∀ ys, ∀ p ∈ (D, LCg.lst ys) :: nw, p.1 ≠ C := fun ys p hp => (List.mem_cons.mp hp).elim (fun e => by rw [e]; exact Ne.symm hCD) fun hp => (off p hp).2.1
  refine two_loop0 (fun t s' => ∃ h' tk i ys m', s' = { s with heap := h', toks := tk } ∧ i ≤ n1 ∧ t = n1 + 1 - i ∧ IsRangeIter h' I (0 + (i : Int) * 1) ((n1 : Int) - (i : Int)) 1 ∧ Fr h₀ L h' m ∧ h'.Ns C m' ∧ News h₀ L h' ((D, LCg.lst ys) :: nw) ∧ J (i * n2) ys)
    ?_ (n1 + 1) ⟨s.heap, s.toks, 0, ys₀, mC, rfl, Nat.zero_le _, rfl, by simpa using hit, F, hn, N, by rw [Nat.zero_mul]; exact hJ0⟩ (fun _ => rfl) hs
  rintro t _ ⟨h1, tk, i, ys, m1, rfl, hi, rfl, it1, F1, ns1, N1, J1⟩
  by_cases hlt : i < n1
  · refine W.item i _ _ _ hlt it1 fun v h2 tk2 hv it2 k2 => ?_
    obtain ⟨t1, rfl⟩ := hv
    have N2 := LCg.news_but N1 k2 (offD ys)
    have F2 := LCg.fr_but F1 k2 hIL hI₀
    have ns2 : h2.Ns C m1 := ns1.at' fun o e => k2 C o (by simpa using Ne.symm hIC) e
    refine wpAny_assign_Name (wpAny_storeName_local (env := compEnvC scope cl C env) (lookup_relabel_local ha) ns2 (fun h3 ns3 s3 => ?_) (by simp [compEnvC, relabel, hkind]))
    have k3 : ∀ d o, d ∉ [C] → h2.get? d = some o → h3.get? d = some o := fun d o hd e => s3.extBut d o (show d ≠ C by simpa using hd) e
    have F3 := LCg.fr_but F2 k3 (Ne.symm hCL) hC₀
    have N3 := LCg.news_but N2 k3 (offC ys)
    have it3 : IsRangeIter h3 I (0 + ((i + 1 : Nat) : Int) * 1) ((n1 : Int) - ((i + 1 : Nat) : Int)) 1 := k3 I _ (by simpa using hIC) it2
    obtain ⟨oC, eC, rC⟩ := LCg.ns_obj ns3
    have N3' : News h₀ L h3 ((I, rIt (0 + ((i + 1 : Nat) : Int) * 1) ((n1 : Int) - ((i + 1 : Nat) : Int))) :: (C, oC) :: (D, LCg.lst ys) :: nw) := fun p hp => by
      rcases List.mem_cons.mp hp with rfl | hp
      · exact ⟨it3, Ne.symm hIL, hI₀⟩
      · rcases List.mem_cons.mp hp with rfl | hp
        · exact ⟨eC, hCL, hC₀⟩
        · exact N3 p hp
    refine wpAny_mono (iter2 ys _ oC _ h3 _ _ rC F3 N3') (fun x s4 h4 => ?_) fun _ _ e => e
    obtain ⟨r, u1, u2, u3, h4, tk4, rfl, rfl, hr, F4, N4⟩ := h4
    refine wpAny_pyIter_range hr hsm ?_
    have up : ∀ d o, h4.get? d = some o → (h4.push { cls := .type "range_iterator", data := .fields #[rawInt 0, rawInt (Builtin.Range.rangeSize 0 (n2 : Int) 1), rawInt 1] }).get? d = some o := fun d o e => Heap.get?_push_of_some _ e
    have it4 : IsRangeIter (h4.push { cls := .type "range_iterator", data := .fields #[rawInt 0, rawInt (Builtin.Range.rangeSize 0 (n2 : Int) 1), rawInt 1] }) h4.objs.size 0 n2 1 := by
      show _ = _
      rw [hrs]; exact Heap.get?_push_size _ rfl
    have F5 := F4.keeps up
    have N5 := N4.grown up
    have hlt4 : ∀ p ∈ (I, rIt (0 + ((i + 1 : Nat) : Int) * 1) ((n1 : Int) - ((i + 1 : Nat) : Int))) :: (C, oC) :: (D, LCg.lst ys) :: nw, p.1 ≠ h4.objs.size := fun p hp => Nat.ne_of_lt (Heap.lt_size (N4 p hp).1)
    have hL4 : L ≠ h4.objs.size := Nat.ne_of_lt F4.ns.lt
    have h₀4 : h₀.get? h4.objs.size = none := by
      cases e : h₀.get? h4.objs.size with
      | none => rfl
      | some o => exact absurd (Heap.lt_size (F4.keep _ o e)) (Nat.lt_irrefl _)
    dsimp only
    generalize h4.push { cls := .type "range_iterator", data := .fields #[rawInt 0, rawInt (Builtin.Range.rangeSize 0 (n2 : Int) 1), rawInt 1] } = h5 at it4 F5 N5 up ⊢
    generalize h4.objs.size = I2 at it4 hlt4 hL4 h₀4 ⊢
    refine two_start ?l (wpAny_pyIter_rangeiter it4 ?l)
    case l =>
      refine two_inner (nw := (I, rIt (0 + ((i + 1 : Nat) : Int) * 1) ((n1 : Int) - ((i + 1 : Nat) : Int))) :: nw) (va := .int (0 + (i : Int)) t1) (K := fun j ys => J (i * n2 + j) ys) hh hkind hb hab hL4 hCL hDL h₀4 hC₀ hD₀ (Ne.symm (hlt4 _ (.tail _ (.head _)))) (Ne.symm (hlt4 _ (.tail _ (.tail _ (.head _))))) hCD (fun p hp => ?_) (fun j ys hj => hK _ _ hj) ?_ (fun h tk m' ys hJ F' N' hn' => ?_) it4 F5
        ((rC.ns (N5 _ (.tail _ (.head _))).1)) (by simp) (fun p hp => ?_) J1
      · rcases List.mem_cons.mp hp with rfl | hp
        · exact ⟨hlt4 _ (.head _), hIC, hID⟩
        · exact ⟨hlt4 _ (.tail _ (.tail _ (.tail _ hp))), (off p hp).2⟩
      · have e : (0 + (i : Int)) = (i : Int) := Int.zero_add _
        rw [e]
        exact fun j ys hj hK => turn i hlt I2 _ t1 j ys hj hK
      · refine ⟨n1 + 1 - (i + 1), by omega, h, tk, i + 1, ys, m', rfl, hlt, rfl, (N' _ (.tail _ (.head _))).1, F', hn', fun p hp => ?_, by rw [Nat.succ_mul]; exact hJ⟩
        rcases List.mem_cons.mp hp with rfl | hp
        · exact N' _ (.head _)
        · exact N' _ (.tail _ (.tail _ hp))
      · rcases List.mem_cons.mp hp with rfl | hp
        · exact N5 _ (.tail _ (.tail _ (.head _)))
        · rcases List.mem_cons.mp hp with rfl | hp
          · exact N5 _ (.head _)
          · exact N5 _ (.tail _ (.tail _ (.tail _ hp)))
  · obtain rfl : i = n1 := Nat.le_antisymm hi (Nat.not_lt.mp hlt)
    refine W.done _ _ _ it1 fun h2 tk2 k2 => ?_
    exact fin h2 _ m1 ys J1 (LCg.fr_but F1 k2 hIL hI₀) (LCg.news_but N1 k2 (offD ys)) (ns1.at' fun o e => k2 C o (by simpa using Ne.symm hIC) e)
/-- where the two clauses' numbers come from, and what is made of them -/
def Src2 (prog : Program) (w : World) (A : Around) (h₀ : Heap) (L : Addr) (m : Str → Option Value) (env : Env) (elt i2 : PySem.Expr) (a b : Str) (scope : Scope) (cl : List (Str × Addr)) (Q : Value → Shared → Prop) (xv : Value) (s₁ : Shared) : Prop :=
  ∃ (r : Addr) (u1 u2 u3 : Tok) (n1 n2 : Nat) (J : Nat → List Value → Prop) (nw : Led), xv = .ref r ∧ A.handled = none ∧ Fr h₀ L s₁.heap m ∧ News h₀ L s₁.heap nw ∧ IsRange s₁.heap r 0 (n1 : Int) 1 u1 u2 u3 ∧
    Builtin.Range.small 0 (n1 : Int) 1 = true ∧ Builtin.Range.rangeSize 0 (n1 : Int) 1 = (n1 : Int) ∧ Builtin.Range.small 0 (n2 : Int) 1 = true ∧ Builtin.Range.rangeSize 0 (n2 : Int) 1 = (n2 : Int) ∧
    (∀ j ys, J j ys → ys.length ≤ sizeLine) ∧ J 0 [] ∧ (∀ I C D, It2 prog w A h₀ L m i2 (compEnvC scope cl C env) s₁ I C D nw n2) ∧
    (∀ i, i < n1 → ∀ I I2 C D oI t1, El2 prog w A h₀ L m elt (compEnvC scope cl C env) s₁ I2 C D ((I, oI) :: nw) a b (.int (i : Int) t1) n2 (fun j ys => J (i * n2 + j) ys)) ∧
    (∀ D h tk ys, J (n1 * n2) ys → Fr h₀ L h m → News h₀ L h ((D, LCg.lst ys) :: nw) → LCg.Off1 D nw → Q (.ref D) { s₁ with heap := h, toks := tk })
theorem two_comp {elt i1 i2 : PySem.Expr} {a b : Str} {pa pb : Pos} {scope : Scope} {cl : List (Str × Addr)} {pos : Pos} {Q : Value → Shared → Prop} (_F₀ : Fr h₀ L s.heap m)
    (hclos : closureFor scope env = pure cl) (hcell : ∀ y ∈ scope.names, y.2 ≠ .cell) (hkind : scope.kind = .function)
    (hnames : ∀ y ∈ scope.names, y.2 = .local → scope.names.lookup y.1 = some .local) (ha : scope.names.lookup a = some .local) (hb : scope.names.lookup b = some .local) (hab : a ≠ b)
    (h : wpAny (model prog w) A (eval i1 env) (Src2 prog w A h₀ L m env elt i2 a b scope cl Q) E s)
    (hs1 : ∀ x, foldedSetIterable i1 env x = pure x := by intro _; rfl) (hs2 : ∀ C x, foldedSetIterable i2 (compEnvC scope cl C env) x = pure x := by intro _ _; rfl) :
    wpAny (model prog w) A (eval (.ListComp elt [⟨.Name a pa, i1, [], 0⟩, ⟨.Name b pb, i2, [], 0⟩] scope pos) env) Q E s := by
  rw [eval_ListComp]
  refine wpAny_comprehension_free (use := none) rfl hs1 hclos hkind hnames (wpAny_mono h (fun xv s₁ h₁ => ?_) fun _ _ e => e)
  obtain ⟨r, u1, u2, u3, n1, n2, J, nw, rfl, hh, F, N, hr, hsm1, hrs1, hsm2, hrs2, hK, hJ, iter2, turn, fin⟩ := h₁
  refine wpAny_pyIter_range hr hsm1 ?_
  have up : ∀ d o, s₁.heap.get? d = some o → (s₁.heap.push { cls := .type "range_iterator", data := .fields #[rawInt 0, rawInt (Builtin.Range.rangeSize 0 (n1 : Int) 1), rawInt 1] }).get? d = some o := fun d o e => Heap.get?_push_of_some _ e
  have hit : IsRangeIter (s₁.heap.push { cls := .type "range_iterator", data := .fields #[rawInt 0, rawInt (Builtin.Range.rangeSize 0 (n1 : Int) 1), rawInt 1] }) s₁.heap.objs.size 0 n1 1 := by
    show _ = _
    rw [hrs1]; exact Heap.get?_push_size _ rfl
  have hz : (s₁.heap.push { cls := .type "range_iterator", data := .fields #[rawInt 0, rawInt (Builtin.Range.rangeSize 0 (n1 : Int) 1), rawInt 1] }).objs.size = s₁.heap.objs.size + 1 := Heap.size_push ..
  have F1 := F.keeps up
  have N1 := N.grown up
  have hIL : L ≠ s₁.heap.objs.size := Nat.ne_of_lt F.ns.lt
  have hnone : ∀ d, s₁.heap.objs.size ≤ d → h₀.get? d = none := fun d hd => by
    cases e : h₀.get? d with
    | none => rfl
    | some o => exact absurd (Heap.lt_size (F.keep d o e)) (Nat.not_lt.mpr hd)
  have hLt : L < s₁.heap.objs.size := F.ns.lt
  have hIn : ∀ p ∈ nw, p.1 < s₁.heap.objs.size := fun p hp => Heap.lt_size (N p hp).1
  generalize s₁.heap.push { cls := .type "range_iterator", data := .fields #[rawInt 0, rawInt (Builtin.Range.rangeSize 0 (n1 : Int) 1), rawInt 1] } = g1 at hit hz F1 N1 up ⊢
  generalize s₁.heap.objs.size = I at hit hz hIL hnone hIn hLt ⊢
  refine wpAny_newObj_type (wpAny_newFunctionEnv hcell (by intro y hy; simp at hy) (fun g3 ns3 sb3 => ?_) hkind)
  dsimp only at ns3 sb3 ⊢
  generalize hg2 : g1.push { cls := .type "list", dict := none, data := .seq ([] : List Value).toArray } = g2 at ns3 sb3 ⊢
  have hz2 : g2.objs.size = g1.objs.size + 1 := by rw [← hg2, Heap.size_push]
  have h12 : g1.objs.size < g2.objs.size := by rw [hz2]; exact Nat.lt_succ_self _
  have hIlt : I < g1.objs.size := by rw [hz]; exact Nat.lt_succ_self _
  have hI2 : I < g2.objs.size := Nat.lt_trans hIlt h12
  have hL1 : L < g1.objs.size := Nat.lt_trans hLt hIlt
  have hL2 : L < g2.objs.size := Nat.lt_trans hL1 h12
  have e2' : g2.get? g1.objs.size = some (LCg.lst []) := by rw [← hg2]; exact Heap.get?_push_size _ rfl
  have up2 : ∀ d o, g1.get? d = some o → g3.get? d = some o := fun d o e => sb3.extBut d o (Nat.ne_of_lt (Nat.lt_trans (Heap.lt_size e) h12)) (Heap.get?_push_of_some _ (by rw [← hg2]; exact Heap.get?_push_of_some _ e))
  have e3 : g3.get? g1.objs.size = some (LCg.lst []) := sb3.extBut _ _ (Nat.ne_of_lt h12) (Heap.get?_push_of_some _ e2')
  have hit3 : IsRangeIter g3 I 0 n1 1 := up2 _ _ hit
  have F3 := F1.keeps up2
  have N3 := N1.grown up2
  have hnw : ∀ p ∈ nw, p.1 ≠ I ∧ p.1 ≠ g2.objs.size ∧ p.1 ≠ g1.objs.size := fun p hp =>
    have := hIn p hp
    ⟨Nat.ne_of_lt this, Nat.ne_of_lt (Nat.lt_trans this hI2), Nat.ne_of_lt (Nat.lt_trans this hIlt)⟩
  have N4 : News h₀ L g3 ((g1.objs.size, LCg.lst []) :: nw) := fun p hp => by
    rcases List.mem_cons.mp hp with rfl | hp
    · exact ⟨e3, Ne.symm (Nat.ne_of_lt hL1), hnone _ (Nat.le_of_lt hIlt)⟩
    · exact N3 p hp
  refine codeAny_compStart_list ?l (wpAny_pyIter_rangeiter hit3 ?l)
  case l =>
    refine two_outer (n1 := n1) (n2 := n2) (J := J) hh hkind ha hb hab hIL (Nat.ne_of_gt hL2) (Nat.ne_of_gt hL1) (hnone _ (Nat.le_refl _)) (hnone _ (Nat.le_of_lt hI2)) (hnone _ (Nat.le_of_lt hIlt)) (Nat.ne_of_lt hI2) (Nat.ne_of_lt hIlt) (Nat.ne_of_gt h12) hnw hK (hs2 _) hsm2 hrs2
      (fun ys oI oC m₂ h tk E' h1 h2 h3 => iter2 I _ _ ys oI oC m₂ h tk E' h1 h2 h3) (fun i hi I2 oI t1 j ys hj hK => turn i hi I I2 _ _ oI t1 j ys hj hK) (fun h tk m' ys hJ F N hn => ?_) hit3 F3 ns3 N4 hJ
    refine ⟨m', hn, fun h'' hs'' => fin _ h'' tk ys hJ (F.change hs'' (Nat.ne_of_gt hL2) (hnone _ (Nat.le_of_lt hI2))) (fun p hp => ?_) (off1_of fun p hp => (hnw p hp).2.2)⟩
    refine ⟨hs''.extBut _ _ ?_ (N p hp).1, (N p hp).2⟩
    rcases List.mem_cons.mp hp with rfl | hp
    · exact Nat.ne_of_lt h12
    · exact (hnw p hp).2.1
end
end Mine
namespace Mine
def sumF (ds : List (Int × Int)) (t : Nat) : Int := (ds.map (termF ((t % 8 : Nat) : Int) ((t / 8 : Nat) : Int))).sum.fmod 17
theorem sum_snoc {ds : List (Int × Int)} {i j : Nat} {ys : List Value} {t : Tok} (hj : j < 8) (h : IntsAre ys ((List.range (i * 8 + j)).map (sumF ds))) :
    IntsAre (ys ++ [.int ((ds.map (termF (j : Int) (i : Int))).sum.fmod 17) t]) ((List.range (i * 8 + (j + 1))).map (sumF ds)) := by
  have e : (ds.map (termF (j : Int) (i : Int))).sum.fmod 17 = sumF ds (i * 8 + j) := by
    unfold sumF
    rw [show (i * 8 + j) % 8 = j by omega, show (i * 8 + j) / 8 = i by omega]
  rw [e, show i * 8 + (j + 1) = (i * 8 + j) + 1 by omega, List.range_succ, List.map_append]
  exact h.append (.cons _ _ .nil)
theorem ab_range (bs : List Bool) : ∀ d ∈ (keptN bs).map abF, (0 ≤ d.1 ∧ d.1 < 8) ∧ (0 ≤ d.2 ∧ d.2 < 2) := by
  intro d hd
  obtain ⟨j, hj, rfl⟩ := List.mem_map.mp hd
  have h1 := keptN_lt j hj
  show (0 ≤ ((j % 8 : Nat) : Int) ∧ ((j % 8 : Nat) : Int) < 8) ∧ (0 ≤ ((j / 8 : Nat) : Int) ∧ ((j / 8 : Nat) : Int) < 2)
  omega
theorem ab_len (bs : List Bool) : ((keptN bs).map abF).length ≤ 16 := by rw [List.length_map]; exact keptN_len bs
theorem led_pick5 {h₀ h : Heap} {L : Addr} {x0 x1 x2 x3 x4 : Addr × Obj} {e : Led} (N : News h₀ L h (x0 :: x1 :: x2 :: x3 :: x4 :: e)) : News h₀ L h (x1 :: x3 :: x4 :: e) :=
  led_drop N fun p hp => by
    simp only [List.mem_cons] at hp ⊢
    rcases hp with h | h | h | h <;> simp [h]
theorem ii_tail {c e : Led} {ys : List Value} {ds : List (Int × Int)} (h : All2 (IsII e) ys ds) : All2 (IsII (c ++ e)) ys ds := All2.mono (IsII.mono fun _ h => List.mem_append_right c h) h
def opp (k : Nat) : Nat := k / 8 * 8 + (8 - k % 8) % 8
theorem opp_is : ∀ (i : Nat), i < 15 → (1 + (i : Int)).fdiv 8 * 8 + (-(1 + (i : Int))).fmod 8 = ((opp (i + 1) : Nat) : Int) := by decide
theorem opp_lt : ∀ (i : Nat), i < 15 → opp (i + 1) < 16 := by decide
theorem sums_at {ds : List (Int × Int)} {ys : List Value} (h : IntsAre ys ((List.range (2 * 8)).map (sumF ds))) {k : Int} {j : Nat} (e : k = (j : Int)) (hj : j < 16) : ∃ t, ys.toArray[k.toNat]? = some (.int (sumF ds j) t) := by
  subst e
  obtain ⟨t, q⟩ := ints_at (j := j) h (by simpa using hj)
  refine ⟨t, ?_⟩
  rw [Int.toNat_natCast, q]
  simp [List.getD, hj]
theorem cnt_len (ds : List (Int × Int)) : (cntF ds).length = 16 := by
  unfold cntF
  rw [foldl_len (fun cs x => foldl_len (incF_len x) ds cs), List.length_replicate]
theorem size_ok {vs : List Value} {ns : List Int} (h : IntsAre vs ns) (hn : ns.length ≤ 16) : vs.toArray.size ≤ sizeLine := by
  rw [List.size_toArray, h.length, sizeLine_eq]; omega
theorem cnt_at {ds : List (Int × Int)} {vs : List Value} (h : IntsAre vs (cntF ds)) {k : Int} {j : Nat} (e : k = (j : Int)) (hj : j < 16) : ∃ t, vs.toArray[k.toNat]? = some (.int ((cntF ds).getD j 0) t) := by
  subst e
  exact ints_at (j := j) h (by rw [cnt_len]; exact hj)
theorem sum_lo (ds : List (Int × Int)) (j : Nat) : 0 ≤ sumF ds j := Int.fmod_nonneg_of_pos _ (by decide)
theorem sum_hi (ds : List (Int × Int)) (j : Nat) : sumF ds j < 17 := Int.fmod_lt_of_pos _ (by decide)
def prodF (ds : List (Int × Int)) (k : Nat) : Int := (sumF ds k * sumF ds (opp k)).fmod 17
theorem prod_snoc {ds : List (Int × Int)} {i : Nat} {us : List Value} {t : Tok} (h : IntsAre us ((List.range i).map fun (k : Nat) => prodF ds (k + 1))) :
    IntsAre (us ++ [.int ((sumF ds (i + 1) * sumF ds (opp (i + 1))).fmod 17) t]) ((List.range (i + 1)).map fun (k : Nat) => prodF ds (k + 1)) := by
  rw [List.range_succ, List.map_append]
  exact h.append (.cons _ _ .nil)
theorem led_pick12 {h₀ h : Heap} {L : Addr} {x0 x1 x2 x3 x4 x5 x6 x7 x8 x9 x10 x11 : Addr × Obj} {e : Led} (N : News h₀ L h (x0 :: x1 :: x2 :: x3 :: x4 :: x5 :: x6 :: x7 :: x8 :: x9 :: x10 :: x11 :: e)) : News h₀ L h (x0 :: x6 :: x9 :: x11 :: e) :=
  led_drop N fun p hp => by
    simp only [List.mem_cons] at hp ⊢
    rcases hp with h | h | h | h | h <;> simp [h]
def EvenP (ds : List (Int × Int)) : Prop := List.drop 1 (cntF ds) = (List.replicate (Int.toNat 15) [(cntF ds).getD 1 0]).flatten
def ProdP (ds : List (Int × Int)) : Prop := List.map (fun (k : Nat) => prodF ds (k + 1)) (List.range 15) = (List.replicate (Int.toNat 15) [prodF ds 1]).flatten
def powF (x : Int) : Int := (x ^ 8).fmod 17
theorem dif_of {p q : Prop} {_ : Decidable p} {_ : Decidable q} (h : p ↔ q) (e : (decide p != decide q) = true) : False := by
  by_cases hp : p
  · simp [hp, h.mp hp] at e
  · simp [hp] at e
    exact hp (h.mpr e)
theorem sz16 {n : Nat} (h : n ≤ 16) : n ≤ sizeLine := by rw [sizeLine_eq]; omega
theorem ord_is (j : Nat) : ((97 + (j : Int)).toNat : Int) - 97 = (j : Int) := by omega
theorem ij_le {i j : Nat} (hi : i < 2) (hj : j < 8) : i * 8 + (j + 1) ≤ 16 := by omega
theorem idx_lo (i : Nat) : (0 : Int) ≤ 1 + (i : Int) := by omega
theorem idx_is (i : Nat) : 1 + (i : Int) = ((i + 1 : Nat) : Int) := by omega
theorem sum_ok (ds : List (Int × Int)) (j k : Nat) : IntMulOk (sumF ds j) (sumF ds k) := by
  have b1 := sum_lo ds j
  have b2 := sum_hi ds j
  exact IntMulOk.of_left (intBits_le_64 (by omega) (by omega))
theorem k6 {n : Nat} (h : n = 0 ∨ n = 1 ∨ n = 6 ∨ n = 10 ∨ n = 15 ∨ n = 16) : ((n : Int) = 0 ∨ (n : Int) = 1 ∨ (n : Int) = 6 ∨ (n : Int) = 10 ∨ (n : Int) = 15 ∨ (n : Int) = 16) ∧ (n : Int) < 2 ^ 63 := by
  rcases h with rfl | rfl | rfl | rfl | rfl | rfl <;> decide
theorem sum_in {ds : List (Int × Int)} {x : Int} (h : x ∈ List.map (sumF ds) (List.range (2 * 8))) : 0 ≤ x ∧ x < 17 := by
  obtain ⟨j, _, rfl⟩ := List.mem_map.mp h
  exact ⟨sum_lo ds j, sum_hi ds j⟩
section
variable {prog : Program} {w : World} {A : Around} {E : Value → Shared → Prop} {s : Shared} {h₀ : Heap} {L D : Addr} {news : Led} {its : Array Value} {n : Nat}
theorem len_at {k : Int} {Q : Value → Shared → Prop} (N : News h₀ L s.heap news) (hm : (D, listOf its n) ∈ news) (e : (its.size : Int) = k) (hk : k < 2 ^ 63) (h : Q (.int k (s.toks + 1)) { s with toks := s.toks + 1 + 1 }) :
    wpAny (model prog w) A (call (.builtin "len") [.ref D]) Q E s := by
  subst e
  exact Calls.call_len_list (PySem.IsL.isList (n := n) (N _ hm).1) hk h
end
end Mine
namespace Mine
/-- a weighted sum over the counts -/
def dotf : List Int → (Nat → Int) → Int
  | [], _ => 0
  | c :: cs, f => c * f 0 + dotf cs fun n => f (n + 1)
theorem dotf_inc : ∀ (cs : List Int) (f : Nat → Int) (i : Nat), i < cs.length → dotf (cs.set i (cs.getD i 0 + 1)) f = dotf cs f + f i
  | [], _, _, h => absurd h (Nat.not_lt_zero _)
  | c :: cs, f, 0, _ => by
    simp only [List.set_cons_zero, dotf, List.getD_cons_zero, Int.add_mul, Int.one_mul]
    omega
  | c :: cs, f, i + 1, h => by
    have := dotf_inc cs (fun n => f (n + 1)) i (Nat.lt_of_succ_lt_succ h)
    simp only [List.set_cons_succ, dotf, List.getD_cons_succ] at this ⊢
    rw [this]
    omega
def ixN (x y : Nat) : Nat := (idxF (abF x) (abF y)).toNat
theorem ix_lt : ∀ x < 16, ∀ y < 16, ixN x y < 16 := by decide +kernel
theorem dot_row (f : Nat → Int) {x : Nat} (hx : x < 16) : ∀ (l : List Nat) (cs : List Int), (∀ y ∈ l, y < 16) → cs.length = 16 → dotf ((l.map abF).foldl (incF (abF x)) cs) f = dotf cs f + (l.map fun y => f (ixN x y)).sum
  | [], cs, _, _ => by simp
  | y :: l, cs, hl, hc => by
    rw [List.map_cons, List.foldl_cons, dot_row f hx l _ (fun z hz => hl z (.tail _ hz)) (by rw [incF_len, hc]), List.map_cons, List.sum_cons]
    have e : dotf (incF (abF x) cs (abF y)) f = dotf cs f + f (ixN x y) := dotf_inc cs f (ixN x y) (by rw [hc]; exact ix_lt x hx y (hl y (.head _)))
    rw [e]; omega
theorem dot_all (f : Nat → Int) {K : List Nat} (hK : ∀ y ∈ K, y < 16) : ∀ (l : List Nat) (cs : List Int), (∀ x ∈ l, x < 16) → cs.length = 16 →
    dotf ((l.map abF).foldl (fun cs x => (K.map abF).foldl (incF x) cs) cs) f = dotf cs f + (l.map fun x => (K.map fun y => f (ixN x y)).sum).sum
  | [], cs, _, _ => by simp
  | x :: l, cs, hl, hc => by
    rw [List.map_cons, List.foldl_cons, dot_all f hK l _ (fun z hz => hl z (.tail _ hz)) (by rw [foldl_len (incF_len _), hc]), dot_row f (hl x (.head _)) K cs hK hc, List.map_cons, List.sum_cons]
    omega
def dbl (K : List Nat) (g : Nat → Nat → Int) : Int := (K.map fun x => (K.map fun y => g x y).sum).sum
theorem dot_cnt (f : Nat → Int) {K : List Nat} (hK : ∀ y ∈ K, y < 16) : dotf (cntF (K.map abF)) f = dbl K fun x y => f (ixN x y) := by
  have h := dot_all f hK K (List.replicate 16 0) hK (by simp)
  have z : dotf (List.replicate 16 0) f = 0 := by simp [List.replicate, dotf]
  rw [z, Int.zero_add] at h
  exact h
theorem sum_congr {f g : Nat → Int} : ∀ {l : List Nat}, (∀ x ∈ l, f x = g x) → (l.map f).sum = (l.map g).sum
  | [], _ => rfl
  | x :: l, h => by
    rw [List.map_cons, List.map_cons, List.sum_cons, List.sum_cons, h x (.head _), sum_congr fun y hy => h y (.tail _ hy)]
theorem dbl_congr {K : List Nat} {g g' : Nat → Nat → Int} (hK : ∀ y ∈ K, y < 16) (h : ∀ x < 16, ∀ y < 16, g x y = g' x y) : dbl K g = dbl K g' :=
  sum_congr fun x hx => sum_congr fun y hy => h x (hK x hx) y (hK y hy)
theorem sum_mod {f g : Nat → Int} : ∀ {l : List Nat}, (∀ x ∈ l, (f x - g x) % 17 = 0) → ((l.map f).sum - (l.map g).sum) % 17 = 0
  | [], _ => rfl
  | x :: l, h => by
    have a := h x (.head _)
    have b := sum_mod fun y hy => h y (.tail _ hy)
    rw [List.map_cons, List.map_cons, List.sum_cons, List.sum_cons]
    omega
theorem sum_mul {f : Nat → Int} (c : Int) : ∀ l : List Nat, (l.map fun x => f x * c).sum = (l.map f).sum * c
  | [] => by simp
  | x :: l => by rw [List.map_cons, List.map_cons, List.sum_cons, List.sum_cons, sum_mul c l, Int.add_mul]
theorem mul_sum {f : Nat → Int} (c : Int) : ∀ l : List Nat, (l.map fun x => c * f x).sum = c * (l.map f).sum
  | [] => by simp
  | x :: l => by rw [List.map_cons, List.map_cons, List.sum_cons, List.sum_cons, mul_sum c l, Int.mul_add]
theorem sum_add {f g : Nat → Int} : ∀ l : List Nat, (l.map fun x => f x + g x).sum = (l.map f).sum + (l.map g).sum
  | [] => by simp
  | x :: l => by rw [List.map_cons, List.map_cons, List.map_cons, List.sum_cons, List.sum_cons, List.sum_cons, sum_add l]; omega
theorem dbl_mul (K : List Nat) (f g : Nat → Int) : dbl K (fun x y => f x * g y) = (K.map f).sum * (K.map g).sum := by
  unfold dbl
  rw [← sum_mul]
  exact sum_congr fun x _ => mul_sum (f x) K
theorem dbl_add (K : List Nat) (f g : Nat → Nat → Int) : dbl K (fun x y => f x y + g x y) = dbl K f + dbl K g := by
  unfold dbl
  rw [← sum_add]
  exact sum_congr fun x _ => sum_add K
theorem dbl_mod {K : List Nat} {g g' : Nat → Nat → Int} (hK : ∀ y ∈ K, y < 16) (h : ∀ x < 16, ∀ y < 16, (g x y - g' x y) % 17 = 0) : (dbl K g - dbl K g') % 17 = 0 :=
  sum_mod fun x hx => sum_mod fun y hy => h x (hK x hx) y (hK y hy)
/-- one term of a character's sum -/
def tau (t j : Nat) : Int := termF ((t % 8 : Nat) : Int) ((t / 8 : Nat) : Int) (abF j)
theorem sumF_is (K : List Nat) (t : Nat) : sumF (K.map abF) t = (K.map (tau t)).sum % 17 := by
  unfold sumF
  rw [List.map_map, Int.fmod_eq_emod_of_nonneg _ (by decide)]
  rfl
/-- the place that stands for a difference -/
def px (x y : Nat) : Nat := (x % 8 + 8 - y % 8) % 8 + 8 * ((x / 8 + y / 8) % 2)
theorem ix_px : ∀ x < 16, ∀ y < 16, ixN x y = px x y := by decide +kernel
/-- a character's exponent -/
def mm (t x : Nat) : Nat := ((x % 8) * (t % 8) + 4 * (x / 8) * (t / 8)) % 8
theorem mm_px : ∀ t < 16, ∀ x < 16, ∀ y < 16, mm t (px x y) = (mm t x + 8 - mm t y) % 8 := by decide +kernel
theorem mm_opp : ∀ t < 16, ∀ y < 16, mm (opp t) y = (8 - mm t y) % 8 := by decide +kernel
theorem mm_lt (t x : Nat) : mm t x < 8 := Nat.mod_lt _ (by decide)
theorem opp_in : ∀ t < 16, opp t < 16 := by decide
theorem tau_mm : ∀ t < 16, ∀ x < 16, (tau t x - 2 ^ mm t x) % 17 = 0 := by decide +kernel
theorem pow8 : ∀ u < 8, ∀ v < 8, ((2 : Int) ^ u * 2 ^ ((8 - v) % 8) - 2 ^ ((u + 8 - v) % 8)) % 17 = 0 := by decide +kernel
theorem tau_pair (t : Nat) (ht : t < 16) (x : Nat) (hx : x < 16) (y : Nat) (hy : y < 16) : (tau t x * tau (opp t) y - tau t (ixN x y)) % 17 = 0 := by
  have a := tau_mm t ht x hx
  have b := tau_mm (opp t) (opp_in t ht) y hy
  have c := tau_mm t ht (ixN x y) (ix_lt x hx y hy)
  have d := pow8 (mm t x) (mm_lt t x) (mm t y) (mm_lt t y)
  rw [ix_px x hx y hy] at c ⊢
  rw [mm_px t ht x hx y hy] at c
  rw [mm_opp t ht y hy] at b
  generalize (2 : Int) ^ mm t x = u at a d
  generalize (2 : Int) ^ ((8 - mm t y) % 8) = v at b d
  generalize (2 : Int) ^ ((mm t x + 8 - mm t y) % 8) = z at c d
  have e : tau t x * tau (opp t) y % 17 = u * v % 17 := by rw [Int.mul_emod, show tau t x % 17 = u % 17 by omega, show tau (opp t) y % 17 = v % 17 by omega, ← Int.mul_emod]
  generalize tau t x * tau (opp t) y = p at e ⊢
  generalize u * v = q at d e
  omega
theorem prodF_is {K : List Nat} (hK : ∀ y ∈ K, y < 16) {t : Nat} (ht : t < 16) : prodF (K.map abF) t = dotf (cntF (K.map abF)) (tau t) % 17 := by
  unfold prodF
  rw [sumF_is, sumF_is, Int.fmod_eq_emod_of_nonneg _ (by decide), ← Int.mul_emod, ← dbl_mul, dot_cnt _ hK]
  have := dbl_mod hK (tau_pair t ht)
  omega
end Mine
namespace Mine
theorem dotf_const (c : Int) : ∀ (n : Nat) (f : Nat → Int), dotf (List.replicate n c) f = c * dotf (List.replicate n 1) f
  | 0, _ => by simp [dotf]
  | n + 1, f => by
    simp only [List.replicate_succ, dotf, Int.one_mul, Int.mul_add]
    rw [dotf_const c n]
theorem dotf_mod : ∀ (cs : List Int) (f g : Nat → Int), (∀ n < cs.length, (f n - g n) % 17 = 0) → (dotf cs f - dotf cs g) % 17 = 0
  | [], _, _, _ => rfl
  | c :: cs, f, g, h => by
    have a := h 0 (Nat.succ_pos _)
    have b := dotf_mod cs (fun n => f (n + 1)) (fun n => g (n + 1)) fun n hn => h (n + 1) (Nat.succ_lt_succ hn)
    simp only [dotf]
    have e : c * f 0 - c * g 0 = c * (f 0 - g 0) := (Int.mul_sub c _ _).symm
    have d : c * (f 0 - g 0) % 17 = 0 := by rw [Int.mul_emod, a]; simp
    omega
theorem dotf_add : ∀ (cs : List Int) (f g : Nat → Int), dotf cs (fun n => f n + g n) = dotf cs f + dotf cs g
  | [], _, _ => rfl
  | c :: cs, f, g => by
    simp only [dotf, Int.mul_add]
    rw [dotf_add cs (fun n => f (n + 1)) (fun n => g (n + 1))]
    omega
theorem dotf_smul (a : Int) : ∀ (cs : List Int) (f : Nat → Int), dotf cs (fun n => a * f n) = a * dotf cs f
  | [], _ => by simp [dotf]
  | c :: cs, f => by
    simp only [dotf, Int.mul_add]
    rw [dotf_smul a cs fun n => f (n + 1), Int.mul_left_comm]
theorem dotf_zero : ∀ (cs : List Int), dotf cs (fun _ => 0) = 0
  | [] => rfl
  | c :: cs => by simp only [dotf]; rw [dotf_zero cs]; simp
theorem dotf_sum (cs : List Int) (a : Nat → Int) (f : Nat → Nat → Int) : ∀ l : List Nat, (l.map fun k => a k * dotf cs (f k)).sum = dotf cs fun n => (l.map fun k => a k * f k n).sum
  | [] => by simp [dotf_zero]
  | k :: l => by
    simp only [List.map_cons, List.sum_cons]
    rw [dotf_sum cs a f l, dotf_add, dotf_smul]
def dl (d n : Nat) : Int := if n = d then 1 else 0
theorem dotf_none : ∀ (cs : List Int), dotf cs (fun _ => (if False then (1 : Int) else 0)) = 0 := fun cs => by simp [dotf_zero]
theorem dotf_dl : ∀ (cs : List Int) (d : Nat), dotf cs (dl d) = cs.getD d 0
  | [], d => by simp [dotf]
  | c :: cs, 0 => by
    have : (fun n => dl 0 (n + 1)) = fun _ => (0 : Int) := by funext n; simp [dl]
    simp [dotf, this, dotf_zero, dl]
  | c :: cs, d + 1 => by
    have : (fun n => dl (d + 1) (n + 1)) = dl d := by funext n; simp [dl]
    simp [dotf, this, dotf_dl cs d]
    simp [dl]
/-- where the second place of a pair stands -/
def pt (x d : Nat) : Nat := (x % 8 + 8 - d % 8) % 8 + 8 * ((x / 8 + d / 8) % 2)
theorem pt_is : ∀ d < 16, ∀ x < 16, ∀ y < 16, dl d (ixN x y) = dl (pt x d) y := by decide +kernel
theorem pt_zero : ∀ x < 16, pt x 0 = x := by decide
theorem ind_sum (p : Nat) : ∀ {l : List Nat}, l.Nodup → (p ∉ l → (l.map (dl p)).sum = 0) ∧ (p ∈ l → (l.map (dl p)).sum = 1)
  | [], _ => ⟨fun _ => rfl, fun h => nomatch h⟩
  | x :: l, h => by
    rw [List.nodup_cons] at h
    have ih := ind_sum p h.2
    rw [List.map_cons, List.sum_cons]
    by_cases e : x = p
    · subst e
      refine ⟨fun q => absurd (.head _) q, fun _ => ?_⟩
      rw [ih.1 h.1]; simp [dl]
    · have z : dl p x = 0 := by simp [dl, e]
      rw [z, Int.zero_add]
      refine ⟨fun q => ih.1 fun m => q (.tail _ m), fun q => ih.2 ?_⟩
      rcases List.mem_cons.mp q with q | q
      · exact absurd q.symm e
      · exact q
theorem ind_le (p : Nat) {l : List Nat} (h : l.Nodup) : 0 ≤ (l.map (dl p)).sum ∧ (l.map (dl p)).sum ≤ 1 := by
  have z := ind_sum p h
  by_cases e : p ∈ l
  · rw [z.2 e]; omega
  · rw [z.1 e]; omega
theorem sum_le {f : Nat → Int} : ∀ {l : List Nat}, (∀ x ∈ l, 0 ≤ f x ∧ f x ≤ 1) → 0 ≤ (l.map f).sum ∧ (l.map f).sum ≤ l.length
  | [], _ => by simp
  | x :: l, h => by
    have a := h x (.head _)
    have b := sum_le fun y hy => h y (.tail _ hy)
    rw [List.map_cons, List.sum_cons, List.length_cons]
    omega
theorem sum_one {f : Nat → Int} : ∀ {l : List Nat}, (∀ x ∈ l, f x = 1) → (l.map f).sum = l.length
  | [], _ => by simp
  | x :: l, h => by
    have b := sum_one fun y hy => h y (.tail _ hy)
    rw [List.map_cons, List.sum_cons, List.length_cons, h x (.head _)]
    omega
section
variable {K : List Nat} (hK : ∀ y ∈ K, y < 16) (hN : K.Nodup)
include hK
theorem cnt_is {d : Nat} (hd : d < 16) : (cntF (K.map abF)).getD d 0 = (K.map fun x => (K.map (dl (pt x d))).sum).sum := by
  rw [← dotf_dl, dot_cnt _ hK]
  exact dbl_congr hK (pt_is d hd)
theorem cnt_tot : dotf (cntF (K.map abF)) (fun _ => 1) = (K.length : Int) * K.length := by
  rw [dot_cnt _ hK]
  have := dbl_mul K (fun _ => 1) (fun _ => 1)
  simp only [Int.one_mul] at this
  rw [this, sum_one fun _ _ => rfl]
include hN
theorem cnt_bd {d : Nat} (hd : d < 16) : 0 ≤ (cntF (K.map abF)).getD d 0 ∧ (cntF (K.map abF)).getD d 0 ≤ K.length := by
  rw [cnt_is hK hd]
  exact sum_le fun x _ => ind_le _ hN
theorem cnt_zero : (cntF (K.map abF)).getD 0 0 = K.length := by
  rw [cnt_is hK (by decide)]
  exact sum_one fun x hx => (ind_sum _ hN).2 (by rw [pt_zero x (hK x hx)]; exact hx)
end
theorem list16 : ∀ {cs : List Int}, cs.length = 16 → ∃ c0 c1 c2 c3 c4 c5 c6 c7 c8 c9 c10 c11 c12 c13 c14 c15, cs = [c0, c1, c2, c3, c4, c5, c6, c7, c8, c9, c10, c11, c12, c13, c14, c15]
  | [c0, c1, c2, c3, c4, c5, c6, c7, c8, c9, c10, c11, c12, c13, c14, c15], _ => ⟨c0, c1, c2, c3, c4, c5, c6, c7, c8, c9, c10, c11, c12, c13, c14, c15, rfl⟩
theorem rep15 (c : Int) : (List.replicate (Int.toNat 15) [c]).flatten = List.replicate 15 c := rfl
theorem even_split {cs : List Int} (h : cs.length = 16) (e : List.drop 1 cs = (List.replicate (Int.toNat 15) [cs.getD 1 0]).flatten) (f : Nat → Int) : dotf cs f = cs.getD 0 0 * f 0 + cs.getD 1 0 * dotf (List.replicate 15 1) (fun n => f (n + 1)) := by
  obtain ⟨c0, c1, c2, c3, c4, c5, c6, c7, c8, c9, c10, c11, c12, c13, c14, c15, rfl⟩ := list16 h
  rw [rep15] at e
  rw [← dotf_const]
  have e1 : List.replicate 15 ([c0, c1, c2, c3, c4, c5, c6, c7, c8, c9, c10, c11, c12, c13, c14, c15].getD 1 0) = [c1, c2, c3, c4, c5, c6, c7, c8, c9, c10, c11, c12, c13, c14, c15] := e.symm
  rw [e1]
  rfl
theorem even_of {cs : List Int} (h : cs.length = 16) (e : ∀ d, d < 16 → 1 ≤ d → cs.getD d 0 = cs.getD 1 0) : List.drop 1 cs = (List.replicate (Int.toNat 15) [cs.getD 1 0]).flatten := by
  obtain ⟨c0, c1, c2, c3, c4, c5, c6, c7, c8, c9, c10, c11, c12, c13, c14, c15, rfl⟩ := list16 h
  have f2 : c2 = c1 := e 2 (by decide) (by decide)
  have f3 : c3 = c1 := e 3 (by decide) (by decide)
  have f4 : c4 = c1 := e 4 (by decide) (by decide)
  have f5 : c5 = c1 := e 5 (by decide) (by decide)
  have f6 : c6 = c1 := e 6 (by decide) (by decide)
  have f7 : c7 = c1 := e 7 (by decide) (by decide)
  have f8 : c8 = c1 := e 8 (by decide) (by decide)
  have f9 : c9 = c1 := e 9 (by decide) (by decide)
  have f10 : c10 = c1 := e 10 (by decide) (by decide)
  have f11 : c11 = c1 := e 11 (by decide) (by decide)
  have f12 : c12 = c1 := e 12 (by decide) (by decide)
  have f13 : c13 = c1 := e 13 (by decide) (by decide)
  have f14 : c14 = c1 := e 14 (by decide) (by decide)
  have f15 : c15 = c1 := e 15 (by decide) (by decide)
  subst f2; subst f3; subst f4; subst f5; subst f6; subst f7; subst f8; subst f9; subst f10; subst f11; subst f12; subst f13; subst f14; subst f15
  rfl
theorem map15 {f : Nat → Int} {c : Int} (h : ∀ k < 15, f k = c) : List.map f (List.range 15) = (List.replicate (Int.toNat 15) [c]).flatten := by
  have : List.map f (List.range 15) = List.map (fun _ => c) (List.range 15) := List.map_congr_left fun k hk => h k (List.mem_range.mp hk)
  rw [this]; rfl
theorem map15_inv {f : Nat → Int} {c : Int} (h : List.map f (List.range 15) = (List.replicate (Int.toNat 15) [c]).flatten) : ∀ k < 15, f k = c := by
  intro k hk
  have e : (List.map f (List.range 15))[k]? = (List.replicate 15 c)[k]? := by rw [h, rep15]
  rw [List.getElem?_map, List.getElem?_range hk, List.getElem?_replicate, if_pos hk] at e
  simpa using e
end Mine
namespace Mine
theorem tau_zero : ∀ k < 16, tau k 0 = 1 := by decide +kernel
theorem tau_rest : ∀ k < 15, dotf (List.replicate 15 1) (fun n => tau (k + 1) (n + 1)) % 17 = 16 := by decide +kernel
/-- the place that lies over against -/
def ng (d : Nat) : Nat := (8 - d % 8) % 8 + 8 * (d / 8)
theorem tau_orth : ∀ d < 16, ∀ n < 16, (((List.range 16).map fun k => tau k (ng d) * tau k n).sum - 16 * dl d n) % 17 = 0 := by decide +kernel
theorem tau_tot : ∀ d < 16, 1 ≤ d → ((List.range 16).map fun k => tau k (ng d)).sum % 17 = 0 := by decide +kernel
theorem tau_first : ∀ d < 16, ((List.range 16).map fun k => if k = 0 then tau k (ng d) else 0).sum = 1 := by decide +kernel
section
variable {K : List Nat} (hK : ∀ y ∈ K, y < 16)
include hK
theorem even_prod (h : EvenP (K.map abF)) {k : Nat} (hk : k < 15) : prodF (K.map abF) (k + 1) = ((cntF (K.map abF)).getD 0 0 - (cntF (K.map abF)).getD 1 0) % 17 := by
  rw [prodF_is hK (by omega), even_split (cnt_len _) h, tau_zero _ (by omega)]
  have w := tau_rest k hk
  generalize dotf (List.replicate 15 1) (fun n => tau (k + 1) (n + 1)) = W at w ⊢
  obtain ⟨q, rfl⟩ : ∃ q, W = 17 * q + 16 := ⟨W / 17, by omega⟩
  generalize (cntF (K.map abF)).getD 0 0 = c0
  generalize (cntF (K.map abF)).getD 1 0 = c1
  have e : c1 * (17 * q + 16) = 17 * (c1 * q) + 16 * c1 := by rw [Int.mul_add, Int.mul_left_comm, Int.mul_comm c1 16]
  rw [e]
  omega
theorem prod_cnt (h : ∀ k < 15, prodF (K.map abF) (k + 1) = prodF (K.map abF) 1) {d : Nat} (hd : d < 16) (h1 : 1 ≤ d) :
    (16 * (cntF (K.map abF)).getD d 0 - (dotf (cntF (K.map abF)) (tau 0) - prodF (K.map abF) 1)) % 17 = 0 := by
  generalize hp : prodF (K.map abF) 1 = p at h ⊢
  generalize hcs : cntF (K.map abF) = cs at h ⊢
  have hlen : cs.length = 16 := by rw [← hcs, cnt_len]
  have s1 := dotf_sum cs (fun k => tau k (ng d)) tau (List.range 16)
  have s2 := dotf_mod cs (fun n => ((List.range 16).map fun k => tau k (ng d) * tau k n).sum) (fun n => 16 * dl d n) (fun n hn => tau_orth d hd n (by rw [← hlen]; exact hn))
  rw [dotf_smul, dotf_dl] at s2
  have s3 := sum_mod (l := List.range 16) (f := fun k => tau k (ng d) * dotf cs (tau k)) (g := fun k => p * tau k (ng d) + (dotf cs (tau 0) - p) * (if k = 0 then tau k (ng d) else 0)) (fun k hk => by
    have hk := List.mem_range.mp hk
    by_cases e : k = 0
    · subst e
      simp only [if_true]
      have : tau 0 (ng d) * dotf cs (tau 0) - (p * tau 0 (ng d) + (dotf cs (tau 0) - p) * tau 0 (ng d)) = 0 := by
        rw [Int.sub_mul, Int.mul_comm (dotf cs (tau 0))]; omega
      rw [this]; rfl
    · simp only [if_neg e, Int.mul_zero, Int.add_zero]
      have hq : dotf cs (tau k) % 17 = p := by
        have := h (k - 1) (by omega)
        rw [show k - 1 + 1 = k by omega, prodF_is hK hk, hcs] at this
        exact this
      have : tau k (ng d) * dotf cs (tau k) - p * tau k (ng d) = tau k (ng d) * (dotf cs (tau k) - p) := by rw [Int.mul_sub, Int.mul_comm p]
      rw [this, Int.mul_emod, show (dotf cs (tau k) - p) % 17 = 0 by omega]
      simp)
  rw [sum_add, mul_sum, mul_sum, tau_first d hd, s1, Int.mul_one] at s3
  have t0 := tau_tot d hd h1
  generalize ((List.range 16).map fun k => tau k (ng d)).sum = T at t0 s3
  have : p * T % 17 = 0 := by rw [Int.mul_emod, t0]; simp
  omega
end
theorem keptN_nodup (bs : List Bool) : (keptN bs).Nodup := List.Pairwise.filter _ List.nodup_range
theorem plain1 {bs : List Bool} : EvenP ((keptN bs).map abF) ↔ ProdP ((keptN bs).map abF) := by
  have hK := keptN_lt (bs := bs)
  have hN := keptN_nodup bs
  have hl := keptN_len bs
  generalize keptN bs = K at hK hN hl
  constructor
  · intro h
    exact map15 fun k hk => by rw [even_prod hK h hk, even_prod hK h (k := 0) (by decide)]
  · intro h
    have h := map15_inv h
    refine even_of (cnt_len _) fun d hd h1 => ?_
    have a := prod_cnt hK h hd h1
    have b := prod_cnt hK h (d := 1) (by decide) (by decide)
    have c := cnt_bd hK hN hd
    have e := cnt_bd hK hN (d := 1) (by decide)
    omega
end Mine
namespace Mine
/-- a coordinate of a character's term in the eighth roots -/
def ee (i u : Nat) : Int := (if u = i then 1 else 0) - (if u = i + 4 then 1 else 0)
def eps (t i x : Nat) : Int := ee i (mm t x)
theorem tau_eps : ∀ t < 16, ∀ x < 16, (tau t x - (eps t 0 x + 2 * eps t 1 x + 4 * eps t 2 x + 8 * eps t 3 x)) % 17 = 0 := by decide +kernel
def q1 (u v : Nat) : Int := ee 0 u * ee 0 v + ee 1 u * ee 1 v + ee 2 u * ee 2 v + ee 3 u * ee 3 v
def q2 (u v : Nat) : Int := ee 0 u * ee 1 v + ee 1 u * ee 2 v + ee 2 u * ee 3 v + (-1) * ee 3 u * ee 0 v
def qd (t x y : Nat) : Int := q1 (mm t x) (mm t y)
def qs (t x y : Nat) : Int := q2 (mm t x) (mm t y)
theorem q1_tab : ∀ u < 8, ∀ v < 8, q1 u v = q1 ((u + 8 - v) % 8) 0 := by decide +kernel
theorem q2_tab : ∀ u < 8, ∀ v < 8, q2 u v = q2 ((u + 8 - v) % 8) 0 := by decide +kernel
theorem mm_zero (t : Nat) : mm t 0 = 0 := by simp [mm]
theorem qd_pair (t : Nat) (ht : t < 16) (x : Nat) (hx : x < 16) (y : Nat) (hy : y < 16) : qd t x y = qd t (ixN x y) 0 := by
  unfold qd
  rw [ix_px x hx y hy, mm_px t ht x hx y hy, mm_zero]
  exact q1_tab _ (mm_lt t x) _ (mm_lt t y)
theorem qs_pair (t : Nat) (ht : t < 16) (x : Nat) (hx : x < 16) (y : Nat) (hy : y < 16) : qs t x y = qs t (ixN x y) 0 := by
  unfold qs
  rw [ix_px x hx y hy, mm_px t ht x hx y hy, mm_zero]
  exact q2_tab _ (mm_lt t x) _ (mm_lt t y)
theorem qd_sum : ∀ k < 15, qd (k + 1) 0 0 = 1 ∧ dotf (List.replicate 15 1) (fun n => qd (k + 1) (n + 1) 0) = -1 := by decide +kernel
theorem qs_sum : ∀ k < 15, qs (k + 1) 0 0 = 0 ∧ dotf (List.replicate 15 1) (fun n => qs (k + 1) (n + 1) 0) = 0 := by decide +kernel
def chk (r a b c d : Nat) : Bool := !(r == 0 || r == 1 || r == 4) || !(decide (((a : Int) - 2) * ((a : Int) - 2) + ((b : Int) - 2) * ((b : Int) - 2) + ((c : Int) - 2) * ((c : Int) - 2) + ((d : Int) - 2) * ((d : Int) - 2) = (r : Int))) || !(decide (((a : Int) - 2) * ((b : Int) - 2) + ((b : Int) - 2) * ((c : Int) - 2) + ((c : Int) - 2) * ((d : Int) - 2) + (-1) * ((d : Int) - 2) * ((a : Int) - 2) = 0)) || decide (((((a : Int) - 2) + 2 * ((b : Int) - 2) + 4 * ((c : Int) - 2) + 8 * ((d : Int) - 2)) % 17) ^ 8 % 17 = min (r : Int) 1)
theorem chk_all : ∀ r < 5, ∀ a < 5, ∀ b < 5, ∀ c < 5, ∀ d < 5, chk r a b c d = true := by decide +kernel
theorem fin4 (r : Nat) (hr : r < 5) (h : r = 0 ∨ r = 1 ∨ r = 4) (a : Nat) (ha : a < 5) (b : Nat) (hb : b < 5) (c : Nat) (hc : c < 5) (d : Nat) (hd : d < 5) (h1 : ((a : Int) - 2) * ((a : Int) - 2) + ((b : Int) - 2) * ((b : Int) - 2) + ((c : Int) - 2) * ((c : Int) - 2) + ((d : Int) - 2) * ((d : Int) - 2) = (r : Int)) (h2 : ((a : Int) - 2) * ((b : Int) - 2) + ((b : Int) - 2) * ((c : Int) - 2) + ((c : Int) - 2) * ((d : Int) - 2) + (-1) * ((d : Int) - 2) * ((a : Int) - 2) = 0) : ((((a : Int) - 2) + 2 * ((b : Int) - 2) + 4 * ((c : Int) - 2) + 8 * ((d : Int) - 2)) % 17) ^ 8 % 17 = min (r : Int) 1 := by
  have z := chk_all r hr a ha b hb c hc d hd
  unfold chk at z
  rw [decide_eq_true h1, decide_eq_true h2] at z
  have e : (r == 0 || r == 1 || r == 4) = true := by rcases h with h | h | h <;> subst h <;> rfl
  rw [e] at z
  simpa using z
theorem sq_nonneg (e : Int) : 0 ≤ e * e := by
  rcases Int.le_total 0 e with h | h
  · exact Int.mul_nonneg h h
  · exact Int.mul_nonneg_of_nonpos_of_nonpos h h
theorem sq_small {e : Int} (h : e * e ≤ 4) : -2 ≤ e ∧ e ≤ 2 := by
  constructor
  · apply Decidable.byContradiction
    intro q
    have : 3 * 3 ≤ (-e) * (-e) := Int.mul_le_mul (by omega) (by omega) (by decide) (by omega)
    rw [Int.neg_mul_neg] at this
    omega
  · apply Decidable.byContradiction
    intro q
    have : 3 * 3 ≤ e * e := Int.mul_le_mul (by omega) (by omega) (by decide) (by omega)
    omega
theorem fin5 {e0 e1 e2 e3 r : Int} (hr : r = 0 ∨ r = 1 ∨ r = 4) (h1 : e0 * e0 + e1 * e1 + e2 * e2 + e3 * e3 = r) (h2 : e0 * e1 + e1 * e2 + e2 * e3 + (-1) * e3 * e0 = 0) :
    ((e0 + 2 * e1 + 4 * e2 + 8 * e3) % 17) ^ 8 % 17 = min r 1 := by
  have a0 := sq_nonneg e0
  have a1 := sq_nonneg e1
  have a2 := sq_nonneg e2
  have a3 := sq_nonneg e3
  have b0 := sq_small (e := e0) (by omega)
  have b1 := sq_small (e := e1) (by omega)
  have b2 := sq_small (e := e2) (by omega)
  have b3 := sq_small (e := e3) (by omega)
  have z := fin4 r.toNat (by omega) (by omega) (e0 + 2).toNat (by omega) (e1 + 2).toNat (by omega) (e2 + 2).toNat (by omega) (e3 + 2).toNat (by omega)
  rw [show (((e0 + 2).toNat : Nat) : Int) - 2 = e0 by omega, show (((e1 + 2).toNat : Nat) : Int) - 2 = e1 by omega, show (((e2 + 2).toNat : Nat) : Int) - 2 = e2 by omega, show (((e3 + 2).toNat : Nat) : Int) - 2 = e3 by omega,
    show ((r.toNat : Nat) : Int) = r by omega] at z
  exact z h1 h2
section
variable {K : List Nat} (hK : ∀ y ∈ K, y < 16)
include hK
theorem ep_sum (t : Nat) (ht : t < 16) : ((K.map (tau t)).sum - ((K.map (eps t 0)).sum + 2 * (K.map (eps t 1)).sum + 4 * (K.map (eps t 2)).sum + 8 * (K.map (eps t 3)).sum)) % 17 = 0 := by
  have z := sum_mod (l := K) (f := tau t) (g := fun x => eps t 0 x + 2 * eps t 1 x + 4 * eps t 2 x + 8 * eps t 3 x) fun x hx => tau_eps t ht x (hK x hx)
  rw [sum_add, sum_add, sum_add, mul_sum, mul_sum, mul_sum] at z
  exact z
theorem ep_sq (h : EvenP (K.map abF)) {k : Nat} (hk : k < 15) :
    (K.map (eps (k + 1) 0)).sum * (K.map (eps (k + 1) 0)).sum + (K.map (eps (k + 1) 1)).sum * (K.map (eps (k + 1) 1)).sum + (K.map (eps (k + 1) 2)).sum * (K.map (eps (k + 1) 2)).sum + (K.map (eps (k + 1) 3)).sum * (K.map (eps (k + 1) 3)).sum
     = (cntF (K.map abF)).getD 0 0 - (cntF (K.map abF)).getD 1 0 := by
  have z : dbl K (qd (k + 1)) = (K.map (eps (k + 1) 0)).sum * (K.map (eps (k + 1) 0)).sum + (K.map (eps (k + 1) 1)).sum * (K.map (eps (k + 1) 1)).sum + (K.map (eps (k + 1) 2)).sum * (K.map (eps (k + 1) 2)).sum + (K.map (eps (k + 1) 3)).sum * (K.map (eps (k + 1) 3)).sum := by
    rw [← dbl_mul, ← dbl_mul, ← dbl_mul, ← dbl_mul, ← dbl_add, ← dbl_add, ← dbl_add]
    rfl
  rw [← z, dbl_congr hK (qd_pair (k + 1) (by omega)), ← dot_cnt (fun d => qd (k + 1) d 0) hK, even_split (cnt_len _) h, (qd_sum k hk).1, (qd_sum k hk).2]
  omega
theorem ep_sh (h : EvenP (K.map abF)) {k : Nat} (hk : k < 15) :
    (K.map (eps (k + 1) 0)).sum * (K.map (eps (k + 1) 1)).sum + (K.map (eps (k + 1) 1)).sum * (K.map (eps (k + 1) 2)).sum + (K.map (eps (k + 1) 2)).sum * (K.map (eps (k + 1) 3)).sum + (-1) * (K.map (eps (k + 1) 3)).sum * (K.map (eps (k + 1) 0)).sum = 0 := by
  have z : dbl K (qs (k + 1)) = (K.map (eps (k + 1) 0)).sum * (K.map (eps (k + 1) 1)).sum + (K.map (eps (k + 1) 1)).sum * (K.map (eps (k + 1) 2)).sum + (K.map (eps (k + 1) 2)).sum * (K.map (eps (k + 1) 3)).sum + (-1) * (K.map (eps (k + 1) 3)).sum * (K.map (eps (k + 1) 0)).sum := by
    rw [← mul_sum (-1), ← dbl_mul, ← dbl_mul, ← dbl_mul, ← dbl_mul, ← dbl_add, ← dbl_add, ← dbl_add]
    rfl
  rw [← z, dbl_congr hK (qs_pair (k + 1) (by omega)), ← dot_cnt (fun d => qs (k + 1) d 0) hK, even_split (cnt_len _) h, (qs_sum k hk).1, (qs_sum k hk).2]
  omega
end
theorem size_tab : ∀ k : Nat, k < 17 → ((k : Int) * k - k) % 15 = 0 → (k = 0 ∨ k = 1 ∨ k = 6 ∨ k = 10 ∨ k = 15 ∨ k = 16) ∧ ((k : Int) - ((k : Int) * k - k) / 15 = 0 ∨ (k : Int) - ((k : Int) * k - k) / 15 = 1 ∨ (k : Int) - ((k : Int) * k - k) / 15 = 4) := by decide
theorem tail_map (f : Nat → Int) : List.map powF (List.drop 1 (List.map f (List.range (2 * 8)))) = List.map (fun k => powF (f (k + 1))) (List.range 15) := rfl
theorem plain2 {bs : List Bool} (h : EvenP ((keptN bs).map abF)) : ((keptN bs).length = 0 ∨ (keptN bs).length = 1 ∨ (keptN bs).length = 6 ∨ (keptN bs).length = 10 ∨ (keptN bs).length = 15 ∨ (keptN bs).length = 16) ∧
    prodF ((keptN bs).map abF) 1 = (cntF ((keptN bs).map abF)).getD 0 0 - (cntF ((keptN bs).map abF)).getD 1 0 ∧
    List.map powF (List.drop 1 (List.map (sumF ((keptN bs).map abF)) (List.range (2 * 8)))) = (List.replicate (Int.toNat 15) [min ((cntF ((keptN bs).map abF)).getD 0 0 - (cntF ((keptN bs).map abF)).getD 1 0) 1]).flatten := by
  have hK := keptN_lt (bs := bs)
  have hN := keptN_nodup bs
  have hl := keptN_len bs
  generalize keptN bs = K at h hK hN hl ⊢
  have t1 := cnt_tot hK
  rw [even_split (cnt_len _) h, show dotf (List.replicate 15 1) (fun _ => 1) = 15 from rfl] at t1
  have t0 := cnt_zero hK hN
  have hc : (K.length = 0 ∨ K.length = 1 ∨ K.length = 6 ∨ K.length = 10 ∨ K.length = 15 ∨ K.length = 16) ∧
     ((cntF (K.map abF)).getD 0 0 - (cntF (K.map abF)).getD 1 0 = 0 ∨ (cntF (K.map abF)).getD 0 0 - (cntF (K.map abF)).getD 1 0 = 1 ∨ (cntF (K.map abF)).getD 0 0 - (cntF (K.map abF)).getD 1 0 = 4) := by
    rw [t0] at t1 ⊢
    generalize (cntF (K.map abF)).getD 1 0 = c1 at t1 ⊢
    clear h t0
    have z := size_tab K.length (Nat.lt_succ_of_le hl)
    generalize (K.length : Int) * K.length = q at t1 z
    have e1 : (q - K.length) % 15 = 0 := by omega
    have e2 : (q - K.length) / 15 = c1 := by omega
    rw [e2] at z
    exact z e1
  refine ⟨hc.1, ?_, ?_⟩
  · have := even_prod hK h (k := 0) (by decide)
    rw [this]
    rcases hc.2 with e | e | e <;> rw [e] <;> rfl
  · rw [tail_map]
    refine map15 fun k hk => ?_
    have z := fin5 hc.2 (ep_sq hK h hk) (ep_sh hK h hk)
    have y := ep_sum hK (k + 1) (by omega)
    unfold powF
    rw [sumF_is, Int.fmod_eq_emod_of_nonneg _ (by decide), ← z]
    generalize (K.map (tau (k + 1))).sum = S at y ⊢
    generalize (K.map (eps (k + 1) 0)).sum + 2 * (K.map (eps (k + 1) 1)).sum + 4 * (K.map (eps (k + 1) 2)).sum + 8 * (K.map (eps (k + 1) 3)).sum = T at y ⊢
    rw [show S % 17 = T % 17 by omega]
end Mine
namespace Mine
section
local macro_rules | `(tactic| walk_at "call ref") => `(tactic| (k_here; (with_reducible show wpAny _ _ (PySem.call (Value.ref _) _) _ _ _); k_dflt (show Hold (wpAny _ _ (PySem.call _ _) _ _ _))))
local macro_rules | `(tactic| walk_at "compareOp NotEq ref ref") => `(tactic| (k_here; (with_reducible show wpAny _ _ (compareOp CmpOp.NotEq (Value.ref _) (Value.ref _)) _ _ _); (with_reducible rename All2 _ _ (List.map (compF _) _) => hcmp'); k_dflt (show Hold (wpAny _ _ (compareOp _ _ _) _ _ _))))
local macro_rules | `(tactic| walk_at "eval ListComp") => `(tactic| (k_here; (with_reducible show wpAny _ _ (PySem.eval (Expr.ListComp _ _ _ _) _) _ _ _); k_dflt (show Hold (wpAny _ _ (PySem.eval _ _) _ _ _))))
local macro_rules | `(tactic| walk_at "exec Assign cons ListComp") => `(tactic| (k_here; (with_reducible show wpAny _ _ (PySem.exec (Stmt.Assign _ (Expr.ListComp _ _ _ _) _) _) _ _ _); k_dflt (show Hold (wpAny _ _ (PySem.exec _ _) _ _ _))))
local macro_rules | `(tactic| walk_at "CompSrc") => `(tactic| (k_here; k_dflt (show Hold (LCg.CompSrc _ _ _ _ _ _ _ _ _ _ _ _ _ _))))
local macro_rules | `(tactic| walk_at "CompSrcT") => `(tactic| (k_here; k_dflt (show Hold (LCt.CompSrcT _ _ _ _ _ _ _ _ _ _ _ _ _ _ _))))
local macro_rules | `(tactic| walk_at "SrcLP") => `(tactic| (k_here; k_dflt (show Hold (LCp.SrcLP _ _ _ _ _ _ _ _ _ _ _ _ _ _ _))))
local macro_rules | `(tactic| walk_at "Src3") => `(tactic| (k_here; k_dflt (show Hold (Src3 _ _ _ _ _ _ _ _ _ _ _ _ _ _ _ _))))
local macro_rules | `(tactic| walk_at "Src2") => `(tactic| (k_here; k_dflt (show Hold (Src2 _ _ _ _ _ _ _ _ _ _ _ _ _ _ _ _))))
local macro_rules | `(tactic| walk_at "subscriptTail Name BinOp ref int") => `(tactic| (k_here; (with_reducible show wpAny _ _ (subscriptTail _ _ (Value.ref _) (Value.int _ _)) _ _ _); k_dflt (refine' sub_at ?N ?m ?a ?b ?x ?_; (case N => k_asm); (case m => k_mem); (case a => assumption); (case b => omega); (case x => assumption); k_whole)))
local macro_rules | `(tactic| walk_at "subscriptTail Name Name ref int") => `(tactic| (k_here; (with_reducible show wpAny _ _ (subscriptTail _ _ (Value.ref _) (Value.int _ _)) _ _ _); k_dflt (refine' sub_at ?N ?m ?a ?b ?x ?_; (case N => k_asm); (case m => k_mem); (case a => assumption); (case b => omega); (case x => assumption); k_whole)))
local macro_rules | `(tactic| k_all) => `(tactic| assumption)
local macro_rules | `(tactic| walk_at "binaryOp Mult int int") => `(tactic| (k_here; with_reducible refine mul_int ?_ (by assumption)))
local macro_rules | `(tactic| walk_at "subscriptTail Name Slice ref ref") => `(tactic| (k_here; (with_reducible show wpAny _ _ (subscriptTail _ (PySem.Expr.Slice _ _ none _) (Value.ref _) (Value.ref _)) _ _ _); k_dflt (refine' kmk_slice_ints ?F ?N ?l ?p ?q ?i ?m ?c ?_ ?s ?t ?z; (case F => k_asm); (case N => k_asm); (case l => kmk_list); (case p => exact IsPart.int _ _); (case q => exact IsPart.none); (case i => assumption); (case m => exact kmk_from (by assumption) (by decide)); (case c => exact List.length_drop ..); (case s => with_unfolding_all rfl); (case t => kmk_pure); (case z => assumption)); intro D' ws' h' F' N' l1 hI' hC' hL'; clear hC' hL'; (try simp only [Int.reduceToNat] at hI'); (try k_lt l1)))
local macro_rules | `(tactic| walk_at "subscriptTail Name Constant ref int") => `(tactic| (k_here; (with_reducible show wpAny _ _ (subscriptTail _ _ (Value.ref _) (Value.int _ _)) _ _ _); k_dflt (refine' sub_at ?N ?m ?a ?b ?x ?_; (case N => k_asm); (case m => k_mem); (case a => decide); (case b => decide); (case x => assumption); k_whole)))
local macro_rules | `(tactic| walk_at "call builtin:len") => `(tactic| (k_here; (with_reducible show wpAny _ _ (PySem.call (Value.builtin "len") [Value.ref _]) _ _ _); k_dflt (show Hold (wpAny _ _ (PySem.call _ _) _ _ _))))
theorem t1 : PySem.Challenge.rw_tr0012_01.Holds := hd (by
  w_strict (
    k_go0; (all_goals try k_fold)
    k_steps
    k_dflt ((with_reducible rename IntsAre _ _ => hIA'); (with_reducible rename Heap.IsList _ _ _ => hIL'); (refine' c_kept _ _ _ _ _ _ _ _ _ hIA' ?hn _ _ _ _ _ _ _ _ _ _ _ _ _ _ _ _ _ _ ?k1 ?k2 ?k3 ?k4 ?k5 ?kK ?kd ?ku hIL' ?_); (case hn => omega); (case k1 => k_asm); (case k2 => k_asm); (case k3 => k_asm); (case k4 => ((with_reducible rename News _ _ _ _ => N9'); exact N9')); (case k5 => k_asm); (case kK => first | exact rfl | assumption); (case kd => decide); (case ku => decide); intro v' h' tk' tl' F' N' l1' R'; obtain ⟨D', k', bs', hb', e1', e2'⟩ := R'; subst e1'; subst e2'; (try simp only [List.cons_append, List.nil_append] at N'); (have l2' := off1_of (D := D') (l1' _ (List.Mem.head _))); clear l1'; (try simp only [LCg.Off1, and_true] at l2'))
    k_steps
    k_dflt (refine LCt.Assign_ListComp_T (F₀ := by k_asm) (by rfl) (by with_unfolding_all rfl) (by with_unfolding_all rfl) (by decide) (by rfl) (by decide) (by rfl) (by rfl) (by rfl) ?_)
    k_steps
    with_reducible rename Fr _ _ _ _ => F9
    with_reducible rename News _ _ _ _ => N9
    rename List Bool => bs
    with_reducible rename List.length bs = 16 => hbs
    generalize hn9 : List.cons _ _ = n9 at N9
    refine LCt.CompSrcT.range (n := 16) (by rfl) F9 N9 (by assumption) (by decide) (by decide) (by rw [sizeLine_eq]; decide) (fun g8 => restT_inv 16 (fun i ys n1 => n9 = n1 ∧ IntsAre ys (keptI bs i)) ?_ ?_ 16 0 [] n9 rfl ⟨rfl, .nil⟩)
    · rintro i ys _ hi ⟨rfl, hys⟩ v I oI C oC D m₂ h tk E' ⟨t, rfl⟩ hC hx F' N' off ne
      rw [Int.zero_add] at hx
      have hi0 : (0 : Int) ≤ (i : Int) := Int.natCast_nonneg i
      have hbg := bools_at hbs hi
      subst hn9
      k_steps
      · with_reducible rename Fr _ _ _ _ => F8
        with_reducible rename News _ _ _ _ => N8
        exact ⟨_, _, _, rfl, F8, N8, off, trivial, rfl, ints_kT (by assumption) hys⟩
      · with_reducible rename Fr _ _ _ _ => F8
        with_reducible rename News _ _ _ _ => N8
        exact ⟨_, _, _, rfl, F8, N8, off, trivial, rfl, ints_kF (by first | assumption | (rw [← Bool.not_eq_true]; assumption)) hys⟩
    · rintro ys _ ⟨rfl, hys⟩
      subst hn9
      k_steps
      k_dflt (refine wpAny_Assign_Name ?_)
      k_steps
      k_dflt (refine LCg.ListComp_U (F₀ := by k_asm) (by with_unfolding_all rfl) (by decide) (by rfl) (by decide) (by rfl) ?_)
      k_steps
      with_reducible rename Fr _ _ _ _ => F9
      with_reducible rename News _ _ _ _ => N9
      generalize hn9 : List.cons _ _ = n9 at N9
      refine LCg.CompSrc.range (n := 16) (by rfl) F9 N9 (by assumption) (by decide) (by decide) (by rw [sizeLine_eq]; decide) (fun g8 => rest_inv 16 (fun i ys n1 => ∃ ext, n9 ++ ext = n1 ∧ (∀ p ∈ ext, AllLt p.1 n9) ∧ All2 (IsSS ext) ys ((List.range i).map (bookF bs))) ?_ ?_ 16 0 [] n9 rfl ⟨[], List.append_nil _, (fun _ h => nomatch h), trivial⟩)
      · rintro i ys _ hi ⟨ext, rfl, hord, hys⟩ v I oI C oC D m₂ h tk E' ⟨t, rfl⟩ hC hx F' N' off ne
        rw [Int.zero_add] at hx
        have hi0 : (0 : Int) ≤ (i : Int) := Int.natCast_nonneg i
        have hbg := bools_at hbs hi
        subst hn9
        simp only [List.cons_append, List.nil_append] at N' off
        k_steps
        k_dflt ((refine' c_replyB _ _ _ _ _ _ _ _ _ ?h0 ?h1 _ _ _ _ _ _ _ _ _ _ _ _ _ _ _ _ _ _ ?k1 ?k2 ?k3 ?k4 ?k5 ?kK ?kd ?ku ?_); (case h0 => assumption); (case h1 => exact Int.ofNat_lt.mpr hi); (case k1 => k_asm); (case k2 => k_asm); (case k3 => k_asm); (case k4 => ((with_reducible rename News _ _ _ _ => N9'); exact N9')); (case k5 => k_asm); (case kK => first | exact rfl | assumption); (case kd => decide); (case ku => decide); intro v' h' tk' tl' F' N' l1' R'; obtain ⟨t', e1', e2'⟩ := R'; subst e1'; subst e2'; (try simp only [List.cons_append, List.nil_append] at N'); clear l1')
        k_steps
        with_reducible rename Fr _ _ _ _ => F8
        with_reducible rename News _ _ _ _ => N8
        with_reducible rename _ ∧ _ => l8
        exact comp_grow (c := [_, _, _, _, _, _]) F8 N8 off l8 trivial ⟨_ :: ext, rfl, newer_cons hord (allLt_left (c := [_, _, _, _, _, _]) l8.2.2.2), ss_snoc (f := bookF bs) hys⟩
      · rintro ys _ ⟨ext, rfl, hord, hbook⟩
        subst hn9
        obtain ⟨c4, hc4, hord4⟩ := name4 hord
        simp only [AllLt, and_true] at hord
        have a2 : ∀ p ∈ ext, p.1 ≠ _ := fun p hp => Nat.ne_of_gt (hord p hp).2.2.2.2.1
        simp only [List.cons_append, List.nil_append]
        k_steps
        k_dflt ((refine' c_valid _ _ _ _ _ _ _ _ _ _ _ ?hP (All2.mono (IsSS.mono ?hm) ?hb) ?hl _ _ _ _ _ _ _ _ _ _ _ _ _ _ _ _ _ ?k1 ?k2 ?k3 ?k4 ?k5 ?kK ?kd ?ku ?_); (case k4 => ((with_reducible rename News _ _ _ _ => N9'); exact N9')); (case hP => k_mem); (case hb => assumption); (case hm => (intro q' hq'; (repeat (refine List.Mem.tail _ ?_)); exact hq')); (case hl => exact Nat.le_of_eq (by simp)); (case k1 => k_asm); (case k2 => k_asm); (case k3 => k_asm); (case k5 => k_asm); (case kK => first | exact rfl | assumption); (case kd => decide); (case ku => decide); intro v' h' tk' tl' F' N' l1' R'; obtain ⟨D', ys', ext', e1', e2', hv'⟩ := R'; subst e1'; subst e2'; (try simp only [List.cons_append, List.nil_append] at N'); (have l3' := fun q hq => allLt_of (d := Prod.fst q) (l1' q hq)); clear l1')
        k_steps
        k_dflt (refine LCg.ListComp_U (F₀ := by k_asm) (by with_unfolding_all rfl) (by decide) (by rfl) (by decide) (by rfl) ?_)
        k_steps
        with_reducible rename Fr _ _ _ _ => F9
        with_reducible rename News _ _ _ _ => N9
        with_reducible rename All2 _ _ (List.map validF _) => hvalid
        with_reducible rename ∀ q, q ∈ _ → AllLt _ _ => l3
        rename List (Addr × Obj) => ext1
        obtain ⟨N8, hvalid2⟩ := led_turn2 (c := [_, _, _, _, _, _, _]) N9 hvalid
        have hord5 : ∀ p ∈ ext1 ++ ext, AllLt p.1 c4 := fun p hp => (List.mem_append.mp hp).elim (fun h => by
          have z := l3 p (.tail _ h)
          simp only [AllLt] at z
          rw [← hc4]
          exact ⟨z.2.2.2.1, z.2.2.2.2.1, z.2.2.2.2.2.1, z.2.2.2.2.2.2.1, trivial⟩) (hord4 p)
        have hv3 := l3 _ (.head _)
        simp only [AllLt] at hv3
        have hbook2 := All2.mono (IsSS.mono fun _ h => List.mem_append_right ext1 h) hbook
        clear N9 hvalid l3
        generalize he0 : ext1 ++ ext = e0 at N8 hord5 hbook2 hvalid2
        have N7 : News _ _ _ ([_, _, _, _, _, _, _, _] ++ e0) := N8
        have hvalid3 : All2 (IsSS ([_, _, _, _, _, _, _, _] ++ e0)) _ _ := hvalid2
        clear N8 hvalid2
        generalize hc8 : List.cons _ _ = c8 at N7 hvalid3
        refine LCg.CompSrc.range (n := 16) (by rfl) F9 N7 (by assumption) (by decide) (by decide) (by rw [sizeLine_eq]; decide) (fun g8 => rest_inv 16 (fun i zs n1 => ∃ e, c8 ++ e = n1 ∧ (∀ p ∈ e0, p ∈ e) ∧ (∀ p ∈ e, AllLt p.1 c4) ∧ All2 (IsSS e) zs ((List.range i).map (compF bs))) ?_ ?_ 16 0 [] (c8 ++ e0) rfl ⟨e0, rfl, fun _ h => h, hord5, trivial⟩)
        · rintro i zs _ hi ⟨e, rfl, hsub, hord6, hzs⟩ v I oI C oC D m₂ h tk E' ⟨t, rfl⟩ hC hx F' N' off ne
          rw [Int.zero_add] at hx
          have hi0 : (0 : Int) ≤ (i : Int) := Int.natCast_nonneg i
          have hbg := bools_at hbs hi
          obtain ⟨vb, hvb, Tb, t1, t2, rfl, hTb⟩ := hbook2.at (range_map_at hi)
          have hvb' := toArr_at hvb
          subst hc8
          simp only [List.cons_append, List.nil_append] at N' off
          k_steps
          · with_reducible rename Fr _ _ _ _ => F8
            with_reducible rename News _ _ _ _ => N8
            exact ⟨_, _, _, rfl, F8, N8, off, trivial, e, rfl, hsub, hord6, ss_old (f := compF bs) (if_pos (by assumption)) (hsub _ hTb) hzs⟩
          · with_reducible rename Fr _ _ _ _ => F8
            with_reducible rename News _ _ _ _ => N8
            with_reducible rename _ ∧ _ => l8
            refine comp_grow (c := [_, _, _, _, _, _, _, _]) F8 N8 off l8 trivial ⟨_ :: e, rfl, fun p hp => .tail _ (hsub p hp), newer_cons hord6 ?_, ss_old (f := compF bs) (d := (Str.ofString "", Str.ofString "")) (if_neg (by first | assumption | (rw [Bool.not_eq_true]; assumption))) (.head _) (All2.mono (IsSS.mono fun _ h => .tail _ h) hzs)⟩
            rw [← hc4]
            exact ⟨l8.2.2.2.2.2.2.2.1, l8.2.2.2.2.2.2.2.2.1, l8.2.2.2.2.2.2.2.2.2.1, l8.2.2.2.2.2.2.2.2.2.2.1, trivial⟩
        · rintro zs _ ⟨e, rfl, hsub, hord6, hzs⟩
          subst hc8
          simp only [List.cons_append, List.nil_append]
          k_steps
          with_reducible rename Fr _ _ _ _ => F8
          with_reducible rename News _ _ _ _ => N8
          rw [valid_all] at hvalid3
          refine ne_ss N8 (.tail _ (.head _)) (.head _) (ss_swap (c := [_, _, _, _, _, _, _, _]) hsub hvalid3) (ss_tail (c := [_, _, _, _, _, _, _, _, _]) (by assumption)) (comp_ok_all bs) (by units_room) ?_
          have hv5 := ss_loc (c := [_, _, _, _, _, _, _, _]) (e := e0) ⟨noTup_list, noTup_list, noTup_list, noTup_list, noTup_cell (by assumption), noTup_cell (by assumption), noTup_cell (by assumption), noTup_cell (by assumption), trivial⟩ hvalid3
          k_steps
          with_reducible rename Fr _ _ _ _ => F8
          with_reducible rename News _ _ _ _ => N8
          have N9 := led_pick N8 hsub
          have F9 := F8
          clear N7 N8 F8 hbook hbook2 hvalid3
          k_dflt (refine' c_paints _ _ _ _ _ _ _ _ _ (entL bs) _ (.head _) (ent_all (ss_tail (c := [_, _, _, _]) hv5)) (ent_len bs) (ent_in bs) _ _ _ _ _ _ _ _ _ _ _ _ _ _ _ ?k1 ?k2 ?k3 ?k4 ?k5 ?kK ?kd ?ku ?_; (case k1 => k_asm); (case k2 => k_asm); (case k3 => k_asm); (case k4 => exact N9); (case k5 => k_asm); (case kK => first | exact rfl | assumption); (case kd => decide); (case ku => decide))
          intro v' h' tk' tl' F' N' l1' R'
          obtain ⟨D', pys, ext', rfl, rfl, hp'⟩ := R'
          obtain ⟨e1, N7, hord7, hpt, lp⟩ := after_paints N' l1' ⟨noTup_list, noTup_list, noTup_cell (by assumption), noTup_cell (by assumption), trivial⟩ hp' hc4 hord5
          clear N' N9 F9 hp' hv5
          with_reducible rename All2 _ _ (List.map (compF _) _) => hcmp8
          clear hcmp8
          obtain ⟨lp1, lp2, lp3⟩ := lp
          have lq1 := Nat.ne_of_lt lp1
          have lq2 := Nat.ne_of_lt lp2
          have lq3 := Nat.ne_of_lt lp3
          dsimp only at lp1 lp2 lp3 lq1 lq2 lq3
          k_steps
          k_dflt (refine LCp.Assign_ListComp_P (F₀ := by k_asm) (by rfl) (by with_unfolding_all rfl) (by with_unfolding_all rfl) (by decide) (by rfl) (by decide) (by rfl) (by rfl) (by decide) (by rfl) (by rfl) ?_)
          k_steps
          with_reducible rename Fr _ _ _ _ => F9
          with_reducible rename News _ _ _ _ => N9
          have N6 : News _ _ _ ([_, _, _, _] ++ e1) := N9
          generalize hc9 : List.cons _ _ = c9 at N6
          generalize hc2 : List.cons _ _ = c2 at hord7
          refine LCp.SrcLP.ledger (ax := D') (its := pys.toArray) (k := pys.length) (by rfl) F9 N6 (by rw [← hc9]; exact .head _) ?_ (fun g8 => restP_inv _ (fun i ys n1 => ∃ e, c9 ++ e = n1 ∧ (∀ p ∈ e1, p ∈ e) ∧ (∀ p ∈ e, AllLt p.1 c2) ∧ All2 (ColR e) ys ((keptN bs).take i)) ?_ ?_ _ 0 [] _ (Nat.zero_add _) ⟨e1, rfl, fun _ h => h, hord7, trivial⟩)
          · exact sz16 (by rw [List.size_toArray, hpt.len]; exact keptN_len bs)
          · rintro i ys _ hi ⟨e, rfl, hsub2, hord8, hys⟩ v hv
            obtain ⟨j, hj, T1, t, U, ta, tb, tc, rfl, hT, hU⟩ := hpt.get (by simpa using hv)
            have hok := hls_ok j (keptN_lt j (List.mem_of_getElem? hj))
            refine ⟨T1, _, .str _ t, .ref U, 0, rfl, List.mem_append_right _ (hsub2 _ hT), rfl, rfl, ?_⟩
            intro I oI C oC D m₂ h tk E' hC ha hb F' N' off ne
            subst hc9
            have N5 := led_more N' (.tail _ (.tail _ (.tail _ (List.mem_append_right _ (hsub2 _ hU)))))
            clear N'
            simp only [List.cons_append, List.nil_append] at N5 off
            k_steps
            k_dflt ((refine' c_hls _ _ _ _ _ _ _ _ _ _ _ _ _ ?h0 _ _ _ _ _ _ _ _ _ _ _ _ _ _ _ _ _ ?k1 ?k2 ?k3 ?k4 ?k5 ?kK ?kd ?ku ?_); (case h0 => assumption); (case k1 => k_asm); (case k2 => k_asm); (case k3 => k_asm); (case k4 => ((with_reducible rename News _ _ _ _ => N9'); exact N9')); (case k5 => k_asm); (case kK => first | exact rfl | assumption); (case kd => decide); (case ku => decide); intro v' h' tk' tl' F' N' l1' R'; obtain ⟨D', a', b', c', t', u', v', e1', e2', e3'⟩ := R'; subst e1'; subst e2'; (try simp only [List.cons_append, List.nil_append] at N'); (have l2' := allLt_of (d := D') (l1' _ (List.Mem.head _))); clear l1'; (try simp only [AllLt, and_true] at l2'))
            k_steps
            with_reducible rename Fr _ _ _ _ => F8
            with_reducible rename News _ _ _ _ => N8
            with_reducible rename _ ∧ _ => l8
            with_reducible rename (_, _, _) = _ => e8
            refine comp_grow (c := [_, _, _, _]) F8 (led_12 N8) off l8.2 (.inr ⟨_, .head _, rfl, _, rfl⟩) ⟨_ :: e, rfl, fun p hp => .tail _ (hsub2 p hp), newer_cons hord8 ?_, col_snoc hj e8 hys⟩
            rw [← hc2]
            exact ⟨l8.2.2.2.2.2.2.1, l8.2.2.2.2.2.2.2.1, trivial⟩
          · rintro ys _ ⟨e, rfl, hsub2, hord8, hcols⟩
            subst hc9
            rw [take_all (by rw [List.size_toArray, hpt.len])] at hcols
            simp only [List.cons_append, List.nil_append]
            clear hord7
            k_steps
            k_dflt (refine wpAny_Assign_Name ?_)
            k_steps
            k_dflt (refine tri_comp (_F₀ := by k_asm) (by with_unfolding_all rfl) (by decide) (by rfl) (by decide) (by rfl) (by rfl) (by rfl) (by decide) (by decide) (by decide) ?_)
            k_steps
            with_reducible rename Fr _ _ _ _ => F9
            with_reducible rename News _ _ _ _ => N9
            clear N6
            have N6 : News _ _ _ ([_, _, _, _, _] ++ e) := N9
            generalize hc9 : List.cons _ _ = c9 at N6
            refine ⟨_, ys.toArray, ys.length, fun i zs n1 => ∃ e', c9 ++ e' = n1 ∧ (∀ p ∈ e, p ∈ e') ∧ (∀ p ∈ e', AllLt p.1 c2) ∧ All2 (IsII e') zs (((keptN bs).take i).map abF), _, rfl, by rfl, F9, N6, ?_, ?_, ⟨e, rfl, fun _ h => h, hord8, trivial⟩, ?_, ?_⟩
            · exact sz16 (by rw [List.size_toArray, hcols.len]; exact keptN_len bs)
            · rintro i zs _ ⟨e', rfl, _⟩; rw [← hc9]; exact .head _
            · rintro g i zs _ hi ⟨e', rfl, hsub3, hord9, hzs⟩ v hv
              obtain ⟨j, hj, T1, a, b, c, ta, tb, tc, rfl, hT, hcol⟩ := hcols.get (by simpa using hv)
              refine ⟨T1, .float a ta, .float b tb, .float c tc, rfl, List.mem_append_right _ (hsub3 _ hT), ?_⟩
              have hj16 := keptN_lt j (List.mem_of_getElem? hj)
              have ea : a = (colF j).1 := congrArg (fun x => x.1) hcol
              have eb : b = (colF j).2.1 := congrArg (fun x => x.2.1) hcol
              subst ea; subst eb
              have f1 := hue_nan j hj16
              have f2 := hue_inf2 j hj16
              have f3 := lig_nan j hj16
              have f4 := lig_inf2 j hj16
              have f5 := hue_is j hj16
              have f6 := lig_is j hj16
              intro I oI C oC D m₂ h tk E' hC ha hb hc F' N' off ne
              subst hc9
              simp only [List.cons_append, List.nil_append] at N' off
              k_steps
              with_reducible rename Fr _ _ _ _ => F8
              with_reducible rename News _ _ _ _ => N8
              with_reducible rename _ ∧ _ => l8
              refine comp_grow (c := [_, _, _, _, _]) F8 N8 off l8 trivial ⟨_ :: e', rfl, fun p hp => .tail _ (hsub3 p hp), newer_cons hord9 ?_, ii_snoc hj f5 f6 hzs⟩
              rw [← hc2]
              exact ⟨l8.2.2.2.2.2.2.1, l8.2.2.2.2.2.2.2.1, trivial⟩
            · rintro D h tk zs _ ⟨e', rfl, hsub3, hord9, htold⟩ F' N' off'
              rw [take_all (by rw [List.size_toArray, hcols.len])] at htold
              subst hc9
              simp only [List.cons_append, List.nil_append, LCg.Off1] at N' off'
              subst hc2
              simp only [AllLt, and_true] at hord9
              have a3 : ∀ p ∈ e', p.1 ≠ _ := fun p hp => Nat.ne_of_gt (hord9 p hp).2
              k_steps
              k_dflt (refine LCp.ListComp_P (F₀ := by k_asm) (by with_unfolding_all rfl) (by decide) (by rfl) (by decide) (by rfl) (by rfl) (by decide) ?_)
              k_steps
              with_reducible rename Fr _ _ _ _ => F9
              with_reducible rename News _ _ _ _ => N9
              have N6 : News _ _ _ ([_, _, _, _, _, _] ++ e') := N9
              generalize hc9 : List.cons _ _ = c9 at N6
              refine LCp.SrcLP.ledger (ax := D') (its := pys.toArray) (k := pys.length) (by rfl) F9 N6 (by rw [← hc9]; exact .tail _ (.tail _ (.head _))) ?_ (fun g8 => restP_inv _ (fun i us n1 => c9 ++ e' = n1 ∧ IntsAre us (((keptN bs).take i).map Int.ofNat)) ?_ ?_ _ 0 [] _ (Nat.zero_add _) ⟨rfl, .nil⟩)
              · exact sz16 (by rw [List.size_toArray, hpt.len]; exact keptN_len bs)
              · rintro i us _ hi ⟨rfl, hus⟩ v hv
                obtain ⟨j, hj, T1, t, U, ta, tb, tc, rfl, hT, hU⟩ := hpt.get (by simpa using hv)
                have hj16 := keptN_lt j (List.mem_of_getElem? hj)
                refine ⟨T1, _, .str _ t, .ref U, 0, rfl, List.mem_append_right _ (hsub3 _ (hsub2 _ hT)), rfl, rfl, ?_⟩
                intro I oI C oC D m₂ h tk E' hC ha hb F' N' off ne
                subst hc9
                simp only [List.cons_append, List.nil_append] at N' off
                k_steps
                refine ⟨_, _, _, rfl, F', N', off, .inr ⟨_, .tail _ (.tail _ (.head _)), rfl, _, rfl⟩, rfl, ints_put hj ?_ hus⟩
                exact ord_is j
              · rintro us _ ⟨rfl, hus⟩
                rw [take_all (by rw [List.size_toArray, hpt.len])] at hus
                have hus2 : IntsAre us (keptI bs 16) := hus
                clear hus
                subst hc9
                simp only [List.cons_append, List.nil_append]
                k_steps
                k_dflt (refine LCp.ListComp_P (F₀ := by k_asm) (by with_unfolding_all rfl) (by decide) (by rfl) (by decide) (by rfl) (by rfl) (by decide) ?_)
                k_steps
                with_reducible rename Fr _ _ _ _ => F9
                with_reducible rename News _ _ _ _ => N9
                have htold2 := All2.map htold
                have N5 : News _ _ _ ([_, _, _, _] ++ e') := led_pick4 N9
                clear N6 N9
                generalize hc9 : List.cons _ _ = c9 at N5
                refine LCp.SrcLP.ledger (ax := D) (its := zs.toArray) (k := zs.length) (by rfl) F9 N5 (by rw [← hc9]; exact .head _) ?_ (fun g8 => restP_inv _ (fun i us n1 => c9 ++ e' = n1 ∧ IntsAre us (((keptN bs).take i).map abS)) ?_ ?_ _ 0 [] _ (Nat.zero_add _) ⟨rfl, .nil⟩)
                · exact sz16 (by rw [List.size_toArray, htold2.len]; exact keptN_len bs)
                · rintro i us _ hi ⟨rfl, hus⟩ v hv
                  obtain ⟨j, hj, T1, t1, t2, rfl, hT⟩ := htold2.get (by simpa using hv)
                  refine ⟨T1, _, .int (abF j).1 t1, .int (abF j).2 t2, 0, rfl, List.mem_append_right _ hT, rfl, rfl, ?_⟩
                  intro I oI C oC D m₂ h tk E' hC ha hb F' N' off ne
                  subst hc9
                  simp only [List.cons_append, List.nil_append] at N' off
                  k_steps
                  refine ⟨_, _, _, rfl, F', N', off, .inr ⟨_, .head _, rfl, _, rfl⟩, rfl, ints_put hj ?_ hus⟩
                  rfl
                · rintro us _ ⟨rfl, hus⟩
                  rw [take_all (by rw [List.size_toArray, htold2.len]), abS_all] at hus
                  subst hc9
                  simp only [List.cons_append, List.nil_append]
                  k_steps
                  with_reducible rename Fr _ _ _ _ => F9
                  with_reducible rename News _ _ _ _ => N9
                  have N8 := led_pick5 N9
                  clear N9 hus2 hus hpt hcols htold2
                  k_dflt (refine' c_counts _ _ _ _ _ _ D _ zs ((keptN bs).map abF) _ (.head _) (ii_tail (c := [_, _, _]) htold) (ab_len bs) (ab_range bs) _ _ _ _ _ _ _ _ _ _ _ _ _ _ _ _ _ ?k1 ?k2 ?k3 ?k4 ?k5 ?kK ?kd ?ku ?_; (case k1 => k_asm); (case k2 => k_asm); (case k3 => k_asm); (case k4 => exact N8); (case k5 => k_asm); (case kK => first | exact rfl | assumption); (case kd => decide); (case ku => decide))
                  intro v' h' tk' tl' F' N' l1' R'
                  obtain ⟨Dc, cts, kc, rfl, rfl, hcts⟩ := R'
                  have m1 := Nat.ne_of_lt (l1' _ (.head _) _ (.tail _ (.head _)))
                  have m2 := Nat.ne_of_lt (l1' _ (.head _) _ (.tail _ (.tail _ (.head _))))
                  have m3 := Nat.ne_of_lt (l1' _ (.head _) _ (.head _))
                  dsimp only at m1 m2 m3
                  have a4 : ∀ p ∈ e', p.1 ≠ _ := fun p hp => Nat.ne_of_gt (hord9 p hp).1
                  have N7 : News _ _ _ (_ :: _ :: _ :: _ :: e') := N'
                  clear l1' N8 F9 N'
                  k_steps
                  k_dflt (refine wpAny_Assign_Name ?_)
                  k_steps
                  k_dflt (refine two_comp (_F₀ := by k_asm) (by with_unfolding_all rfl) (by decide) (by rfl) (by decide) (by rfl) (by rfl) (by decide) ?_)
                  k_steps
                  with_reducible rename Fr _ _ _ _ => F9
                  with_reducible rename News _ _ _ _ => N9
                  refine ⟨_, _, _, _, 2, 8, fun t ys => t ≤ 16 ∧ IntsAre ys ((List.range t).map (sumF ((keptN bs).map abF))), _, rfl, by rfl, F9, N9, by assumption, by decide, by decide, by decide, by decide, ?_, ⟨by decide, .nil⟩, ?_, ?_, ?_⟩
                  · rintro t ys ⟨ht, hys⟩
                    exact sz16 (by rw [hys.length, List.length_map, List.length_range]; exact ht)
                  · intro I C D1 ys oI oC m₂ h tk E' hC F' N'
                    k_steps
                    exact ⟨_, _, _, _, _, _, rfl, rfl, by assumption, by assumption, by assumption⟩
                  · rintro i hi I I2 C D1 oI t1 j ys hj ⟨ht, hys⟩ oI2 oC m₂ h tk t2 E' hC ha hb F' N'
                    k_steps
                    k_dflt (refine' c_sum _ _ _ _ _ _ D _ zs ((keptN bs).map abF) _ _ _ _ _ (.tail _ (.tail _ (.tail _ (.tail _ (.tail _ (.head _)))))) (ii_tail (c := [_, _, _, _, _, _, _, _]) htold) (ab_len bs) (ab_range bs) (Int.natCast_nonneg j) (Int.ofNat_lt.mpr hj) (Int.natCast_nonneg i) (Int.ofNat_lt.mpr hi) _ _ _ _ _ _ _ _ _ _ _ _ _ _ _ _ _ ?k1 ?k2 ?k3 ?k4 ?k5 ?kK ?kd ?ku ?_; (case k1 => k_asm); (case k2 => k_asm); (case k3 => k_asm); (case k4 => exact N'); (case k5 => k_asm); (case kK => first | exact rfl | assumption); (case kd => decide); (case ku => decide))
                    intro v' h' tk' tl' F1 N1 l1' R'
                    obtain ⟨t', rfl, rfl⟩ := R'
                    exact (show ElEnd _ _ _ _ _ _ _ _ from ⟨_, _, rfl, F1, N1, ij_le hi hj, sum_snoc hj hys⟩)
                  · rintro D1 h tk ys ⟨ht, hys⟩ F' N' off'
                    simp only [LCg.Off1] at off'
                    clear F9 N9
                    k_steps
                    k_dflt (refine LCg.Assign_ListComp_U (F₀ := by k_asm) (by rfl) (by with_unfolding_all rfl) (by with_unfolding_all rfl) (by decide) (by rfl) (by decide) (by rfl) (by rfl) (by rfl) ?_)
                    k_steps
                    with_reducible rename Fr _ _ _ _ => F9
                    with_reducible rename News _ _ _ _ => N9
                    generalize hn9 : List.cons _ _ = n9 at N9
                    refine LCg.CompSrc.range (n := 15) (by rfl) F9 N9 (by assumption) (by decide) (by decide) (by rw [sizeLine_eq]; decide) (fun g8 => rest_inv 15 (fun i us n1 => n9 = n1 ∧ IntsAre us ((List.range i).map fun (k : Nat) => prodF ((keptN bs).map abF) (k + 1))) ?_ ?_ 15 0 [] n9 rfl ⟨rfl, .nil⟩)
                    · rintro i us _ hi ⟨rfl, hus⟩ v I oI C oC D2 m₂ h tk E' ⟨t, rfl⟩ hC hx F' N' off ne
                      have hi0 : (0 : Int) ≤ 1 + (i : Int) := idx_lo i
                      obtain ⟨g1, hg1⟩ := sums_at hys (k := 1 + (i : Int)) (j := i + 1) (idx_is i) (Nat.succ_lt_succ hi)
                      obtain ⟨g2, hg2⟩ := sums_at hys (opp_is i hi) (opp_lt i hi)
                      have hp0 : (0 : Int) ≤ (1 + (i : Int)).fdiv 8 * 8 + (-(1 + (i : Int))).fmod 8 := by rw [opp_is i hi]; exact Int.natCast_nonneg _
                      have hp1 : (1 + (i : Int)).fdiv 8 * 8 + (-(1 + (i : Int))).fmod 8 < 16 := by rw [opp_is i hi]; exact Int.ofNat_lt.mpr (opp_lt i hi)
                      have hM := sum_ok ((keptN bs).map abF) (i + 1) (opp (i + 1))
                      subst hn9
                      k_steps
                      exact ⟨_, _, _, rfl, F', N', off, trivial, rfl, prod_snoc hus⟩
                    · rintro us _ ⟨rfl, hprod⟩
                      subst hn9
                      have z1 := size_ok hcts (by rw [cnt_len]; exact Nat.le_refl _)
                      have z2 := size_ok hys (by simp)
                      have z3 := size_ok hprod (by simp)
                      obtain ⟨y1, hy1⟩ := cnt_at hcts (k := 1) (j := 1) rfl (by decide)
                      obtain ⟨y0, hy0⟩ := cnt_at hcts (k := 0) (j := 0) rfl (by decide)
                      obtain ⟨p0, hp0⟩ := ints_at (j := 0) hprod (by simp)
                      have hp0' : us.toArray[(0 : Int).toNat]? = some (.int (prodF ((keptN bs).map abF) 1) p0) := hp0
                      k_steps
                      · with_reducible rename (_ != _) = true => hne
                        exact (dif_of (p := EvenP ((keptN bs).map abF)) (q := ProdP ((keptN bs).map abF)) plain1 hne).elim
                      · k_dflt (refine LCg.Assign_ListComp_U (F₀ := by k_asm) (by rfl) (by with_unfolding_all rfl) (by with_unfolding_all rfl) (by decide) (by rfl) (by decide) (by rfl) (by rfl) (by rfl) ?_)
                        k_steps
                        with_reducible rename Fr _ _ _ _ => F9
                        with_reducible rename News _ _ _ _ => N8
                        with_reducible rename IntsAre _ (List.drop 1 (List.map _ _)) => hsl
                        have N9 := led_pick12 N8
                        clear N8
                        generalize hn9 : List.cons _ _ = n9 at N9
                        refine LCg.CompSrc.ledger (by rfl) F9 N9 (by rw [← hn9]; exact .head _) (by rw [List.size_toArray, hsl.length, sizeLine_eq]; simp) (fun g8 => rest_inv _ (fun i vs n1 => n9 = n1 ∧ IntsAre vs (((List.drop 1 (List.map (sumF ((keptN bs).map abF)) (List.range (2 * 8)))).take i).map powF)) ?_ ?_ _ 0 [] n9 (Nat.zero_add _) ⟨rfl, .nil⟩)
                        · rintro i vs _ hi ⟨rfl, hvs⟩ v I oI C oC D2 m₂ h tk E' hv hC hx F' N' off ne
                          obtain ⟨x1, t1, rfl, hx1⟩ := ints_get hsl (by simpa using hv)
                          obtain ⟨hb0, hb1⟩ := sum_in (List.mem_of_mem_drop (List.mem_of_getElem? hx1))
                          subst hn9
                          k_steps
                          exact ⟨_, _, _, rfl, F', N', off, .inr ⟨_, .head _, rfl, _, rfl⟩, rfl, ints_put (f := powF) hx1 rfl hvs⟩
                        · rintro vs _ ⟨rfl, hvs⟩
                          rw [take_all (by rw [List.size_toArray, hsl.length])] at hvs
                          subst hn9
                          k_steps
                          with_reducible rename News _ _ _ _ => N9
                          with_reducible rename _ = _ => hev
                          obtain ⟨hk, hr1, hr2⟩ := plain2 hev
                          have hzl : zs.length = (keptN bs).length := by rw [htold.len, List.length_map]
                          obtain ⟨hk0, hk1⟩ := k6 hk
                          obtain ⟨kk, hkk⟩ : ∃ kk : Int, (((keptN bs).length : Nat) : Int) = kk := ⟨_, rfl⟩
                          rw [hkk] at hk0 hk1
                          refine len_at N9 (.tail _ (.tail _ (.tail _ (.head _)))) (by rw [List.size_toArray, hzl]; exact hkk) hk1 ?_
                          clear hkk hzl hk hk1
                          k_steps))
end
end Mine
theorem PySem.Challenge.cw_tr0012_01_holds : PySem.Challenge.rw_tr0012_01.Holds :=
  Mine.t1
