import PyProof.Rows.All
import Wide.All
import OpenK.AllK
import Wide.FinOn
import PySem.Challenge.RW_dm0092_02
open PySem PySem.W PyProof.Rows
set_option Elab.async false
set_option maxRecDepth 100000

namespace Mine

/-! Plain laws: a text as its list of numbers. -/
def subst (f : Nat → List Nat) (l : List Nat) : List Nat := l.flatMap f
def one (c : Nat) (z : List Nat) (k : Nat) : List Nat := if k = c then z else [k]

theorem flat_free (c : Nat) (z : List Nat) : ∀ l : List Nat, c ∉ l → l.flatMap (one c z) = l
  | [], _ => rfl
  | k :: r, h => by
    have h1 : ¬ k = c := fun e => h (e ▸ List.mem_cons_self ..)
    have h2 : c ∉ r := fun m => h (List.mem_cons_of_mem _ m)
    rw [List.flatMap_cons, flat_free c z r h2]
    simp [one, h1]
theorem flat_join (c : Nat) (z : Str) : ∀ parts : List Str, (∀ p ∈ parts, c ∉ p.cps.toList) →
    (Str.join ⟨#[c]⟩ parts).cps.toList.flatMap (one c z.cps.toList) = (Str.join z parts).cps.toList
  | [], _ => rfl
  | [p], h => flat_free c _ _ (h p (List.mem_singleton.mpr rfl))
  | p :: q :: r, h => by
    have ih := flat_join c z (q :: r) fun a ha => h a (List.mem_cons_of_mem _ ha)
    show (p ++ ⟨#[c]⟩ ++ Str.join ⟨#[c]⟩ (q :: r)).cps.toList.flatMap _ = (p ++ z ++ Str.join z (q :: r)).cps.toList
    simp only [Str.cps_append, Array.toList_append, List.flatMap_append]
    rw [ih, flat_free c _ _ (h p (List.mem_cons_self ..))]
    simp [one]
/-- what a replace of one sign gives -/
theorem replace_list (x z : Str) (c : Nat) : (Txt.replace x ⟨#[c]⟩ z).cps.toList = x.cps.toList.flatMap (one c z.cps.toList) := by
  rw [StrLaws.replace_one, ← flat_join c z _ (StrLaws.split_free x c), StrLaws.join_split]

theorem len_list (x : Str) : x.cps.toList.length = x.length := Array.length_toList
theorem str_ext {a b : Str} (h : a.cps.toList = b.cps.toList) : a = b := Str.ext' (Array.toList_inj.mp h)
theorem app_list (a b : Str) : (a ++ b).cps.toList = a.cps.toList ++ b.cps.toList := by rw [Str.cps_append, Array.toList_append]

theorem flat_le (f : Nat → List Nat) (m : Nat) (hf : ∀ k, (f k).length ≤ m) : ∀ l : List Nat, (l.flatMap f).length ≤ m * l.length
  | [] => by simp
  | k :: r => by
    have := flat_le f m hf r
    have h := hf k
    rw [List.flatMap_cons, List.length_append, List.length_cons, Nat.mul_succ]
    omega
theorem one_le (c : Nat) (z : List Nat) (m : Nat) (h1 : 1 ≤ m) (hz : z.length ≤ m) (k : Nat) : (one c z k).length ≤ m := by
  unfold one
  split
  · exact hz
  · exact h1
theorem replace_le (x z : Str) (c : Nat) (hz : z.length ≤ 2) : (Txt.replace x ⟨#[c]⟩ z).length ≤ 2 * x.length := by
  rw [← len_list, ← len_list, replace_list]
  exact flat_le _ 2 (one_le c _ 2 (by decide) (by rw [len_list]; exact hz)) _

/-- two one-sign replaces, one upon the other -/
theorem flat_flat (f g : Nat → List Nat) (l : List Nat) : (l.flatMap f).flatMap g = l.flatMap fun k => (f k).flatMap g := List.flatMap_assoc

abbrev bs : Str := Str.ofString "\\"
abbrev bs2 : Str := Str.ofString "\\\\"
abbrev qm : Str := Str.ofString "\""
abbrev bq : Str := Str.ofString "\\\""

def mqp (v : Str) : Str := Txt.replace (Txt.replace v (Str.ofString "\\") (Str.ofString "\\\\")) (Str.ofString "\"") (Str.ofString "\\\"")
def mqF (k : Nat) : List Nat := if k = 92 then [92, 92] else if k = 34 then [92, 34] else [k]
theorem e_bs : Str.ofString "\\" = ⟨#[92]⟩ := by decide +kernel
theorem e_qm : Str.ofString "\"" = ⟨#[34]⟩ := by decide +kernel
theorem e_bs2 : Str.ofString "\\\\" = ⟨#[92, 92]⟩ := by decide +kernel
theorem e_bq : Str.ofString "\\\"" = ⟨#[92, 34]⟩ := by decide +kernel
theorem mqp_list (v : Str) : (mqp v).cps.toList = v.cps.toList.flatMap mqF := by
  unfold mqp
  rw [e_bs, e_qm, e_bs2, e_bq, replace_list, replace_list, flat_flat]
  congr 1
  funext k
  unfold mqF one
  by_cases h : k = 92
  · subst h; decide
  · by_cases h2 : k = 34
    · subst h2; decide
    · simp [h, h2]
theorem rep1_le (v : Str) : (Txt.replace v (Str.ofString "\\") (Str.ofString "\\\\")).length ≤ 2 * v.length := by
  rw [e_bs]; exact replace_le _ _ _ (by decide +kernel)
theorem mqp_le (v : Str) : (mqp v).length ≤ 2 * v.length := by
  rw [← len_list, ← len_list, mqp_list]
  refine flat_le _ 2 (fun k => ?_) _
  unfold mqF
  split
  · decide
  · split
    · decide
    · exact Nat.le_succ 1
def quoteS (v : Str) : Str := Str.ofString "\"" ++ mqp v ++ Str.ofString "\""
theorem quoteS_le (v : Str) : (quoteS v).length ≤ 2 * v.length + 2 := by
  have h := mqp_le v
  unfold quoteS
  rw [Str.length_append, Str.length_append, e_qm]
  show 1 + _ + 1 ≤ _
  omega
theorem quoteS_list (v : Str) : (quoteS v).cps.toList = [34] ++ v.cps.toList.flatMap mqF ++ [34] := by
  unfold quoteS
  rw [app_list, app_list, mqp_list, e_qm]

/-! joins, products of texts -/
theorem cat_reps (c : Array Nat) : ∀ (n : Nat) (a : Array Nat), ((List.replicate n c).foldl (· ++ ·) a).toList = a.toList ++ (List.replicate n c.toList).flatten
  | 0, a => by simp
  | n + 1, a => by
    rw [List.replicate_succ, List.foldl_cons, cat_reps c n, List.replicate_succ, List.flatten_cons, Array.toList_append, List.append_assoc]
theorem mul_list (x : Str) (n : Int) : (Txt.mul x n).cps.toList = (List.replicate n.toNat x.cps.toList).flatten := by
  unfold Txt.mul
  split
  · have e : n.toNat = 0 := by omega
    rw [e]
    rfl
  · split
    · rename_i h
      rcases (Bool.or_eq_true _ _).mp h with h | h
      · have e : n = 1 := by simpa using h
        subst e
        simp
      · have e : x.cps.toList = [] := List.length_eq_zero_iff.mp (by rw [len_list]; simpa using h)
        rw [e]
        simp
    · show ((List.replicate n.toNat x.cps).foldl (· ++ ·) #[]).toList = _
      rw [cat_reps]
      simp
theorem flat_rep (c : Nat) : ∀ n : Nat, (List.replicate n [c]).flatten = List.replicate n c
  | 0 => rfl
  | n + 1 => by rw [List.replicate_succ, List.flatten_cons, flat_rep c n, List.replicate_succ]; rfl
theorem mul_bs (n : Int) : (Txt.mul (Str.ofString "\\") n).cps.toList = List.replicate n.toNat 92 := by
  rw [mul_list, e_bs]
  exact flat_rep 92 _
theorem join0_list : ∀ l : List Str, (Txt.join (Str.ofString "") l).cps.toList = (l.map fun a => a.cps.toList).flatten := by
  intro l
  show (Builtin.Str.glued (Str.ofString "") l).cps.toList = _
  rw [StrLaws.glued_eq_join]
  induction l with
  | nil => rfl
  | cons a r ih =>
    cases r with
    | nil => simp [Str.join]
    | cons b r =>
      show (a ++ Str.ofString "" ++ Str.join (Str.ofString "") (b :: r)).cps.toList = _
      rw [app_list, app_list, ih, show (Str.ofString "").cps.toList = [] from by decide +kernel, List.append_nil]
      rfl
theorem sum_le (m : Nat) : ∀ l : List Str, (∀ a ∈ l, a.length ≤ m) → (l.map (·.length)).sum ≤ l.length * m
  | [], _ => by simp
  | a :: r, h => by
    have h1 := sum_le m r fun b hb => h b (List.mem_cons_of_mem _ hb)
    have h2 := h a (List.mem_cons_self ..)
    rw [List.map_cons, List.sum_cons, List.length_cons, Nat.succ_mul]
    omega
/-- bounded texts fit into a join by the empty text -/
theorem join_fits {l : List Str} {m n : Nat} (h : ∀ a ∈ l, a.length ≤ m) (hn : l.length ≤ n) (hmn : n * m ≤ 16777216) : (l.map (·.length)).sum + l.length * (Str.ofString "").length ≤ 16777216 := by
  have h1 := sum_le m l h
  have h2 : l.length * m ≤ n * m := Nat.mul_le_mul_right _ hn
  have h3 : (Str.ofString "").length = 0 := by decide +kernel
  rw [h3]
  omega

/-! the guarded text -/
def gsL (n : Nat) (k : Nat) : List Nat := if k = 92 then List.replicate (2 ^ n) 92 else if k = 34 then List.replicate (2 ^ n - 1) 92 ++ [34] else [k]
def gsN (n : Int) (k : Nat) : Str := ⟨(gsL n.toNat k).toArray⟩
def guardS (v : Str) (n : Int) : Str := ⟨(v.cps.toList.flatMap (gsL n.toNat)).toArray⟩
theorem gsL_le {n : Nat} (h : n ≤ 4) (k : Nat) : (gsL n k).length ≤ 16 := by
  have hp : 2 ^ n ≤ 2 ^ 4 := Nat.pow_le_pow_right (by decide) h
  have hq : 2 ^ 4 = 16 := by decide
  have h0 : 0 < 2 ^ n := Nat.two_pow_pos n
  unfold gsL
  split
  · rw [List.length_replicate]; omega
  · split
    · rw [List.length_append, List.length_replicate, List.length_singleton]; omega
    · exact Nat.le_of_ble_eq_true rfl
theorem gsN_le {n : Int} (h : n ≤ 4) (k : Nat) : (gsN n k).length ≤ 16 := by
  show (gsL n.toNat k).toArray.size ≤ 16
  rw [List.size_toArray]
  exact gsL_le (by omega) k
theorem gsN_list (n : Int) (k : Nat) : (gsN n k).cps.toList = gsL n.toNat k := rfl
theorem guardS_list (v : Str) (n : Int) : (guardS v n).cps.toList = v.cps.toList.flatMap (gsL n.toNat) := rfl
theorem guard_join (v : Str) (n : Int) : Txt.join (Str.ofString "") (v.cps.toList.map (gsN n)) = guardS v n := by
  refine str_ext ?_
  rw [join0_list, guardS_list, List.map_map, List.flatMap_def]
  rfl
theorem guard_fits {v : Str} {n : Int} (hv : v.length ≤ 100000) (hn : n ≤ 4) : (((v.cps.toList.map (gsN n))).map (·.length)).sum + (v.cps.toList.map (gsN n)).length * (Str.ofString "").length ≤ 16777216 := by
  refine join_fits (m := 16) (n := 100000) ?_ ?_ (by decide)
  · intro a ha
    obtain ⟨k, _, rfl⟩ := List.mem_map.mp ha
    exact gsN_le hn k
  · rw [List.length_map, len_list]; exact hv
theorem sign_eq {k : Nat} {c : Nat} (h : ((⟨#[k]⟩ : Str) == ⟨#[c]⟩) = true) : k = c := by
  have := eq_of_beq h
  injection this with h
  injection h with h
  injection h
theorem sign_ne {k : Nat} {c : Nat} (h : ((⟨#[k]⟩ : Str) == ⟨#[c]⟩) = false) : k ≠ c := by
  intro e
  subst e
  exact absurd h (by simp)
theorem pow_toNat (n : Nat) : ((2 : Int) ^ n).toNat = 2 ^ n := by
  have : ((2 : Int) ^ n) = ((2 ^ n : Nat) : Int) := by push_cast; rfl
  rw [this]; rfl
theorem pow1_toNat (n : Nat) : ((2 : Int) ^ n - 1).toNat = 2 ^ n - 1 := by
  have e : ((2 : Int) ^ n) = ((2 ^ n : Nat) : Int) := by push_cast; rfl
  have h0 : 0 < 2 ^ n := Nat.two_pow_pos n
  rw [e]
  omega
theorem pow_bnd {n : Int} (h : n ≤ 4) : (2 : Int) ^ n.toNat ≤ 16 ∧ 1 ≤ (2 : Int) ^ n.toNat := by
  have e : ((2 : Int) ^ n.toNat) = ((2 ^ n.toNat : Nat) : Int) := by push_cast; rfl
  have hp : 2 ^ n.toNat ≤ 2 ^ 4 := Nat.pow_le_pow_right (by decide) (by omega)
  have hq : 2 ^ 4 = 16 := by decide
  have h0 : 0 < 2 ^ n.toNat := Nat.two_pow_pos _
  rw [e]
  omega
theorem gs_bs {n : Int} {k : Nat} (h : ((⟨#[k]⟩ : Str) == Str.ofString "\\") = true) : Txt.mul (Str.ofString "\\") (2 ^ n.toNat) = gsN n k := by
  rw [e_bs] at h
  have := sign_eq h
  subst this
  refine str_ext ?_
  rw [mul_bs, pow_toNat]
  rfl
theorem gs_qm {n : Int} {k : Nat} (h : ((⟨#[k]⟩ : Str) == Str.ofString "\"") = true) : Txt.mul (Str.ofString "\\") (2 ^ n.toNat - 1) ++ ⟨#[k]⟩ = gsN n k := by
  rw [e_qm] at h
  have := sign_eq h
  subst this
  refine str_ext ?_
  rw [app_list, mul_bs, pow1_toNat]
  rfl
theorem gs_no {n : Int} {k : Nat} (h : ((⟨#[k]⟩ : Str) == Str.ofString "\\") = false) (h2 : ((⟨#[k]⟩ : Str) == Str.ofString "\"") = false) : (⟨#[k]⟩ : Str) = gsN n k := by
  rw [e_bs] at h
  rw [e_qm] at h2
  have h := sign_ne h
  have h2 := sign_ne h2
  refine str_ext ?_
  rw [gsN_list]
  unfold gsL
  rw [if_neg h, if_neg h2]
theorem mul_bs_len (n : Int) : (Txt.mul (Str.ofString "\\") n).length = n.toNat := by
  rw [← len_list, mul_bs, List.length_replicate]
end Mine

namespace Mine
/-- the end of a turn that has put one more text upon the list -/
def BuildEnd (h₀ : Heap) (L : Addr) (l : Addr) (rest : List (Addr × Obj)) (m₀ : Str → Option Value) (x : Str) (vs : List Value) (y : Str) (s : Shared) (f : Flow) (s₂ : Shared) : Prop :=
  f = .next ∧ ∃ h' tk m' t j, s₂ = { s with heap := h', toks := tk } ∧ Fr h₀ L h' m' ∧ News h₀ L h' ((l, W.listOf (vs ++ [Value.str y t]).toArray j) :: rest) ∧ ∀ z, z ≠ x → m' z = m₀ z
theorem BuildEnd.intro {h₀ : Heap} {L : Addr} {l : Addr} {rest : List (Addr × Obj)} {m₀ : Str → Option Value} {x : Str} {vs : List Value} {y y' : Str} {s : Shared} {h' : Heap} {tk : Nat} {v : Value} {t : Tok} {j : Nat}
    (F : Fr h₀ L h' (fun z => if z = x then some v else m₀ z)) (N : News h₀ L h' ((l, W.listOf (vs.toArray.push (.str y' t)) j) :: rest)) (e : y' = y) :
    BuildEnd h₀ L l rest m₀ x vs y s .next { s with heap := h', toks := tk } := by
  subst e
  rw [List.push_toArray] at N
  exact ⟨rfl, h', tk, _, t, j, rfl, F, N, fun z hz => by simp [hz]⟩

theorem strs_snoc {y : Str} {t : Tok} : ∀ {vs : List Value} {ys : List Str}, StrsAre vs ys → StrsAre (vs ++ [Value.str y t]) (ys ++ [y])
  | _, _, .nil => .cons y t .nil
  | _, _, .cons z u r => .cons z u (strs_snoc r)
theorem strs_len : ∀ {vs : List Value} {ys : List Str}, StrsAre vs ys → vs.length = ys.length
  | _, _, .nil => rfl
  | _, _, .cons _ _ r => by simp [strs_len r]

section
variable {prog : Program} {w : World} {A : Around} {E : Value → Shared → Prop} {s : Shared} {env : Env} {h₀ : Heap} {x : Str} {body : List Stmt} {Q : Flow → Shared → Prop}
theorem loop_build {xt : Str} {tx : Tok} {m₀ : Str → Option Value} {l : Addr} {news : List (Addr × Obj)} (g : Nat → Str)
    (hh : A.handled = none) (F : Fr h₀ env.locals s.heap m₀) (N : News h₀ env.locals s.heap ((l, W.listOf #[] 0) :: news)) (hl : ∀ p ∈ news, p.1 < l)
    (turn : ∀ (vs : List Value) (j k : Nat) (t : Tok) (h : Heap) (tk : Nat) (own : List (Addr × Obj)), vs.length < xt.length → (∀ p ∈ news ++ own, p.1 ≠ l) →
      Fr h₀ env.locals h (fun y => if y = x then some (.str ⟨#[k]⟩ t) else m₀ y) → News h₀ env.locals h ((l, W.listOf vs.toArray j) :: (news ++ own)) →
      wpAny (model prog w) A (execs body env) (BuildEnd h₀ env.locals l (news ++ own) m₀ x vs (g k) { s with heap := h, toks := tk }) E { s with heap := h, toks := tk })
    (done : ∀ (vs : List Value) (j : Nat) (u : Str → Option Value) (h : Heap) (tk : Nat), StrsAre vs (xt.cps.toList.map g) → Fr h₀ env.locals h (fun y => if y = x then u y else m₀ y) →
      News h₀ env.locals h ((l, W.listOf vs.toArray j) :: news) → Q .next { s with heap := h, toks := tk }) :
    wpAny (model prog w) A (pyIter (.str xt tx)) (fun it s₂ => LoopAtV prog w A h₀ env x body Q E it s₂) E s := by
  have noneIn : ∀ (u m : Str → Option Value) (z : Str), (if ([] : List Str).contains z then u z else m z) = m z := by
    intro u m z
    simp
  refine KStt.kst_text (σ := List Value × Nat) (fun c => (l, W.listOf c.1.toArray c.2) :: news) (fun _ => []) (fun _ => True) []
    (fun pre c => StrsAre c.1 (pre.map fun k => g k.toNat)) ([], 0) hh F N trivial (fun p hp => nomatch hp) .nil ?_ ?_
  · rintro ⟨vs, j⟩ pre post k t u h tk own he ho _ hp F₁ N₁
    have lenv : vs.length < xt.length := by
      have h1 := strs_len hp
      have h2 := congrArg List.length he
      rw [KStt.codes_length, List.length_append, List.length_cons] at h2
      rw [List.length_map] at h1
      dsimp only at h1
      omega
    have F₂ : Fr h₀ env.locals h (fun y => if y = x then some (.str ⟨#[k]⟩ t) else m₀ y) := by
      have e : (fun y => if y = x then some (Value.str ⟨#[k]⟩ t) else kstB (fun z => if ([] : List Str).contains z then u z else m₀ z) [] y) = fun y => if y = x then some (Value.str ⟨#[k]⟩ t) else m₀ y := by
        funext y
        show (if y = x then _ else (if ([] : List Str).contains y then u y else m₀ y)) = _
        rw [noneIn]
      rw [← e]
      exact F₁
    have off : ∀ p ∈ news ++ own, p.1 ≠ l := by
      intro p hp
      rcases List.mem_append.mp hp with hp | hp
      · exact Nat.ne_of_lt (hl p hp)
      · exact ho p hp l (List.mem_cons_self ..)
    refine wpAny_mono (turn vs j k t h tk own lenv off F₂ (by simpa using N₁)) (fun f s₂ hq => ?_) fun _ _ e => e
    obtain ⟨rfl, h', tk', m', t', j', rfl, F', N', hm⟩ := hq
    refine InvEndN.intro (news' := (l, W.listOf (vs ++ [Value.str (g k) t']).toArray j') :: (news ++ own)) F' N' ⟨(vs ++ [Value.str (g k) t'], j'), rfl, trivial, (fun p hp => nomatch hp), ?_, ?_⟩ rfl ?_ ?_
    · intro z hz _ _
      exact hm z hz
    · dsimp only
      rw [List.map_append]
      exact strs_snoc hp
    · intro p hp
      rcases List.mem_cons.mp hp with rfl | hp
      · exact List.mem_cons_self ..
      · exact List.mem_cons_of_mem _ (List.mem_append.mpr (.inl hp))
    · intro p hp
      exact List.mem_cons_of_mem _ (List.mem_append.mpr (.inr hp))
  · rintro ⟨vs, j⟩ u h tk _ hp F₁ N₁
    refine done vs j u h tk ?_ ?_ N₁
    · have e : (KStt.codes xt).map (fun k => g k.toNat) = xt.cps.toList.map g := by
        unfold KStt.codes
        rw [List.map_map]
        rfl
      rw [← e]
      exact hp
    · have e : (fun y => if y = x then u y else kstB (fun z => if ([] : List Str).contains z then u z else m₀ z) [] y) = fun y => if y = x then u y else m₀ y := by
        funext y
        show (if y = x then _ else (if ([] : List Str).contains y then u y else m₀ y)) = _
        rw [noneIn]
      rw [← e]
      exact F₁

theorem append_led {l : Addr} {m : Str → Option Value} {rest : List (Addr × Obj)} {its : Array Value} {n : Nat} {v : Value} {L : Addr} {Q : Value → Shared → Prop} (F : Fr h₀ L s.heap m) (N : News h₀ L s.heap ((l, W.listOf its n) :: rest)) (ho : ∀ p ∈ rest, p.1 ≠ l)
    (hsz : its.size ≤ sizeLine) (h : ∀ h', Fr h₀ L h' m → News h₀ L h' ((l, W.listOf (its.push v) (n + 1)) :: rest) → Q .none { s with heap := h' }) : wpAny (model prog w) A (call (.builtin "list.append") [.ref l, v]) Q E s :=
  append_K F N (.head ho) h hsz
end

theorem gen_toks {α : Type} {M : Model} {A : Around} {t : Sem α} {Q : α → Shared → Prop} {E : Value → Shared → Prop} {hh : Heap} {gg dd n k oo}
    (hn : 1 ≤ k) (h : ∀ tk, 1 ≤ tk → wpAny M A t Q E (Shared.mk hh gg dd tk oo)) : wpAny M A t Q E (Shared.mk hh gg dd (n + k) oo) := h _ (Nat.le_trans hn (Nat.le_add_left _ _))
theorem replaceT {prog : Program} {w : World} {A : Around} {E : Value → Shared → Prop} {s : Shared} {x y z : Str} {t u v : Tok} {Q : Value → Shared → Prop}
    (hu : u ≠ 0) (hv : v ≠ 0) (huv : u ≠ v) (hyz : (y == z) = false) (hx : x.length ≤ 1048576) (hz : z.length ≤ 14)
    (hq : ∀ t' k, s.toks ≤ k → Q (.str (Txt.replace x y z) t') { s with toks := k }) : wpAny (model prog w) A (call (.builtin "str.replace") [.str x t, .str y u, .str z v]) Q E s :=
  wpAny_with_toks (Nat.le_refl _) (SC.replaceW hu hv huv hyz hx hz fun t' k h => hq t' k h)

/-- str of a list of plain data, the count of tokens kept above nought -/
theorem str_listT {prog : Program} {w : World} {A : Around} {E : Value → Shared → Prop} {s : Shared} {h₀ : Heap} {L D : Addr} {m : Str → Option Value} {news : List (Addr × Obj)} {vs : List Value} {ds : List PyData} {k : Nat} {Q : Value → Shared → Prop}
    (F : Fr h₀ L s.heap m) (N : News h₀ L s.heap news) (hm : (D, W.listOf vs.toArray k) ∈ news) (hc : CarriedAll vs ds) (hs : (PyData.list ds).showable = true) (hnd : (PyData.list ds).hasDict = false)
    (hg : A.guards = some []) (hu : A.units + ((PyData.list ds).depth + 3) < cLine) (ht : 1 ≤ s.toks) (hsz : (PyData.list ds).shown.length ≤ sizeLine)
    (hQ : ∀ h' u tk, 1 ≤ tk → Fr h₀ L h' m → News h₀ L h' news → Q (.str (PyData.list ds).shown u) { s with heap := h', toks := tk }) : wpAny (model prog w) A (call (.type "str") [.ref D]) Q E s :=
  wpAny_with_toks ht (str_of_reads (reads_newData (N.isList hm) hc) hs (PyData.noDict_hsm hnd) hg hu (fun _ _ e => e) (fun h' u tk hk hl => hQ h' u tk hl (F.keptAll hk) (N.grown hk)) hsz)

/-- what a def's call gives, whatever frame it is called from: r frames of room, a condition on the guards and the ledger, the value handed back -/
abbrev Ct (r : Nat) (prog : Program) (w : World) (K : Frag) (p : Program) (loose : List Str) (mean : ExcName → Option Value) (mg mb : Str → Option Value) (f : Addr) (vs : List Value) (Pre : Option (List Code) → List (Addr × Obj) → Prop) (R : Tok → Value) : Prop :=
  ∀ {dp un : Nat} {gd : Option (List Code)} {cn : Str} {cs : Scope} {a : Addr} {ccd : Value} {cl : List (Str × Addr)} {outer : List Env} {A₀ : Around} {base h₀ : Heap} {L : Addr} {m : Str → Option Value} {news : List (Addr × Obj)} {s : Shared} {Q E : Value → Shared → Prop},
    Below A₀ base outer h₀ → Fr h₀ L s.heap m → K.In h₀ → News h₀ L s.heap news → Top p loose mean mg mb h₀ → cs.kind = .function →
    Pre gd news → dp + r < recursionLimit → un + 8 * r < cLine →
    (∀ (t : Tok) (h' : Heap) (tk' : Nat), Fr h₀ L h' m → News h₀ L h' news → Q (R t) { s with heap := h', toks := tk' }) →
      wpAny (model prog w) (ktrTop dp un gd cn cs L a ccd cl outer) (call (.ref f) vs) Q E s

/-! a loop over a range whose turn turns one text -/
def iterS (f : Str → Str) : Nat → Str → Str
  | 0, x => x
  | n + 1, x => f (iterS f n x)
def IterEnd (h₀ : Heap) (L : Addr) (rest : List (Addr × Obj)) (m₀ : Str → Option Value) (x y : Str) (v : Str) (s : Shared) (f : Flow) (s₂ : Shared) : Prop :=
  f = .next ∧ ∃ h' tk m' t, s₂ = { s with heap := h', toks := tk } ∧ Fr h₀ L h' m' ∧ News h₀ L h' rest ∧ m' y = some (.str v t) ∧ ∀ z, z ≠ x → z ≠ y → m' z = m₀ z
theorem IterEnd.intro {h₀ : Heap} {L : Addr} {rest : List (Addr × Obj)} {m₀ m' : Str → Option Value} {x y v : Str} {s : Shared} {h' : Heap} {tk : Nat} {t : Tok}
    (F : Fr h₀ L h' m') (N : News h₀ L h' rest) (hy : m' y = some (.str v t)) (hz : ∀ z, z ≠ x → z ≠ y → m' z = m₀ z) :
    IterEnd h₀ L rest m₀ x y v s .next { s with heap := h', toks := tk } := ⟨rfl, h', tk, m', t, rfl, F, N, hy, hz⟩
section
variable {prog : Program} {w : World} {A : Around} {E : Value → Shared → Prop} {s : Shared} {env : Env} {h₀ : Heap} {x : Str} {body : List Stmt} {Q : Flow → Shared → Prop}
theorem loop_iter {r : Addr} {b₀ : Int} {t₀ u₀ v₀ : Tok} {n : Nat} {m₀ : Str → Option Value} {news : List (Addr × Obj)} {x₀ : Str} {tx : Tok} (y : Str) (f : Str → Str)
    (hh : A.handled = none) (hr : IsRange s.heap r 0 b₀ 1 t₀ u₀ v₀) (hsmall : Builtin.Range.small 0 b₀ 1 = true) (hn : Builtin.Range.rangeSize 0 b₀ 1 = (n : Int)) (F : Fr h₀ env.locals s.heap m₀) (N : News h₀ env.locals s.heap news)
    (hy : m₀ y = some (.str x₀ tx))
    (turn : ∀ (i : Nat) (k : Int) (t tv : Tok) (h : Heap) (tk : Nat) (own : List (Addr × Obj)), i < n → OwnOff own (news.map (·.1)) →
      Fr h₀ env.locals h (fun z => if z = x then some (.int k t) else if z = y then some (.str (iterS f i x₀) tv) else m₀ z) → News h₀ env.locals h (news ++ own) →
      wpAny (model prog w) A (execs body env) (IterEnd h₀ env.locals (news ++ own) m₀ x y (iterS f (i + 1) x₀) { s with heap := h, toks := tk }) E { s with heap := h, toks := tk })
    (done : ∀ (u : Str → Option Value) (tv : Tok) (h : Heap) (tk : Nat), Fr h₀ env.locals h (fun z => if z = x then u z else if z = y then some (.str (iterS f n x₀) tv) else m₀ z) →
      News h₀ env.locals h news → Q .next { s with heap := h, toks := tk }) :
    wpAny (model prog w) A (pyIter (.ref r)) (fun it s₂ => LoopAtV prog w A h₀ env x body Q E it s₂) E s := by
  have noneIn : ∀ (u m : Str → Option Value) (z : Str), (if ([] : List Str).contains z then u z else m z) = m z := by
    intro u m z
    simp
  refine kst_range (σ := Str × Tok) (fun _ => news) (fun c => [(y, .str c.1 c.2)]) (fun _ => True) [] (fun pre c => c.1 = iterS f pre.length x₀) (x₀, tx) hh hr hsmall hn F N trivial
    (fun p hp => by rw [List.mem_singleton.mp hp]; exact hy) rfl ?_ ?_
  · rintro ⟨v, tv⟩ pre k t u h tk own hk hpre ho _ hp F₁ N₁
    have hp : v = iterS f pre.length x₀ := hp
    subst hp
    have F₂ : Fr h₀ env.locals h (fun z => if z = x then some (.int k t) else if z = y then some (.str (iterS f pre.length x₀) tv) else m₀ z) := by
      have e : (fun z => if z = x then some (Value.int k t) else kstB (fun z => if ([] : List Str).contains z then u z else m₀ z) [(y, Value.str (iterS f pre.length x₀) tv)] z) = fun z => if z = x then some (Value.int k t) else if z = y then some (.str (iterS f pre.length x₀) tv) else m₀ z := by
        funext z
        show (if z = x then _ else if z = y then _ else (if ([] : List Str).contains z then u z else m₀ z)) = _
        rw [noneIn]
      rw [← e]
      exact F₁
    refine wpAny_mono (turn pre.length k t tv h tk own hpre ho F₂ N₁) (fun fl s₂ hq => ?_) fun _ _ e => e
    obtain ⟨rfl, h', tk', m', t', rfl, F', N', hy', hz⟩ := hq
    refine InvEndN.intro (news' := news ++ own) F' N' ⟨(iterS f (pre.length + 1) x₀, t'), rfl, trivial, ?_, ?_, ?_⟩ rfl ?_ ?_
    · intro p hp
      rw [List.mem_singleton.mp hp]
      exact hy'
    · intro z hz1 hz2 _
      exact hz z hz1 (hz2 _ (List.mem_singleton.mpr rfl))
    · show iterS f (pre.length + 1) x₀ = iterS f (pre ++ [k]).length x₀
      rw [List.length_append, List.length_singleton]
    · intro p hp
      exact List.mem_append.mpr (.inl hp)
    · intro p hp
      exact List.mem_append.mpr (.inr hp)
  · rintro ⟨v, tv⟩ u h tk _ hp F₁ N₁
    have hp : v = iterS f n x₀ := by
      have : v = iterS f (rangeKs 0 n).length x₀ := hp
      rwa [rangeKs_length] at this
    subst hp
    refine done u tv h tk ?_ N₁
    have e : (fun z => if z = x then u z else kstB (fun z => if ([] : List Str).contains z then u z else m₀ z) [(y, Value.str (iterS f n x₀) tv)] z) = fun z => if z = x then u z else if z = y then some (.str (iterS f n x₀) tv) else m₀ z := by
      funext z
      show (if z = x then _ else if z = y then _ else (if ([] : List Str).contains z then u z else m₀ z)) = _
      rw [noneIn]
    rw [← e]
    exact F₁
end

structure Stop (P : Prop) : Prop where
  out : P
theorem take_len {vs : List Value} {ns : List Int} (_ : IntsAre vs (List.take 63 ns)) : (List.take 63 ns).length ≤ 63 := List.length_take_le ..
section
variable {prog : Program} {w : World} {A : Around} {E : Value → Shared → Prop} {s : Shared}
theorem ne_same {x y : Str} {t u : Tok} {Q : Value → Shared → Prop} (e : x = y) (h : Q (.bool false) s) : wpAny (model prog w) A (compareOp .NotEq (.str x t) (.str y u)) Q E s := by
  subst e
  exact P.ne_str (by rw [bne_self_eq_false]; exact h)
theorem eq_same {x y : Str} {t u : Tok} {Q : Value → Shared → Prop} (e : x = y) (h : Q (.bool true) s) : wpAny (model prog w) A (compareOp .Eq (.str x t) (.str y u)) Q E s := by
  subst e
  exact P.eq_str (by rw [beq_self_eq_true]; exact h)
end
end Mine

namespace Mine
/-! the plain law of quote_string -/
def mkL (k : Nat) : List Nat := List.replicate (2 ^ k - 1) 92 ++ [34]
theorem mq_rep : ∀ n : Nat, (List.replicate n 92).flatMap mqF = List.replicate (2 * n) 92
  | 0 => rfl
  | n + 1 => by
    rw [List.replicate_succ, List.flatMap_cons, mq_rep n, show 2 * (n + 1) = 2 * n + 1 + 1 from by omega, List.replicate_succ, List.replicate_succ]
    rfl
theorem mq_34 : [34].flatMap mqF = [92, 34] := by decide
theorem mq_mk (k : Nat) : (mkL k).flatMap mqF = mkL (k + 1) := by
  have h0 : 0 < 2 ^ k := Nat.two_pow_pos k
  unfold mkL
  rw [List.flatMap_append, mq_rep, mq_34, show 2 ^ (k + 1) - 1 = 2 * (2 ^ k - 1) + 1 from by rw [Nat.pow_succ]; omega, List.replicate_succ', List.append_assoc]
  rfl
theorem mq_gs (n c : Nat) : (gsL n c).flatMap mqF = gsL (n + 1) c := by
  unfold gsL
  split
  · rw [mq_rep, Nat.pow_succ, Nat.mul_comm]
  · split
    · exact mq_mk n
    · rename_i h1 h2
      simp [mqF, h1, h2]
def marksL (n : Nat) : List (List Nat) := (List.range n).map mkL
theorem marks_succ (n : Nat) : marksL (n + 1) = [34] :: (marksL n).map fun l => l.flatMap mqF := by
  unfold marksL
  rw [List.range_succ_eq_map, List.map_cons, List.map_map, List.map_map]
  congr 1
  refine List.map_congr_left fun k _ => ?_
  exact (mq_mk k).symm
theorem flat_mq : ∀ l : List (List Nat), l.flatten.flatMap mqF = (l.map fun a => a.flatMap mqF).flatten
  | [] => rfl
  | a :: r => by rw [List.flatten_cons, List.flatMap_append, flat_mq r, List.map_cons, List.flatten_cons]
theorem told_list (x : Str) : ∀ n : Nat, (iterS quoteS n x).cps.toList = (marksL n).flatten ++ x.cps.toList.flatMap (gsL n) ++ (marksL n).reverse.flatten
  | 0 => by
    show x.cps.toList = [] ++ x.cps.toList.flatMap (gsL 0) ++ []
    rw [List.nil_append, List.append_nil]
    conv => lhs; rw [← List.flatMap_singleton' x.cps.toList]
    congr 1
    funext c
    unfold gsL
    split
    · rename_i h; subst h; rfl
    · split
      · rename_i h; subst h; rfl
      · rfl
  | n + 1 => by
    show (quoteS (iterS quoteS n x)).cps.toList = _
    rw [quoteS_list, told_list x n, List.flatMap_append, List.flatMap_append, flat_mq, flat_mq, flat_flat, marks_succ, List.flatten_cons, List.reverse_cons, List.flatten_append, List.map_reverse]
    have e : (fun k => (gsL n k).flatMap mqF) = gsL (n + 1) := funext fun c => mq_gs n c
    rw [e]
    simp [List.append_assoc]
def markS (k : Int) : Str := Txt.mul (Str.ofString "\\") (2 ^ k.toNat - 1) ++ Str.ofString "\""
theorem markS_list (k : Int) : (markS k).cps.toList = mkL k.toNat := by
  unfold markS
  rw [app_list, mul_bs, pow1_toNat, e_qm]
  rfl
theorem marks_eq (n : Nat) : ((rangeKs 0 n).map markS).map (fun a => a.cps.toList) = marksL n := by
  unfold rangeKs marksL
  rw [List.map_map, List.map_map]
  refine List.map_congr_left fun k _ => ?_
  show (markS (0 + (k : Int))).cps.toList = mkL k
  rw [markS_list]
  congr 1
  omega
/-- the text quoted n times over is the marks, the guarded text, the marks from behind -/
theorem told_law (x : Str) (T : Int) : iterS quoteS (T - 0).toNat x = Txt.join (Str.ofString "") ((rangeKs 0 (T - 0).toNat).map markS) ++ guardS x T ++ Txt.join (Str.ofString "") ((rangeKs 0 (T - 0).toNat).map markS).reverse := by
  refine str_ext ?_
  rw [told_list, app_list, app_list, join0_list, join0_list, guardS_list, List.map_reverse, marks_eq, Int.sub_zero]
theorem mark_le {k : Int} (h : k < 4) : (markS k).length ≤ 8 := by
  rw [← len_list, markS_list]
  unfold mkL
  have hp : 2 ^ k.toNat ≤ 2 ^ 3 := Nat.pow_le_pow_right (by decide) (by omega)
  have hq : 2 ^ 3 = 8 := by decide
  have h0 : 0 < 2 ^ k.toNat := Nat.two_pow_pos _
  rw [List.length_append, List.length_replicate, List.length_singleton]
  omega
theorem mulOk_pow1 {k : Int} (h : k < 4) : MulOk (Str.ofString "\\") (2 ^ k.toNat - 1) := by
  have hb := pow_bnd (n := k) (by omega)
  exact mulOk_of 1 20 (by decide) (by omega) (by omega) (by decide) (by decide)
theorem marks_len {n : Nat} (hn : n ≤ 4) : ∀ a ∈ (rangeKs 0 n).map markS, a.length ≤ 8 := by
  intro a ha
  obtain ⟨k, hk, rfl⟩ := List.mem_map.mp ha
  have := (mem_rangeKs hk).2
  exact mark_le (by omega)
theorem join_len {l : List Str} {m n : Nat} (h : ∀ a ∈ l, a.length ≤ m) (hn : l.length ≤ n) : (Txt.join (Str.ofString "") l).length ≤ n * m := by
  rw [← len_list, join0_list]
  have h1 : ∀ l : List Str, (l.map fun a => a.cps.toList).flatten.length = (l.map (·.length)).sum := by
    intro l
    induction l with
    | nil => rfl
    | cons a r ih => rw [List.map_cons, List.flatten_cons, List.length_append, ih, len_list]; rfl
  rw [h1]
  exact Nat.le_trans (sum_le m l h) (Nat.mul_le_mul_right _ hn)
section
variable {prog : Program} {w : World} {A : Around} {E : Value → Shared → Prop} {s : Shared}
theorem strs_rev {vs : List Value} {ys : List Str} (h : StrsAre vs ys) : StrsAre vs.reverse ys.reverse := by
  induction h with
  | nil => exact .nil
  | cons y t _ ih => rw [List.reverse_cons, List.reverse_cons]; exact strs_snoc ih
theorem join_some {D : Addr} {t : Tok} {vs : List Value} {ys : List Str} {m n : Nat} {Q : Value → Shared → Prop} (hl : s.heap.IsList D vs.toArray) (hc : StrsAre vs ys) (hm : ∀ a ∈ ys, a.length ≤ m) (hn : ys.length ≤ n) (hmn : n * m ≤ 16777216)
    (h : ∀ tx, tx = Txt.join (Str.ofString "") ys → tx.length ≤ n * m → ∀ t' k, Q (.str tx t') { s with toks := k }) : wpAny (model prog w) A (call (.builtin "str.join") [.str (Str.ofString "") t, .ref D]) Q E s :=
  join_list hl hc (join_fits hm hn hmn) (h _ rfl (join_len hm hn))
end
theorem guardS_le {v : Str} {n : Int} (h : n ≤ 4) : (guardS v n).length ≤ 16 * v.length := by
  rw [← len_list, ← len_list, guardS_list]
  exact flat_le _ 16 (gsL_le (by omega)) _
end Mine

namespace Mine
set_option maxRecDepth 100000 in
set_option maxHeartbeats 8000000 in
open_top hd for PySem.Challenge.rw_dm0092_02
end Mine

namespace Mine
/-! plain laws of make_parenthesis_pairs -/
theorem e_lp : Str.ofString "(" = ⟨#[40]⟩ := by decide +kernel
theorem e_rp : Str.ofString ")" = ⟨#[41]⟩ := by decide +kernel
theorem e_blp : Str.ofString "\\(" = ⟨#[92, 40]⟩ := by decide +kernel
theorem e_brp : Str.ofString "\\)" = ⟨#[92, 41]⟩ := by decide +kernel
def rp1 (v : Str) : Str := Txt.replace v (Str.ofString "\\") (Str.ofString "\\\\")
def rp2 (v : Str) : Str := Txt.replace (rp1 v) (Str.ofString "(") (Str.ofString "\\(")
def mpp (v : Str) : Str := Txt.replace (rp2 v) (Str.ofString ")") (Str.ofString "\\)")
def mpF (k : Nat) : List Nat := if k = 92 then [92, 92] else if k = 40 then [92, 40] else if k = 41 then [92, 41] else [k]
theorem mpp_list (v : Str) : (mpp v).cps.toList = v.cps.toList.flatMap mpF := by
  unfold mpp rp2 rp1
  rw [e_bs, e_lp, e_rp, e_bs2, e_blp, e_brp, replace_list, replace_list, replace_list, flat_flat, flat_flat]
  congr 1
  funext k
  unfold mpF one
  by_cases h : k = 92
  · subst h; decide
  · by_cases h2 : k = 40
    · subst h2; decide
    · by_cases h3 : k = 41
      · subst h3; decide
      · simp [h, h2, h3]
theorem rp1_le (v : Str) : (rp1 v).length ≤ 2 * v.length := rep1_le v
theorem rp2_le (v : Str) : (rp2 v).length ≤ 4 * v.length := by
  have h1 := rp1_le v
  have h2 : (rp2 v).length ≤ 2 * (rp1 v).length := by
    unfold rp2
    rw [e_lp]
    exact replace_le _ _ _ (by decide +kernel)
  omega
theorem mpp_le (v : Str) : (mpp v).length ≤ 2 * v.length := by
  rw [← len_list, ← len_list, mpp_list]
  refine flat_le _ 2 (fun k => ?_) _
  unfold mpF
  split
  · decide
  · split
    · decide
    · split
      · decide
      · exact Nat.le_succ 1
theorem rep2_le (v : Str) : (Txt.replace (Txt.replace v (Str.ofString "\\") (Str.ofString "\\\\")) (Str.ofString "(") (Str.ofString "\\(")).length ≤ 4 * v.length := rp2_le v
def signS2 (x : Int) : Str := if x.fmod 7 = 6 then ⟨#[((x.fdiv 7).fmod 55296).toNat]⟩ else Txt.item (Str.ofString "()\"\\ a") (x.fmod 7)
end Mine

namespace Mine
abbrev C2 (r : Nat) (w : World) (mean : ExcName → Option Value) (mg mb : Str → Option Value) (f : Addr) (vs : List Value) (Pre : Option (List Code) → List (Addr × Obj) → Prop) (R : Tok → Value) : Prop :=
  Ct r Challenge.rw_dm0092_02.row.prog w (hd.heap_39 w.params) hd.view_39 (looseW hd.view_39 []) mean mg mb f vs Pre R

local macro_rules | `(tactic| walk_at "call builtin:str.replace") => `(tactic| (k_here; (show wpAny _ _ (call (Value.builtin "str.replace") [Value.str _ _, Value.str _ _, Value.str _ _]) _ _ _); (refine replaceT (by show @Ne Nat _ _; (try dsimp only); omega) (by show @Ne Nat _ _; (try dsimp only); omega) (by show @Ne Nat _ _; (try dsimp only); omega) (by decide) ?hx (by decide) ?_); (case hx => with_reducible assumption); intro t9 k9 hk9; (try dsimp only at hk9)))

set_option maxHeartbeats 1000000 in
theorem mqpC2 (w : World) {mean : ExcName → Option Value} {mg mb : Str → Option Value} {v : Str} {t : Tok} :
    C2 1 w mean mg mb 21 [.str v t] (fun _ _ => v.length ≤ 200000) (fun t => .str (mqp v) t) := by
  w_on
  dsimp only [C2, Ct]
  k_fill
  intros; rename_i hv _ _ hret
  have f0 : v.length ≤ 1048576 := by omega
  have f1 : (Txt.replace v (Str.ofString "\\") (Str.ofString "\\\\")).length ≤ 1048576 := Nat.le_trans (rep1_le v) (by omega)
  have f2 : (Txt.replace (Txt.replace v (Str.ofString "\\") (Str.ofString "\\\\")) (Str.ofString "(") (Str.ofString "\\(")).length ≤ 1048576 := Nat.le_trans (rep2_le v) (by omega)
  clear hv
  refine wpAny_call ?_
  k_dflt cell_enter
  refine gen_toks (Nat.le_refl 1) ?_
  intro tk htk
  k_steps
  exact hret _ _ _ (by assumption) (by assumption)

set_option maxHeartbeats 1000000 in
theorem mppC2 (w : World) {mean : ExcName → Option Value} {mg mb : Str → Option Value} {v : Str} {t : Tok} :
    C2 1 w mean mg mb 28 [.str v t] (fun _ _ => v.length ≤ 200000) (fun t => .str (mpp v) t) := by
  w_on
  dsimp only [C2, Ct]
  k_fill
  intros; rename_i hv _ _ hret
  have f0 : v.length ≤ 1048576 := by omega
  have f1 : (Txt.replace v (Str.ofString "\\") (Str.ofString "\\\\")).length ≤ 1048576 := Nat.le_trans (rep1_le v) (by omega)
  have f2 : (Txt.replace (Txt.replace v (Str.ofString "\\") (Str.ofString "\\\\")) (Str.ofString "(") (Str.ofString "\\(")).length ≤ 1048576 := Nat.le_trans (rep2_le v) (by omega)
  clear hv
  refine wpAny_call ?_
  k_dflt cell_enter
  refine gen_toks (Nat.le_refl 1) ?_
  intro tk htk
  k_steps
  exact hret _ _ _ (by assumption) (by assumption)

set_option maxHeartbeats 1000000 in
theorem signC2 (w : World) {mean : ExcName → Option Value} {mg mb : Str → Option Value} {x : Int} {t : Tok} :
    C2 1 w mean mg mb 35 [.int x t] (fun _ _ => True) (fun t => .str (signS2 x) t) := by
  w_on
  dsimp only [C2, Ct]
  k_fill
  intros; rename_i _ _ _ hret
  refine wpAny_call ?_
  k_dflt cell_enter
  refine gen_toks (Nat.le_refl 1) ?_
  intro tk htk
  k_steps
  · exact cb_retS hret (if_pos (by assumption)).symm (by assumption) (by assumption)
  · exact cb_retS hret (if_neg (by assumption)).symm (by assumption) (by assumption)
end Mine

namespace Mine
def textS2 (ns : List Int) : Str := Txt.join (Str.ofString "") (ns.map signS2)
theorem sign2_len (x : Int) : (signS2 x).length ≤ 1 := by
  unfold signS2
  split
  · exact Nat.le_refl 1
  · have h0 := fmod_lo x (n := 7) (by decide)
    have h1 := fmod_hi x (n := 7) (by decide)
    generalize x.fmod 7 = k at *
    have : k = 0 ∨ k = 1 ∨ k = 2 ∨ k = 3 ∨ k = 4 ∨ k = 5 ∨ k = 6 := by omega
    rcases this with rfl | rfl | rfl | rfl | rfl | rfl | rfl <;> decide +kernel
/-- the end of a turn of a comprehension whose element is a plain datum -/
def DatEl (news : List (Addr × Obj)) (d : PyData) (y : Value) (news' : List (Addr × Obj)) : Prop := news' = news ∧ Carried y d
section
variable {prog : Program} {w : World} {A : Around} {h₀ : Heap} {L : Addr} {m : Str → Option Value} {env : Env} {elt : Expr} {x : Str} {scope : Scope} {cl : List (Str × Addr)} {s : Shared} {S : List (Addr × Obj) → Prop} {P : Nat → Value → Prop} {Fin : List Value → List (Addr × Obj) → Prop} {news : List (Addr × Obj)}
/-- a comprehension over values that each turn makes a plain datum of -/
theorem comp_dat {vs : List Value} (d : Value → PyData)
    (turn : ∀ v I oI C oC D m₂ ys h tk (E' : Value → Shared → Prop), v ∈ vs → LCg.NsObj oC m₂ → m₂ x = some v → Fr h₀ L h m → News h₀ L h ((I, oI) :: (C, oC) :: (D, LCg.lst ys) :: news) → LCg.Off3 I C D news → ((@Ne Nat I C) ∧ (@Ne Nat I D) ∧ (@Ne Nat C D)) →
      wpAny (model prog w) A (eval elt (compEnvC scope cl C env)) (LCg.CompEnd h₀ L m { s with heap := h, toks := tk } I oI C oC D (LCg.lst ys) S (fun y news' => DatEl news (d v) y news')) E' { s with heap := h, toks := tk })
    (fin : ∀ ys, CarriedAll ys (vs.map d) → Fin ys news) : LCg.CompRest prog w A h₀ L m env elt x scope cl s S (fun i v => vs.toArray[i]? = some v) Fin vs.toArray.size 0 [] news := by
  have key : ∀ (j i : Nat) (ys : List Value), i + j = vs.length → CarriedAll ys ((vs.take i).map d) → LCg.CompRest prog w A h₀ L m env elt x scope cl s S (fun i v => vs.toArray[i]? = some v) Fin j i ys news := by
    intro j
    induction j with
    | zero =>
      intro i ys hi hy
      have e : vs.take i = vs := List.take_of_length_le (by omega)
      rw [e] at hy
      exact LCg.CompRest.zero (fin ys hy)
    | succ j ih =>
      intro i ys hi hy
      refine LCg.CompRest.succ fun v I oI C oC D m₂ h tk E' hv hC hx F N off ne => ?_
      have hv' : vs[i]? = some v := by simpa using hv
      refine wpAny_mono (turn v I oI C oC D m₂ ys h tk E' (List.mem_of_getElem? hv') hC hx F N off ne) (fun y s₂ hq => ?_) fun _ _ e => e
      obtain ⟨h', tk', nw, e, F', N', off', hS, hn, hc⟩ := hq
      subst hn
      refine ⟨h', tk', nw, e, F', N', off', hS, ih (i + 1) _ (by omega) ?_⟩
      rw [List.take_add_one, hv']
      show CarriedAll _ ((vs.take i ++ [v]).map d)
      rw [List.map_append]
      exact CarriedAll.appendLM hy (.cons hc .nil)
  rw [List.size_toArray]
  exact key vs.length 0 [] (by omega) .nil
end
section
variable {prog : Program} {w : World} {A : Around} {E : Value → Shared → Prop} {s : Shared}
theorem join_text2 {D : Addr} {t : Tok} {ys : List Value} {ns : List Int} {Q : Value → Shared → Prop} (hl : s.heap.IsList D ys.toArray) (hc : CarriedAll ys (ns.map fun k => PyData.str (signS2 k))) (h63 : ns.length ≤ 63)
    (h : ∀ tx, tx = textS2 ns → tx.length ≤ 63 → ∀ t' k, Q (.str tx t') { s with toks := k }) : wpAny (model prog w) A (call (.builtin "str.join") [.str (Str.ofString "") t, .ref D]) Q E s :=
  join_some (m := 1) (n := 63) hl hc.strsOf (fun a ha => by obtain ⟨k, _, rfl⟩ := List.mem_map.mp ha; exact sign2_len k) (by rw [List.length_map]; exact h63) (by decide) h
end
def dOdd : Value → PyData
  | .int k _ => .bool (k.fmod 2 == 1)
  | _ => .none
theorem ints_mem {v : Value} : ∀ {vs : List Value} {ns : List Int}, IntsAre vs ns → v ∈ vs → ∃ k t, v = .int k t
  | _, _, .nil, h => nomatch h
  | _, _, .cons k t r, h => by
    rcases List.mem_cons.mp h with rfl | h
    · exact ⟨k, t, rfl⟩
    · exact ints_mem r h
section
variable {prog : Program} {w : World} {A : Around} {E : Value → Shared → Prop} {s : Shared} {h₀ : Heap} {L l : Addr} {m : Str → Option Value} {news : List (Addr × Obj)} {value slice : PySem.Expr} {vs : List Value} {ops : List Value} {Q : Value → Shared → Prop}
theorem slice_any {items : Array Value} {vl vu vk : Value} {lo hi st : Option Int}
    (F : Fr h₀ L s.heap m) (N : News h₀ L s.heap news) (hl : s.heap.IsList l items) (pl : IsPart vl lo) (pu : IsPart vu hi) (pk : IsPart vk st) (h0 : st ≠ some 0)
    (h : ∀ D h', Fr h₀ L h' m → News h₀ L h' ((D, W.listOf (slicePick items lo hi st) 0) :: news) → (∀ p ∈ news, p.1 < D) → Q (.ref D) { s with heap := h' })
    (hs : subscripted slice false (.ref l) (.ref s.heap.objs.size) = operate ops (getItem (.ref l) (.ref s.heap.objs.size))) (hsz : items.size ≤ sizeLine) :
    wpAny (model prog w) A (subscriptTail value slice (.ref l) (.ref s.heap.objs.size)) Q E { s with heap := s.heap.push { cls := .type "slice", data := .fields #[vl, vu, vk] } } := by
  refine tail_any (Heap.IsList.typeIs (s := { s with heap := s.heap.push { cls := .type "slice", data := .fields #[vl, vu, vk] } }) (hl.push _)) slot_list_getitem.lookup
    (wpAny_getItem_list_slice (hl.push _) (Heap.IsSliceOf.new ..) pl pu pk h0 ?_ hsz) hs
  have N1 := News.push (F.push { cls := .type "slice", data := .fields #[vl, vu, vk] }) (N.grown fun _ _ e => Heap.get?_push_of_some _ e) { cls := .type "list", data := .seq (slicePick items lo hi st) }
  rw [Heap.size_push] at N1
  show Q (.ref (s.heap.push _).objs.size) _
  rw [Heap.size_push]
  exact h _ _ ((F.push _).push _) N1 fun p hp => Nat.lt_succ_of_lt (Heap.lt_size (N p hp).1)
theorem slice_from {n : Nat} {t : Tok} (F : Fr h₀ L s.heap m) (N : News h₀ L s.heap news) (hl : s.heap.IsList l vs.toArray)
    (h : ∀ D h', Fr h₀ L h' m → News h₀ L h' ((D, W.listOf (vs.drop n).toArray 0) :: news) → (∀ p ∈ news, p.1 < D) → Q (.ref D) { s with heap := h' })
    (hs : subscripted slice false (.ref l) (.ref s.heap.objs.size) = operate ops (getItem (.ref l) (.ref s.heap.objs.size))) (hz : vs.toArray.size ≤ sizeLine) :
    wpAny (model prog w) A (subscriptTail value slice (.ref l) (.ref s.heap.objs.size)) Q E { s with heap := s.heap.push { cls := .type "slice", data := .fields #[.int (n : Int) t, .none, .none] } } := by
  refine slice_any F N hl (.int _ _) .none .none (by decide) (fun D h' F' N' l1 => h D h' F' ?_ l1) hs hz
  rw [slicePick_from'] at N'
  exact N'
theorem slice_upto {n : Nat} {t : Tok} (F : Fr h₀ L s.heap m) (N : News h₀ L s.heap news) (hl : s.heap.IsList l vs.toArray)
    (h : ∀ D h', Fr h₀ L h' m → News h₀ L h' ((D, W.listOf (vs.take n).toArray 0) :: news) → (∀ p ∈ news, p.1 < D) → Q (.ref D) { s with heap := h' })
    (hs : subscripted slice false (.ref l) (.ref s.heap.objs.size) = operate ops (getItem (.ref l) (.ref s.heap.objs.size))) (hz : vs.toArray.size ≤ sizeLine) :
    wpAny (model prog w) A (subscriptTail value slice (.ref l) (.ref s.heap.objs.size)) Q E { s with heap := s.heap.push { cls := .type "slice", data := .fields #[.none, .int (n : Int) t, .none] } } := by
  refine slice_any F N hl .none (.int _ _) .none (by decide) (fun D h' F' N' l1 => h D h' F' ?_ l1) hs hz
  rw [slicePick_upto'] at N'
  exact N'
end
theorem odd_bools : ∀ {ws ys : List Value} {ns : List Int}, IntsAre ws ns → CarriedAll ys (ws.map dOdd) → ∃ bs : List Bool, ys = bs.map Value.bool ∧ bs.length = ws.length
  | _, _, _, .nil, h => by cases h; exact ⟨[], rfl, rfl⟩
  | _, _, _, .cons k t r, h => by
    cases h with
    | cons h1 h2 =>
      obtain ⟨bs, rfl, hb⟩ := odd_bools r h2
      cases h1 with
      | bool b => exact ⟨_ :: bs, rfl, by rw [List.length_cons, List.length_cons, hb]⟩
theorem row_bools {bs : List Bool} (h : bs.length ≤ 4) : ∃ b0 b1 b2 b3 : Bool, bs.map Value.bool ++ [Value.bool false, Value.bool true, Value.bool false, Value.bool false].drop (bs.map Value.bool).length = [Value.bool b0, Value.bool b1, Value.bool b2, Value.bool b3] := by
  match bs, h with
  | [], _ => exact ⟨_, _, _, _, rfl⟩
  | [a], _ => exact ⟨_, _, _, _, rfl⟩
  | [a, b], _ => exact ⟨_, _, _, _, rfl⟩
  | [a, b, c], _ => exact ⟨_, _, _, _, rfl⟩
  | [a, b, c, d], _ => exact ⟨_, _, _, _, rfl⟩
  | _ :: _ :: _ :: _ :: _ :: _, h => exact absurd h (by simp)
end Mine

namespace Mine
/-! a for whose target is any name (a cell, too): the ledger and the frame from turn to turn -/
def ForEnd (h₀ : Heap) (L I : Addr) (oI : Obj) (fixed : List (Addr × Obj)) (adr : List Addr) (J : (Str → Option Value) → List (Addr × Obj) → Prop) (s : Shared) (Q : Flow → Shared → Prop) (f : Flow) (s₃ : Shared) : Prop :=
  match f with
  | .ret v => Q (.ret v) s₃
  | .brk => Q .next s₃
  | _ => ∃ h' tk m' led' all, s₃ = { s with heap := h', toks := tk } ∧ Fr h₀ L h' m' ∧ News h₀ L h' all ∧ (I, oI) ∈ all ∧ (∀ p ∈ fixed, p ∈ all) ∧ (∀ p ∈ led', p ∈ all) ∧ led'.map (·.1) = adr ∧ J m' led'
theorem ForEnd.intro {h₀ : Heap} {L I : Addr} {oI : Obj} {fixed : List (Addr × Obj)} {adr : List Addr} {J : (Str → Option Value) → List (Addr × Obj) → Prop} {s : Shared} {Q : Flow → Shared → Prop} {h' : Heap} {tk : Nat} {m' : Str → Option Value} {led' all : List (Addr × Obj)}
    (F : Fr h₀ L h' m') (N : News h₀ L h' all) (hI : (I, oI) ∈ all) (hf : ∀ p ∈ fixed, p ∈ all) (hl : ∀ p ∈ led', p ∈ all) (ha : led'.map (·.1) = adr) (hJ : J m' led') :
    ForEnd h₀ L I oI fixed adr J s Q .next { s with heap := h', toks := tk } := ⟨h', tk, m', led', all, rfl, F, N, hI, hf, hl, ha, hJ⟩
section
variable {prog : Program} {w : World} {A : Around} {s : Shared} {env : Env} {h₀ : Heap} {L : Addr} {target : Expr} {body : List Stmt} {Q : Flow → Shared → Prop}
theorem for_led {I : Addr} {fp : List Addr} {n : Nat} {P : Nat → Value → Prop} {St : Nat → Heap → Prop} {X : Value → Shared → Prop} {m₀ : Str → Option Value} {led₀ : List (Addr × Obj)} (fixed : List (Addr × Obj)) (adr : List Addr) (J : Nat → (Str → Option Value) → List (Addr × Obj) → Prop)
    (W : Walks prog w A I fp [I] n P St) (hIo : ∀ i h, St i h → ∃ o, h.get? I = some o) (hfp : ∀ b ∈ fp, b = I ∨ ∃ o, (b, o) ∈ fixed) (hIL : L ≠ I) (hI₀ : h₀.get? I = none)
    (hst : St 0 s.heap) (F : Fr h₀ L s.heap m₀) (N : News h₀ L s.heap (fixed ++ led₀)) (hne : ∀ p ∈ fixed, p.1 ≠ I) (hadr : ∀ a ∈ adr, a ≠ I) (hled : led₀.map (·.1) = adr) (h0 : J 0 m₀ led₀)
    (turn : ∀ (i : Nat) (v : Value) (m₁ : Str → Option Value) (led : List (Addr × Obj)) (h : Heap) (tk : Nat) (oI : Obj), i < n → P i v → led.map (·.1) = adr → J i m₁ led → Fr h₀ L h m₁ → News h₀ L h ((I, oI) :: (fixed ++ led)) →
      wpAny (model prog w) A (assign target env v) (fun _ s₂ => wpAny (model prog w) A (execs body env) (ForEnd h₀ L I oI fixed adr (J (i + 1)) { s with heap := h, toks := tk } Q) (fun _ _ => False) s₂) (fun _ _ => False) { s with heap := h, toks := tk })
    (done : ∀ (m₁ : Str → Option Value) (led : List (Addr × Obj)) (h : Heap) (tk : Nat), led.map (·.1) = adr → J n m₁ led → Fr h₀ L h m₁ → News h₀ L h (fixed ++ led) → Q .next { s with heap := h, toks := tk })
    (ht : ∀ v, letOwnedTupleGo target (.ref I) v = pure () := by intro _; rfl) :
    codeAny (model prog w) A (.forLoop target (.ref I) body [] env) (fun r s' => match r with | .ok f => Q f s' | .error e => X e s') s := by
  have offAll : ∀ (led : List (Addr × Obj)), led.map (·.1) = adr → ∀ p ∈ fixed ++ led, p.1 ≠ I := by
    intro led hl p hp
    rcases List.mem_append.mp hp with hp | hp
    · exact hne p hp
    · exact hadr _ (hl ▸ List.mem_map_of_mem hp)
  refine codeAny_forLoop (fun k s' => ∃ i h tk m₁ led, s' = { s with heap := h, toks := tk } ∧ i ≤ n ∧ k = n + 1 - i ∧ St i h ∧ led.map (·.1) = adr ∧ J i m₁ led ∧ Fr h₀ L h m₁ ∧ News h₀ L h (fixed ++ led)) ?_ (n + 1)
    ⟨0, s.heap, s.toks, m₀, led₀, rfl, Nat.zero_le _, rfl, hst, hled, h0, F, N⟩ ht
  rintro k s' ⟨i, h, tk, m₁, led, rfl, hi, rfl, hst', hl', hJ, F', N'⟩
  by_cases hlt : i < n
  · refine W.item i _ _ _ hlt hst' fun v h₁ tk₁ hPv hst₁ hk₁ => ?_
    obtain ⟨oI, hoI⟩ := hIo _ _ hst₁
    have F₁ : Fr h₀ L h₁ m₁ := LCg.fr_but F' hk₁ hIL hI₀
    have N₁ : News h₀ L h₁ ((I, oI) :: (fixed ++ led)) := fun p hp => by
      rcases List.mem_cons.mp hp with rfl | hp
      · exact ⟨hoI, Ne.symm hIL, hI₀⟩
      · exact LCg.news_but N' hk₁ (offAll led hl') p hp
    refine wpAny_mono (turn i v m₁ led h₁ tk₁ oI hlt hPv hl' hJ F₁ N₁) (fun _ s₂ h₂ => ?_) fun _ _ e => e.elim
    refine wpAny_mono h₂ (fun f s₃ h₃ => ?_) fun _ _ e => e.elim
    have next : (∃ h' tk m' led' all, s₃ = { s with heap := h', toks := tk } ∧ Fr h₀ L h' m' ∧ News h₀ L h' all ∧ (I, oI) ∈ all ∧ (∀ p ∈ fixed, p ∈ all) ∧ (∀ p ∈ led', p ∈ all) ∧ led'.map (·.1) = adr ∧ J (i + 1) m' led') →
        ∃ m, m < n + 1 - i ∧ ∃ i h tk m₁ led, s₃ = { s with heap := h, toks := tk } ∧ i ≤ n ∧ m = n + 1 - i ∧ St i h ∧ led.map (·.1) = adr ∧ J i m₁ led ∧ Fr h₀ L h m₁ ∧ News h₀ L h (fixed ++ led) := by
      rintro ⟨h', tk', m', led', all, e, F₃, N₃, hI₃, hf₃, hl₃, ha₃, hJ₃⟩
      refine ⟨n + 1 - (i + 1), by omega, i + 1, h', tk', m', led', e, hlt, rfl, ?_, ha₃, hJ₃, F₃, fun p hp => ?_⟩
      · refine W.frame _ _ _ hst₁ fun b hb o e => ?_
        rcases hfp b hb with rfl | ⟨o', ho'⟩
        · rw [hoI] at e
          cases e
          exact (N₃ _ hI₃).1
        · have e1 := (N₁ _ (List.mem_cons_of_mem _ (List.mem_append.mpr (.inl ho')))).1
          rw [e] at e1
          cases e1
          exact (N₃ _ (hf₃ _ ho')).1
      · rcases List.mem_append.mp hp with hp | hp
        · exact N₃ p (hf₃ p hp)
        · exact N₃ p (hl₃ p hp)
    cases f with
    | ret v => exact h₃
    | brk => exact h₃
    | next => exact next h₃
    | cont => exact next h₃
  · have hin : i = n := by omega
    subst hin
    refine W.done _ _ _ hst' fun h₁ tk₁ hk₁ => wpAny_execs_nil ?_
    exact done m₁ led h₁ tk₁ hl' hJ (LCg.fr_but F' hk₁ hIL hI₀) (LCg.news_but N' hk₁ (offAll led hl'))
end
end Mine

namespace Mine
/-! comprehensions over a text's signs -/
theorem pyIter_strO {prog : Program} {w : World} {A : Around} {E : Value → Shared → Prop} {s : Shared} {x : Str} {t : Tok} {Q : Value → Shared → Prop}
    (hQ : ∀ (o : Obj) (St : Nat → Heap → Prop), (∀ A' : Around, A'.handled = none → Walks prog w A' s.heap.objs.size [s.heap.objs.size] [s.heap.objs.size] x.cps.size (SignAt x) St) → (∀ i h, St i h → ∃ o, h.get? s.heap.objs.size = some o) →
      St 0 (s.heap.push o) → Q (.ref s.heap.objs.size) { s with heap := s.heap.push o }) : wpAny (model prog w) A (pyIter (.str x t)) Q E s := by
  cases ha : x.cps.all (· < 128)
  · exact wpAny_pyIter_wide ha (hQ _ _ (fun A' hA => Walks.strWide hA _ x t) (fun i h st => by obtain ⟨o, e, _⟩ := st; exact ⟨o, e⟩) ⟨_, Heap.get?_push_size _ rfl, rfl, rfl⟩)
  · exact wpAny_pyIter_ascii ha (hQ _ _ (fun A' hA => Walks.strAscii hA _ x t) (fun i h st => by obtain ⟨o, e, _⟩ := st; exact ⟨o, e⟩) ⟨_, Heap.get?_push_size _ rfl, rfl, rfl⟩)
section
variable {prog : Program} {w : World} {A : Around} {E : Value → Shared → Prop} {s : Shared} {h₀ : Heap} {L : Addr} {m : Str → Option Value} {env : Env}
theorem ListComp_str {elt iter : Expr} {x : Str} {px : Pos} {scope : Scope} {cl : List (Str × Addr)} {pos : Pos} {Q : Value → Shared → Prop}
    (hclos : closureFor scope env = pure cl) (hcell : ∀ y ∈ scope.names, y.2 ≠ .cell) (hkind : scope.kind = .function)
    (hnames : ∀ y ∈ scope.names, y.2 = .local → scope.names.lookup y.1 = some .local) (hx : scope.names.lookup x = some .local)
    (h : wpAny (model prog w) A (eval iter env) (fun xv s₁ => ∃ xt tx news, xv = .str xt tx ∧ A.handled = none ∧ Fr h₀ L s₁.heap m ∧ News h₀ L s₁.heap news ∧ xt.cps.size ≤ sizeLine ∧
      ∀ s₂ : Shared, (∃ h, s₂ = { s₁ with heap := h }) → LCg.CompRest prog w A h₀ L m env elt x scope cl s₂ (fun _ => True) (SignAt xt) (LCg.FinE h₀ L m s₂ Q) xt.cps.size 0 [] news) E s)
    (hs : ∀ x, foldedSetIterable iter env x = pure x := by intro _; rfl) :
    wpAny (model prog w) A (eval (.ListComp elt [⟨.Name x px, iter, [], 0⟩] scope pos) env) Q E s := by
  rw [eval_ListComp]
  refine wpAny_comprehension_free (use := none) rfl hs hclos hkind hnames (wpAny_mono h (fun xv s₁ h₁ => ?_) fun _ _ e => e)
  obtain ⟨xt, tx, news, rfl, hh, F, N, hsz, R⟩ := h₁
  refine pyIter_strO fun o St hW hIo hst => ?_
  have W := hW A hh
  refine LCg.block_U W hsz hIo (fun i h h' o nw st e e' _ _ _ => W.frame _ _ _ st fun b hb o₂ e₂ => ?_) hcell hkind hx hst (fun b hb => ?_)
    (F.keeps fun _ _ e => Heap.get?_push_of_some _ e) (N.grown fun _ _ e => Heap.get?_push_of_some _ e) (Nat.ne_of_lt F.ns.lt) (next_is_new F) (fun p hp => Nat.ne_of_lt (Heap.lt_size (N p hp).1)) trivial (R _ ⟨_, rfl⟩) ?_
  · rw [List.mem_singleton.mp hb] at e₂ ⊢
    rw [e] at e₂
    cases e₂
    exact e'
  · rw [List.mem_singleton.mp hb]
    show s₁.heap.objs.size < (s₁.heap.push _).objs.size
    rw [Heap.size_push]; exact Nat.lt_succ_self _
  · intro D C h' tk m' ys news' F' N' o1 hn hC₀ hD₀ hCL hDL hCD offC fin
    refine ⟨m', hn, fun h'' hs'' => fin D h'' _ (F'.change hs'' hCL hC₀) (fun p hp => ?_) o1⟩
    refine ⟨hs''.extBut _ _ ?_ (N' p hp).1, (N' p hp).2⟩
    rcases List.mem_cons.mp hp with rfl | hp
    · exact Ne.symm hCD
    · exact offC p hp

/-- what a dict comprehension over a text's signs asks: J says of the pairs stored so far what the turns keep -/
structure DictSrc (prog : Program) (w : World) (A : Around) (h₀ : Heap) (L : Addr) (m : Str → Option Value) (env : Env) (vx : Expr) (x : Str) (scope : Scope) (cl : List (Str × Addr)) (Q : Value → Shared → Prop) (xt : Str) (news : List (Addr × Obj)) (s₁ : Shared) (J : Nat → List (Str × Value) → Prop) : Prop where
  fr : Fr h₀ L s₁.heap m
  led : News h₀ L s₁.heap news
  small : xt.cps.size ≤ sizeLine
  start : J 0 []
  len : ∀ i kvs, J i kvs → kvs.length ≤ i
  turn : ∀ (i k : Nat) (t : Tok) (I : Addr) (oI : Obj) (C : Addr) (oC : Obj) (D : Addr) (oD : Obj) (m₂ : Str → Option Value) (kvs : List (Str × Value)) (h : Heap) (tk : Nat) (E' : Value → Shared → Prop), xt.cps[i]? = some k → J i kvs → LCg.NsObj oC m₂ → m₂ x = some (.str ⟨#[k]⟩ t) →
    Fr h₀ L h m → News h₀ L h ((I, oI) :: (C, oC) :: (D, oD) :: news) → LCg.Off3 I C D news → ((@Ne Nat I C) ∧ (@Ne Nat I D) ∧ (@Ne Nat C D)) →
    wpAny (model prog w) A (eval vx (compEnvC scope cl C env)) (LCg.CompEnd h₀ L m { s₁ with heap := h, toks := tk } I oI C oC D oD (fun _ => True) (fun y news' => news' = news ∧ J (i + 1) (stored kvs ⟨#[k]⟩ y))) E' { s₁ with heap := h, toks := tk }
  fin : ∀ (D : Addr) (oD : Obj) (kvs : List (Str × Value)) (h : Heap) (tk : Nat), J xt.cps.size kvs → oD.IsDictOf (strKind prog w) kvs → (@LT.lt Nat _ L D) → Fr h₀ L h m → News h₀ L h ((D, oD) :: news) → LCg.Off1 D news → Q (.ref D) { s₁ with heap := h, toks := tk }

theorem DictComp_str {vx iter : Expr} {x : Str} {px pk : Pos} {scope : Scope} {cl : List (Str × Addr)} {pos : Pos} {Q : Value → Shared → Prop} (J : Nat → List (Str × Value) → Prop)
    (hh : A.handled = none) (hclos : closureFor scope env = pure cl) (hcell : ∀ y ∈ scope.names, y.2 ≠ .cell) (hkind : scope.kind = .function)
    (hnames : ∀ y ∈ scope.names, y.2 = .local → scope.names.lookup y.1 = some .local) (hx : scope.names.lookup x = some .local) (hb : (x == ("__debug__" : Str)) = false)
    (h : wpAny (model prog w) A (eval iter env) (fun xv s₁ => ∃ xt tx news, xv = .str xt tx ∧ DictSrc prog w A h₀ L m env vx x scope cl Q xt news s₁ J) E s)
    (hs : ∀ x, foldedSetIterable iter env x = pure x := by intro _; rfl) :
    wpAny (model prog w) A (eval (.DictComp (.Name x pk) vx [⟨.Name x px, iter, [], 0⟩] scope pos) env) Q E s := by
  rw [arm_eval_DictComp]
  refine wpAny_comprehension_free (use := none) rfl hs hclos hkind hnames (wpAny_mono h (fun xv s₁ h₁ => ?_) fun _ _ e => e)
  obtain ⟨xt, tx, news, rfl, ⟨F, N, hsz, hJ0, hJl, turn, fin⟩⟩ := h₁
  refine pyIter_strO fun o St hW hIo hst => ?_
  have W := hW A hh
  generalize hs2 : ({ s₁ with heap := s₁.heap.push o } : Shared) = s₂
  have es2 : ∀ h tk, ({ s₂ with heap := h, toks := tk } : Shared) = { s₁ with heap := h, toks := tk } := by intro h tk; rw [← hs2]
  have hheap : s₂.heap = s₁.heap.push o := by rw [← hs2]
  have hIlt : s₁.heap.objs.size < s₂.heap.objs.size := by rw [hheap, Heap.size_push]; exact Nat.lt_succ_self _
  have F2 : Fr h₀ L s₂.heap m := by rw [hheap]; exact F.keeps fun _ _ e => Heap.get?_push_of_some _ e
  have N2 : News h₀ L s₂.heap news := by rw [hheap]; exact N.grown fun _ _ e => Heap.get?_push_of_some _ e
  have hst2 : St 0 s₂.heap := by rw [hheap]; exact hst
  have hIL : L ≠ s₁.heap.objs.size := Nat.ne_of_lt F.ns.lt
  have hI₀ : h₀.get? s₁.heap.objs.size = none := next_is_new F
  have offI : ∀ p ∈ news, p.1 ≠ s₁.heap.objs.size := fun p hp => Nat.ne_of_lt (Heap.lt_size (N p hp).1)
  refine wpAny_newObj_type (wpAny_newFunctionEnv hcell (by intro y hy; simp at hy) (fun h₁ hns₁ hsb₁ => ?_) hkind)
  dsimp only at hns₁ hsb₁ ⊢
  have hnew : (s₂.heap.push { cls := .type "dict", dict := none, data := .dict #[] }).DictOf (strKind prog w) s₂.heap.objs.size [] := Heap.DictOf.new s₂.heap
  generalize hH2 : s₂.heap.push { cls := .type "dict", dict := none, data := .dict #[] } = H2 at hns₁ hsb₁ hnew ⊢
  have hC : H2.objs.size = s₂.heap.objs.size + 1 := by rw [← hH2, Heap.size_push]
  have hDC : s₂.heap.objs.size ≠ H2.objs.size := by rw [hC]; exact Nat.ne_of_lt (Nat.lt_succ_self _)
  have below : ∀ b, b < s₂.heap.objs.size → b ≠ H2.objs.size ∧ b ≠ s₂.heap.objs.size := fun b hb => ⟨by rw [hC]; exact Nat.ne_of_lt (Nat.lt_succ_of_lt hb), Nat.ne_of_lt hb⟩
  have old : ∀ b o, s₂.heap.get? b = some o → h₁.get? b = some o := fun b o e => hsb₁.extBut b o (below b (Heap.lt_size e)).1 (Heap.get?_push_of_some _ (hH2 ▸ Heap.get?_push_of_some _ e))
  have hacc : h₁.DictOf (strKind prog w) s₂.heap.objs.size [] := hnew.at fun o e => hsb₁.extBut _ _ hDC (Heap.get?_push_of_some _ e)
  have hst₁ : St 0 h₁ := W.frame _ _ _ hst2 fun b _ o e => old b o e
  have fresh : ∀ a, s₂.heap.objs.size ≤ a → s₂.heap.get? a = none := fun a ha => by
    cases e : s₂.heap.get? a with
    | none => rfl
    | some o' => exact absurd (Heap.lt_size e) (Nat.not_lt.mpr ha)
  have fresh₀ : ∀ a, s₂.heap.objs.size ≤ a → h₀.get? a = none := fun a ha => by
    cases e : h₀.get? a with
    | none => rfl
    | some o' => have := F2.keep a o' e; rw [fresh a ha] at this; cases this
  have hD₀ : h₀.get? s₂.heap.objs.size = none := fresh₀ _ (Nat.le_refl _)
  have hC₀ : h₀.get? H2.objs.size = none := fresh₀ _ (by rw [hC]; exact Nat.le_succ _)
  have hDL : s₂.heap.objs.size ≠ L := Ne.symm (below L F2.ns.lt).2
  have hCL : H2.objs.size ≠ L := Ne.symm (below L F2.ns.lt).1
  have hCI : s₁.heap.objs.size ≠ H2.objs.size := (below _ hIlt).1
  have hDI : s₁.heap.objs.size ≠ s₂.heap.objs.size := (below _ hIlt).2
  have off₀ : LCg.Off3 s₁.heap.objs.size H2.objs.size s₂.heap.objs.size news := LCg.Off3.of fun p hp => ⟨offI p hp, (below _ (Heap.lt_size (N2 p hp).1)).1, (below _ (Heap.lt_size (N2 p hp).1)).2⟩
  have off3 := off₀.mem
  have loop : ∀ s₃ : Shared, s₃ = { s₂ with heap := h₁, toks := s₂.toks + ([] : List (Str × Value)).length } →
      codeAny (model prog w) A (.compLoop (.DictComp (.Name x pk) vx [⟨.Name x px, iter, [], 0⟩] scope pos) 0 (.ref s₁.heap.objs.size) (.ref s₂.heap.objs.size) (compEnvC scope cl H2.objs.size env))
        (compPost (model prog w) A E none Q (.ref s₂.heap.objs.size) H2.objs.size) s₃ := by
    rintro s₃ rfl
    refine codeAny_compLoop_testsD
      (fun k s' => ∃ h' tk i kvs m', s' = { s₁ with heap := h', toks := tk } ∧ i ≤ xt.cps.size ∧ k = xt.cps.size + 1 - i ∧ St i h' ∧ Fr h₀ L h' m ∧ h'.Ns H2.objs.size m' ∧ h'.DictOf (strKind prog w) s₂.heap.objs.size kvs ∧ News h₀ L h' news ∧ J i kvs) ?_ (xt.cps.size + 1)
      ⟨h₁, _, 0, [], _, es2 _ _, Nat.zero_le _, rfl, hst₁, F2.keeps old, hns₁, hacc, N2.grown old, hJ0⟩
    rintro k s' ⟨h', tk, i, kvs, m', rfl, hi, rfl, hst', F', hn', hD', N', hJ⟩
    by_cases hlt : i < xt.cps.size
    · refine W.item i _ _ _ hlt hst' fun v h₂ tk₂ hPv hst₂ hk₂ => ?_
      obtain ⟨c, u, hc, rfl⟩ := hPv
      refine wpAny_assign_Name (wpAny_storeName_local (lookup_relabel_local hx) (hn'.at' fun o e => hk₂ _ o (by simpa using Ne.symm hCI) e) (fun h₃ hn₃ hs₃ => ?_) (by simp [compEnvC, relabel, hkind]))
      refine wpAny_tests_nil ?_
      simp only [if_true]
      refine wpAny_Name (wpAny_loadName_local (by simp [compEnvC, relabel, hkind]) (lookup_relabel_local hx) hn₃ (v := .str ⟨#[c]⟩ u) (by simp) ?_) hb
      have hst₃ : St (i + 1) h₃ := W.frame _ _ _ hst₂ fun b hb o e => hs₃.extBut b o (fun q => hCI (by rw [← List.mem_singleton.mp hb]; exact q)) e
      obtain ⟨oI, heI⟩ := hIo _ _ hst₃
      obtain ⟨oC, heC, hoC⟩ := LCg.ns_obj hn₃
      have hD₃ : h₃.DictOf (strKind prog w) s₂.heap.objs.size kvs := hD'.at fun o e => hs₃.extBut _ _ hDC (hk₂ _ o (by simpa using Ne.symm hDI) e)
      obtain ⟨oD, heD, hoD⟩ := Heap.dictOf_iff.mp hD₃
      have F₃ : Fr h₀ L h₃ m := (LCg.fr_but F' hk₂ hIL hI₀).change hs₃ hCL hC₀
      have N₂ : News h₀ L h₂ news := LCg.news_but N' hk₂ offI
      have N₃ : News h₀ L h₃ ((s₁.heap.objs.size, oI) :: (H2.objs.size, oC) :: (s₂.heap.objs.size, oD) :: news) := fun p hp => by
        rcases List.mem_cons.mp hp with rfl | hp
        · exact ⟨heI, Ne.symm hIL, hI₀⟩
        · rcases List.mem_cons.mp hp with rfl | hp
          · exact ⟨heC, hCL, hC₀⟩
          · rcases List.mem_cons.mp hp with rfl | hp
            · exact ⟨heD, hDL, hD₀⟩
            · exact ⟨hs₃.extBut _ _ (off3 p hp).2.1 (N₂ p hp).1, (N₂ p hp).2⟩
      refine wpAny_mono (turn i c u _ oI _ oC _ oD _ kvs h₃ _ _ hc hJ hoC (by simp) F₃ N₃ off₀ ⟨hCI, hDI, Ne.symm hDC⟩) (fun y s₄ h₄ => ?_) fun _ _ e => e
      obtain ⟨h₄, tk₄, news₄, rfl, F₄, N₄, off₄, _, rfl, hJ₄⟩ := h₄
      have zI := (N₄ (s₁.heap.objs.size, oI) List.mem_cons_self).1
      have zC := (N₄ (H2.objs.size, oC) (List.mem_cons_of_mem _ List.mem_cons_self)).1
      have zD := (N₄ (s₂.heap.objs.size, oD) (List.mem_cons_of_mem _ (List.mem_cons_of_mem _ List.mem_cons_self))).1
      have N₄' : News h₀ L h₄ news₄ := fun p hp => N₄ p (List.mem_cons_of_mem _ (List.mem_cons_of_mem _ (List.mem_cons_of_mem _ hp)))
      have hst₄ : St (i + 1) h₄ := W.frame _ _ _ hst₃ fun b hb o e => by
        rw [List.mem_singleton.mp hb] at e ⊢
        rw [heI] at e
        cases e
        exact zI
      have hkl := hJl _ _ hJ
      refine wpAny_dictSet_pairs (k := (⟨#[c]⟩ : Str)) (hsz := Nat.le_trans hkl (Nat.le_trans hi hsz)) (by first | rfl | (simp [PySem.strKind, Value.isStrOf]; done) | exact beq_self_eq_true _) (Heap.dictOf_iff.mpr ⟨oD, zD, hoD⟩) fun h₅ hD₅ hs₅ => ?_
      refine ⟨xt.cps.size + 1 - (i + 1), by omega, h₅, _, i + 1, _, _, rfl, hlt, rfl, W.frame _ _ _ hst₄ fun b hb o e => hs₅.extBut b o (fun q => hDI (by rw [← List.mem_singleton.mp hb]; exact q)) e, F₄.change hs₅ hDL hD₀,
        (hoC.ns zC).sameBut hs₅ (Ne.symm hDC), hD₅, fun p hp => ⟨hs₅.extBut _ _ (off3 p hp).2.2 (N₄' p hp).1, (N₄' p hp).2⟩, hJ₄⟩
    · obtain rfl : i = xt.cps.size := Nat.le_antisymm hi (Nat.not_lt.mp hlt)
      refine W.done _ _ _ hst' fun h₂ tk₂ hk₂ => ?_
      have hD₂ : h₂.DictOf (strKind prog w) s₂.heap.objs.size kvs := hD'.at fun o e => hk₂ _ o (by simpa using Ne.symm hDI) e
      obtain ⟨oD, heD, hoD⟩ := Heap.dictOf_iff.mp hD₂
      have F₂ : Fr h₀ L h₂ m := LCg.fr_but F' hk₂ hIL hI₀
      have N₂ : News h₀ L h₂ news := LCg.news_but N' hk₂ offI
      have hn₂ := hn'.at' (h' := h₂) fun o e => hk₂ _ o (by simpa using Ne.symm hCI) e
      refine ⟨_, hn₂, fun h'' hs'' => ?_⟩
      refine fin _ oD kvs h'' _ hJ hoD F2.ns.lt (F₂.change hs'' hCL hC₀) (fun p hp => ?_) off₀.one
      rcases List.mem_cons.mp hp with rfl | hp
      · exact ⟨hs''.extBut _ _ hDC heD, hDL, hD₀⟩
      · exact ⟨hs''.extBut _ _ (off3 p hp).2.1 (N₂ p hp).1, (N₂ p hp).2⟩
  exact codeAny_compStart_dict (loop _ rfl) (W.self 0 _ _ _ hst₁ (loop _ rfl))
end
end Mine

namespace Mine
/-- the powers of two at the places that q picks -/
def powsOf (q : Nat → Bool) (n : Nat) : List Int := ((List.range n).filter q).map fun k => (2 : Int) ^ k
def PowEl (news : List (Addr × Obj)) (q : Nat → Bool) (k : Nat) (y : Value) (news' : List (Addr × Obj)) : Prop := news' = news ∧ q k = true ∧ ∃ t, y = .int ((2 : Int) ^ k) t
def PowNo (news : List (Addr × Obj)) (q : Nat → Bool) (k : Nat) (news' : List (Addr × Obj)) : Prop := news' = news ∧ q k = false
theorem powsOf_succ (q : Nat → Bool) (n : Nat) : powsOf q (n + 1) = if q n then powsOf q n ++ [(2 : Int) ^ n] else powsOf q n := by
  unfold powsOf
  rw [List.range_succ, List.filter_append, List.map_append]
  cases h : q n <;> simp [h]
section
variable {prog : Program} {w : World} {A : Around} {h₀ : Heap} {L : Addr} {m : Str → Option Value} {env : Env} {ct elt : Expr} {x : Str} {scope : Scope} {cl : List (Str × Addr)} {s : Shared} {S : List (Addr × Obj) → Prop} {Fin : List Value → List (Addr × Obj) → Prop} {news : List (Addr × Obj)}
theorem comp_pows {n : Nat} (q : Nat → Bool)
    (turn : ∀ (k : Nat) (t : Tok) I oI C oC D m₂ ys h tk (E' : Value → Shared → Prop), k < n → LCg.NsObj oC m₂ → m₂ x = some (.int (k : Int) t) → Fr h₀ L h m → News h₀ L h ((I, oI) :: (C, oC) :: (D, LCg.lst ys) :: news) → LCg.Off3 I C D news → ((@Ne Nat I C) ∧ (@Ne Nat I D) ∧ (@Ne Nat C D)) →
      wpAny (model prog w) A (isTrue ct (compEnvC scope cl C env) (eval ct (compEnvC scope cl C env))) (fun ok s' => if ok = true then
        wpAny (model prog w) A (eval elt (compEnvC scope cl C env)) (LCg.CompEnd h₀ L m { s with heap := h, toks := tk } I oI C oC D (LCg.lst ys) S (fun y news' => PowEl news q k y news')) E' s'
        else LCg.CompEnd h₀ L m { s with heap := h, toks := tk } I oI C oC D (LCg.lst ys) S (fun _ news' => PowNo news q k news') Value.none s') E' { s with heap := h, toks := tk })
    (fin : ∀ ys, IntsAre ys (powsOf q n) → Fin ys news) : LCt.CompRestT prog w A h₀ L m env ct elt x scope cl s S (fun i v => ∃ t, v = .int (0 + (i : Int)) t) Fin n 0 [] news := by
  have key : ∀ (j i : Nat) (ys : List Value), i + j = n → IntsAre ys (powsOf q i) → LCt.CompRestT prog w A h₀ L m env ct elt x scope cl s S (fun i v => ∃ t, v = .int (0 + (i : Int)) t) Fin j i ys news := by
    intro j
    induction j with
    | zero =>
      intro i ys hi hy
      obtain rfl : i = n := by omega
      exact LCt.CompRestT.zero (fin ys hy)
    | succ j ih =>
      intro i ys hi hy
      refine LCt.CompRestT.succ fun v I oI C oC D m₂ h tk E' hv hC hx F N off ne => ?_
      obtain ⟨t, rfl⟩ := hv
      rw [Int.zero_add] at hx
      refine wpAny_mono (turn i t I oI C oC D m₂ ys h tk E' (by omega) hC hx F N off ne) (fun ok s' hq => ?_) fun _ _ e => e
      cases ok with
      | true =>
        simp only [if_true] at hq ⊢
        refine wpAny_mono hq (fun y s₂ hq => ?_) fun _ _ e => e
        obtain ⟨h', tk', nw, e, F', N', off', hS, hn, hqi, t', rfl⟩ := hq
        subst hn
        refine ⟨h', tk', nw, e, F', N', off', hS, ih (i + 1) _ (by omega) ?_⟩
        rw [powsOf_succ, if_pos hqi]
        exact IntsAre.append hy (.cons _ t' .nil)
      | false =>
        simp only [Bool.false_eq_true, if_false] at hq ⊢
        obtain ⟨h', tk', nw, e, F', N', off', hS, hn, hqi⟩ := hq
        subst hn
        refine ⟨h', tk', nw, e, F', N', off', hS, ih (i + 1) _ (by omega) ?_⟩
        rw [powsOf_succ, if_neg (by rw [hqi]; decide)]
        exact hy
  exact key n 0 [] (by omega) .nil
end
section
variable {prog : Program} {w : World} {A : Around} {E : Value → Shared → Prop} {s : Shared}
theorem in_lit {x y : Str} {t u : Tok} {b : Bool} {Q : Value → Shared → Prop} (e : (!(Builtin.Str.occurrences x y 0 x.length 1).isEmpty) = b) (h : Q (.bool b) s) : wpAny (model prog w) A (compareOp .In (.str y u) (.str x t)) Q E s :=
  PyProof.Rows.in_str (by rw [e]; exact h)
/-- the item of a list of bools, from behind -/
theorem item_back {value slice : PySem.Expr} {l : Addr} {bs : List Bool} {k : Nat} {i : Int} {u : Tok} {Q : Value → Shared → Prop} (hl : s.heap.IsList l (bs.map Value.bool).toArray) (hk : k < bs.length) (hlen : bs.length ≤ 1000) (hi : i = -1 - (k : Int)) (h : Q (.bool (bs.getD (bs.length - 1 - k) false)) s)
    (hs : subscripted slice false (.ref l) (.int i u) = operate [.ref l, .int i u] (getItem (.ref l) (.int i u)) := by with_unfolding_all rfl) :
    wpAny (model prog w) A (subscriptTail value slice (.ref l) (.int i u)) Q E s := by
  refine tail_any hl.typeIs slot_list_getitem.lookup (wpAny_getItem_list_neg hl (by omega) (by rw [List.size_toArray, List.length_map]; omega) (by omega) ?_ h) hs
  rw [List.size_toArray, List.length_map]
  have e : (i + (bs.length : Int)).toNat = bs.length - 1 - k := by omega
  rw [e]
  have hlt : bs.length - 1 - k < bs.length := by omega
  simp [List.getD, hlt]
end
end Mine

namespace Mine
def cntQ (p : Bool → Bool) (bs : List Bool) (k : Nat) : Bool := p (bs.getD (bs.length - 1 - k) false)
def cntS (p : Bool → Bool) (bs : List Bool) : Int := (powsOf (cntQ p bs) bs.length).sum
theorem pows_bnd (q : Nat → Bool) : ∀ n : Nat, 0 ≤ (powsOf q n).sum ∧ (powsOf q n).sum + 1 ≤ 2 ^ n
  | 0 => ⟨Int.le_refl 0, Int.le_refl 1⟩
  | n + 1 => by
    have ih := pows_bnd q n
    have hp : (0 : Int) < 2 ^ n := Int.pow_pos (by decide)
    rw [powsOf_succ, Int.pow_succ]
    split
    · rw [List.sum_append]
      simp only [List.sum_cons, List.sum_nil]
      omega
    · omega
theorem cnt_bnd (p : Bool → Bool) {bs : List Bool} (h : bs.length ≤ 4) : -(2 ^ 63 : Int) ≤ cntS p bs ∧ cntS p bs ≤ ((20 : Nat) : Int) := by
  have hb := pows_bnd (cntQ p bs) bs.length
  have h2 := pow_bnd (n := (bs.length : Int)) (by omega)
  have e : ((bs.length : Int)).toNat = bs.length := rfl
  rw [e] at h2
  unfold cntS
  omega
structure BoolPre (D : Addr) (bs : List Bool) (news : List (Addr × Obj)) : Prop where
  held : ∃ j, (D, W.listOf (bs.map Value.bool).toArray j) ∈ news
  len : bs.length ≤ 4

local macro_rules | `(tactic| walk_at "eval ListComp") => `(tactic| (k_here; refine Stop.out ?_))
local macro_rules | `(tactic| walk_at "call builtin:len") => `(tactic| (k_here; (show wpAny _ _ (call (Value.builtin "len") [Value.ref _]) _ _ _); refine Stop.out ?_))
local macro_rules | `(tactic| walk_at "CompSrcT") => `(tactic| (k_here; refine Stop.out ?_))
local macro_rules | `(tactic| walk_at "subscriptTail") => `(tactic| (k_here; (show wpAny _ _ (subscriptTail _ _ (Value.ref _) (Value.int _ _)) _ _ _); refine Stop.out ?_))
local macro_rules | `(tactic| walk_at "compareOp In str str") => `(tactic| (k_here; first | (refine in_lit (b := true) (by decide +kernel) ?_) | (refine in_lit (b := false) (by decide +kernel) ?_)))
local macro_rules | `(tactic| walk_at "call builtin:sum") => `(tactic| (k_here; refine Stop.out ?_))
local macro_rules | `(tactic| walk_at "binaryOp Mult str int") => `(tactic| (k_here; refine Stop.out ?_))
local macro_rules | `(tactic| walk_at "binaryOp Add str str") => `(tactic| (k_here; refine Stop.out ?_))

set_option maxHeartbeats 2000000 in
theorem due92 (w : World) {mean : ExcName → Option Value} {mg mb : Str → Option Value} {D : Addr} {bs : List Bool} {t : Tok} :
    C2 1 w mean mg mb 40 [.str (Str.ofString "\\") t, .ref D] (fun _ news => BoolPre D bs news) (fun t => .str (Txt.mul (Str.ofString "\\") (2 ^ bs.length)) t) := by
  w_on
  dsimp only [C2, Ct]
  k_fill
  intros; rename_i hp _ _ hret
  obtain ⟨⟨j, hm⟩, hlen⟩ := hp
  refine wpAny_call ?_
  k_dflt (refine' code_defC ?k1 ?k2 ?k3 ?k4 ?k5 ?kA ?kF ?kK ?k6 ?k7 ?k8 ?k9 ?kB ?kD ?_ ?c2 ?c3 ?c4; (case kA => exact rfl); (case kF => exact rfl); (case kK => assumption); (case k1 => k_asm); (case k2 => k_asm); (case k3 => k_asm); (case k4 => k_asm); (case k5 => k_asm); (case k6 => k_is); (case k7 => k_is); (case k8 => ktr_room); (case k9 => exact BindsTo.of_eq rfl); (case kB => exact rfl); (case kD => decide +kernel); (case c2 => exact rfl); (case c3 => exact rfl); (case c4 => exact rfl); k_whole; intro g' L' h' tk' cells' FG' F' N' Y' B' X' T' l1; k_cells Y'; (try simp only [List.cons_append, List.nil_append] at N'); (try dsimp only); (try k_lift B'); (try k_fold))
  k_steps
  refine Stop.mk ?_
  refine kst_len (us := bs.map Value.bool) (by k_asm) (List.mem_cons_of_mem _ hm) (List.length_map ..) (by omega) ?_
  k_steps
  refine Stop.mk ?_
  have hpb := pow_bnd (n := (bs.length : Int)) (by omega)
  refine SB.mul (mulOk_of 1 20 (by decide) (by omega) (by omega) (by decide) (by decide)) ?_
  intro t9 k9
  k_steps
  exact hret _ _ _ (by assumption) (fun p hp => (by assumption : News _ _ _ (_ :: _)) p (List.mem_cons_of_mem _ hp))

set_option maxHeartbeats 2000000 in
theorem due34 (w : World) {mean : ExcName → Option Value} {mg mb : Str → Option Value} {D : Addr} {bs : List Bool} {t : Tok} :
    C2 1 w mean mg mb 40 [.str (Str.ofString "\"") t, .ref D] (fun _ news => BoolPre D bs news) (fun t => .str (Txt.mul (Str.ofString "\\") (cntS (!·) bs) ++ Str.ofString "\"") t) := by
  w_on
  dsimp only [C2, Ct]
  k_fill
  intros; rename_i hp _ _ hret
  obtain ⟨⟨j, hm⟩, hlen⟩ := hp
  refine wpAny_call ?_
  k_dflt (refine' code_defC ?k1 ?k2 ?k3 ?k4 ?k5 ?kA ?kF ?kK ?k6 ?k7 ?k8 ?k9 ?kB ?kD ?_ ?c2 ?c3 ?c4; (case kA => exact rfl); (case kF => exact rfl); (case kK => assumption); (case k1 => k_asm); (case k2 => k_asm); (case k3 => k_asm); (case k4 => k_asm); (case k5 => k_asm); (case k6 => k_is); (case k7 => k_is); (case k8 => ktr_room); (case k9 => exact BindsTo.of_eq rfl); (case kB => exact rfl); (case kD => decide +kernel); (case c2 => exact rfl); (case c3 => exact rfl); (case c4 => exact rfl); k_whole; intro g' L' h' tk' cells' FG' F' N' Y' B' X' T' l1; k_cells Y'; (try simp only [List.cons_append, List.nil_append] at N'); (try dsimp only); (try k_lift B'); (try k_fold))
  k_steps
  refine Stop.mk ?_
  k_dflt (refine LCt.ListComp_T (F₀ := by k_asm) (by with_unfolding_all rfl) (by decide) (by rfl) (by decide) (by rfl) ?_)
  k_steps
  refine Stop.mk ?_
  refine kst_len (us := bs.map Value.bool) (by k_asm) (List.mem_cons_of_mem _ hm) (List.length_map ..) (by omega) ?_
  k_steps
  refine Stop.mk ?_
  k_dflt (refine LCt.CompSrcT.range (n := bs.length) (by rfl) (by k_asm) (by k_asm) (by assumption) (small_one (by omega) (by omega) (by omega) (by omega)) ((rangeSize_nat _ _).trans (by omega)) (by rw [sizeLine_eq]; omega) ?_)
  intro g9
  refine' comp_pows (cntQ (!·) bs) (fun k t I oI C oC D' m' ys' h' tk' E' hk hC hx F N off ne => ?_) (fun ys hys => ?_)
  · k_steps
    refine Stop.mk ?_
    refine item_back (News.isList (by k_asm) (List.mem_cons_of_mem _ (List.mem_cons_of_mem _ (List.mem_cons_of_mem _ (List.mem_cons_of_mem _ hm))))) hk (by omega) rfl ?_
    k_steps
    all_goals (rename (List.getD _ _ _ = _) => hb9)
    · exact LCg.CompEnd.intro (by assumption) (by assumption) _ (fun _ h => h) off trivial ⟨rfl, by show (!(_)) = _; rw [hb9]; rfl⟩
    · exact LCg.CompEnd.intro (by assumption) (by assumption) _ (fun _ h => h) off trivial ⟨rfl, by show (!(_)) = _; rw [hb9]; rfl, ⟨_, rfl⟩⟩
  k_steps
  refine Stop.mk ?_
  refine sumK rfl (by k_asm) (by k_asm) (News.isList (by k_asm) (by k_mem)) hys ?_
  intro h9 tk9 t9 F9 N9
  k_steps
  refine Stop.mk ?_
  have hcb := cnt_bnd (!·) hlen
  refine SB.mul (mulOk_of 1 20 (by decide) hcb.2 hcb.1 (by decide) (by decide)) ?_
  intro t9 k9
  k_steps
  refine Stop.mk ?_
  refine add_str ?_ (by rw [sizeLine_eq, mul_bs_len]; have h1 := hcb.2; unfold cntS at h1; show _ + 1 ≤ _; omega)
  intro t9 k9
  k_steps
  exact hret _ _ _ (by assumption) (fun p hp => (by assumption : News _ _ _ (_ :: _ :: _)) p (List.mem_cons_of_mem _ (List.mem_cons_of_mem _ hp)))
set_option maxHeartbeats 2000000 in
theorem due40 (w : World) {mean : ExcName → Option Value} {mg mb : Str → Option Value} {D : Addr} {bs : List Bool} {t : Tok} :
    C2 1 w mean mg mb 40 [.str (Str.ofString "(") t, .ref D] (fun _ news => BoolPre D bs news) (fun t => .str (Txt.mul (Str.ofString "\\") (cntS id bs) ++ Str.ofString "(") t) := by
  w_on
  dsimp only [C2, Ct]
  k_fill
  intros; rename_i hp _ _ hret
  obtain ⟨⟨j, hm⟩, hlen⟩ := hp
  refine wpAny_call ?_
  k_dflt (refine' code_defC ?k1 ?k2 ?k3 ?k4 ?k5 ?kA ?kF ?kK ?k6 ?k7 ?k8 ?k9 ?kB ?kD ?_ ?c2 ?c3 ?c4; (case kA => exact rfl); (case kF => exact rfl); (case kK => assumption); (case k1 => k_asm); (case k2 => k_asm); (case k3 => k_asm); (case k4 => k_asm); (case k5 => k_asm); (case k6 => k_is); (case k7 => k_is); (case k8 => ktr_room); (case k9 => exact BindsTo.of_eq rfl); (case kB => exact rfl); (case kD => decide +kernel); (case c2 => exact rfl); (case c3 => exact rfl); (case c4 => exact rfl); k_whole; intro g' L' h' tk' cells' FG' F' N' Y' B' X' T' l1; k_cells Y'; (try simp only [List.cons_append, List.nil_append] at N'); (try dsimp only); (try k_lift B'); (try k_fold))
  k_steps
  refine Stop.mk ?_
  k_dflt (refine LCt.ListComp_T (F₀ := by k_asm) (by with_unfolding_all rfl) (by decide) (by rfl) (by decide) (by rfl) ?_)
  k_steps
  refine Stop.mk ?_
  refine kst_len (us := bs.map Value.bool) (by k_asm) (List.mem_cons_of_mem _ hm) (List.length_map ..) (by omega) ?_
  k_steps
  refine Stop.mk ?_
  k_dflt (refine LCt.CompSrcT.range (n := bs.length) (by rfl) (by k_asm) (by k_asm) (by assumption) (small_one (by omega) (by omega) (by omega) (by omega)) ((rangeSize_nat _ _).trans (by omega)) (by rw [sizeLine_eq]; omega) ?_)
  intro g9
  refine' comp_pows (cntQ id bs) (fun k t I oI C oC D' m' ys' h' tk' E' hk hC hx F N off ne => ?_) (fun ys hys => ?_)
  · k_steps
    refine Stop.mk ?_
    refine item_back (News.isList (by k_asm) (List.mem_cons_of_mem _ (List.mem_cons_of_mem _ (List.mem_cons_of_mem _ (List.mem_cons_of_mem _ hm))))) hk (by omega) rfl ?_
    k_steps
    all_goals (rename (List.getD _ _ _ = _) => hb9)
    · exact LCg.CompEnd.intro (by assumption) (by assumption) _ (fun _ h => h) off trivial ⟨rfl, by show id (_) = _; rw [hb9]; rfl, ⟨_, rfl⟩⟩
    · exact LCg.CompEnd.intro (by assumption) (by assumption) _ (fun _ h => h) off trivial ⟨rfl, by show id (_) = _; rw [hb9]; rfl⟩
  k_steps
  refine Stop.mk ?_
  refine sumK rfl (by k_asm) (by k_asm) (News.isList (by k_asm) (by k_mem)) hys ?_
  intro h9 tk9 t9 F9 N9
  k_steps
  refine Stop.mk ?_
  have hcb := cnt_bnd id hlen
  refine SB.mul (mulOk_of 1 20 (by decide) hcb.2 hcb.1 (by decide) (by decide)) ?_
  intro t9 k9
  k_steps
  refine Stop.mk ?_
  refine add_str ?_ (by rw [sizeLine_eq, mul_bs_len]; have h1 := hcb.2; unfold cntS at h1; show _ + 1 ≤ _; omega)
  intro t9 k9
  k_steps
  exact hret _ _ _ (by assumption) (fun p hp => (by assumption : News _ _ _ (_ :: _ :: _)) p (List.mem_cons_of_mem _ (List.mem_cons_of_mem _ hp)))
set_option maxHeartbeats 2000000 in
theorem due41 (w : World) {mean : ExcName → Option Value} {mg mb : Str → Option Value} {D : Addr} {bs : List Bool} {t : Tok} :
    C2 1 w mean mg mb 40 [.str (Str.ofString ")") t, .ref D] (fun _ news => BoolPre D bs news) (fun t => .str (Txt.mul (Str.ofString "\\") (cntS id bs) ++ Str.ofString ")") t) := by
  w_on
  dsimp only [C2, Ct]
  k_fill
  intros; rename_i hp _ _ hret
  obtain ⟨⟨j, hm⟩, hlen⟩ := hp
  refine wpAny_call ?_
  k_dflt (refine' code_defC ?k1 ?k2 ?k3 ?k4 ?k5 ?kA ?kF ?kK ?k6 ?k7 ?k8 ?k9 ?kB ?kD ?_ ?c2 ?c3 ?c4; (case kA => exact rfl); (case kF => exact rfl); (case kK => assumption); (case k1 => k_asm); (case k2 => k_asm); (case k3 => k_asm); (case k4 => k_asm); (case k5 => k_asm); (case k6 => k_is); (case k7 => k_is); (case k8 => ktr_room); (case k9 => exact BindsTo.of_eq rfl); (case kB => exact rfl); (case kD => decide +kernel); (case c2 => exact rfl); (case c3 => exact rfl); (case c4 => exact rfl); k_whole; intro g' L' h' tk' cells' FG' F' N' Y' B' X' T' l1; k_cells Y'; (try simp only [List.cons_append, List.nil_append] at N'); (try dsimp only); (try k_lift B'); (try k_fold))
  k_steps
  refine Stop.mk ?_
  k_dflt (refine LCt.ListComp_T (F₀ := by k_asm) (by with_unfolding_all rfl) (by decide) (by rfl) (by decide) (by rfl) ?_)
  k_steps
  refine Stop.mk ?_
  refine kst_len (us := bs.map Value.bool) (by k_asm) (List.mem_cons_of_mem _ hm) (List.length_map ..) (by omega) ?_
  k_steps
  refine Stop.mk ?_
  k_dflt (refine LCt.CompSrcT.range (n := bs.length) (by rfl) (by k_asm) (by k_asm) (by assumption) (small_one (by omega) (by omega) (by omega) (by omega)) ((rangeSize_nat _ _).trans (by omega)) (by rw [sizeLine_eq]; omega) ?_)
  intro g9
  refine' comp_pows (cntQ id bs) (fun k t I oI C oC D' m' ys' h' tk' E' hk hC hx F N off ne => ?_) (fun ys hys => ?_)
  · k_steps
    refine Stop.mk ?_
    refine item_back (News.isList (by k_asm) (List.mem_cons_of_mem _ (List.mem_cons_of_mem _ (List.mem_cons_of_mem _ (List.mem_cons_of_mem _ hm))))) hk (by omega) rfl ?_
    k_steps
    all_goals (rename (List.getD _ _ _ = _) => hb9)
    · exact LCg.CompEnd.intro (by assumption) (by assumption) _ (fun _ h => h) off trivial ⟨rfl, by show id (_) = _; rw [hb9]; rfl, ⟨_, rfl⟩⟩
    · exact LCg.CompEnd.intro (by assumption) (by assumption) _ (fun _ h => h) off trivial ⟨rfl, by show id (_) = _; rw [hb9]; rfl⟩
  k_steps
  refine Stop.mk ?_
  refine sumK rfl (by k_asm) (by k_asm) (News.isList (by k_asm) (by k_mem)) hys ?_
  intro h9 tk9 t9 F9 N9
  k_steps
  refine Stop.mk ?_
  have hcb := cnt_bnd id hlen
  refine SB.mul (mulOk_of 1 20 (by decide) hcb.2 hcb.1 (by decide) (by decide)) ?_
  intro t9 k9
  k_steps
  refine Stop.mk ?_
  refine add_str ?_ (by rw [sizeLine_eq, mul_bs_len]; have h1 := hcb.2; unfold cntS at h1; show _ + 1 ≤ _; omega)
  intro t9 k9
  k_steps
  exact hret _ _ _ (by assumption) (fun p hp => (by assumption : News _ _ _ (_ :: _ :: _)) p (List.mem_cons_of_mem _ (List.mem_cons_of_mem _ hp)))
end Mine

namespace Mine
def dueS (k : Nat) (bs : List Bool) : Str := if k = 92 then Txt.mul (Str.ofString "\\") (2 ^ bs.length) else if k = 34 then Txt.mul (Str.ofString "\\") (cntS (!·) bs) ++ Str.ofString "\"" else Txt.mul (Str.ofString "\\") (cntS id bs) ++ ⟨#[k]⟩
theorem dueC (w : World) {mean : ExcName → Option Value} {mg mb : Str → Option Value} {D : Addr} {bs : List Bool} {t : Tok} {k : Nat} (hk : k = 40 ∨ k = 41 ∨ k = 34 ∨ k = 92) :
    C2 1 w mean mg mb 40 [.str ⟨#[k]⟩ t, .ref D] (fun _ news => BoolPre D bs news) (fun t => .str (dueS k bs) t) := by
  rcases hk with rfl | rfl | rfl | rfl
  · have h := @due40 w mean mg mb D bs t
    rw [e_lp] at h
    intro dp un gd cn cs a ccd cl outer A₀ base h₀ L m news s Q E B F X N T hk hp hd hu hret
    exact h B F X N T hk hp hd hu hret
  · have h := @due41 w mean mg mb D bs t
    rw [e_rp] at h
    intro dp un gd cn cs a ccd cl outer A₀ base h₀ L m news s Q E B F X N T hk hp hd hu hret
    exact h B F X N T hk hp hd hu hret
  · have h := @due34 w mean mg mb D bs t
    rw [e_qm] at h
    have e : dueS 34 bs = Txt.mul (Str.ofString "\\") (cntS (!·) bs) ++ ⟨#[34]⟩ := by
      unfold dueS
      rw [if_neg (by decide), if_pos rfl, e_qm]
    rw [e]
    intro dp un gd cn cs a ccd cl outer A₀ base h₀ L m news s Q E B F X N T hk hp hd hu hret
    exact h B F X N T hk hp hd hu hret
  · have h := @due92 w mean mg mb D bs t
    rw [e_bs] at h
    have e : dueS 92 bs = Txt.mul ⟨#[92]⟩ (2 ^ bs.length) := by
      unfold dueS
      rw [if_pos rfl, e_bs]
    rw [e]
    intro dp un gd cn cs a ccd cl outer A₀ base h₀ L m news s Q E B F X N T hk hp hd hu hret
    exact h B F X N T hk hp hd hu hret
theorem dueS_le {k : Nat} {bs : List Bool} (h : bs.length ≤ 4) : (dueS k bs).length ≤ 21 := by
  have h2 := pow_bnd (n := (bs.length : Int)) (by omega)
  have e : ((bs.length : Int)).toNat = bs.length := rfl
  rw [e] at h2
  unfold dueS
  split
  · rw [mul_bs_len]; omega
  · split
    · have hc := cnt_bnd (!·) h
      rw [Str.length_append, mul_bs_len, e_qm]
      show _ + 1 ≤ _
      omega
    · have hc := cnt_bnd id h
      rw [Str.length_append, mul_bs_len]
      show _ + 1 ≤ _
      omega
def dNot : Value → PyData
  | .bool b => .bool (!b)
  | _ => .none
theorem not_bools : ∀ {bs : List Bool} {ys : List Value}, CarriedAll ys ((bs.map Value.bool).map dNot) → ys = (bs.map (!·)).map Value.bool
  | [], _, h => by cases h; rfl
  | b :: r, _, h => by
    cases h with
    | cons h1 h2 =>
      rw [not_bools h2]
      cases h1
      rfl
/-! the plain law -/
def stepT (c : Bool) (v : Str) : Str := if c then mpp v else mqp v
def toldT (cs : List Bool) (x : Str) : Str := cs.foldl (fun v c => stepT c v) x
theorem toldT_snoc (cs : List Bool) (c : Bool) (x : Str) : toldT (cs ++ [c]) x = stepT c (toldT cs x) := by
  unfold toldT
  rw [List.foldl_append]
  rfl
theorem stepT_le (c : Bool) (v : Str) : (stepT c v).length ≤ 2 * v.length := by
  unfold stepT
  split
  · exact mpp_le v
  · exact mqp_le v
theorem toldT_le (x : Str) (cs : List Bool) : (toldT cs x).length ≤ 2 ^ cs.length * x.length := by
  have key : ∀ (n : Nat) (cs : List Bool), cs.length = n → (toldT cs x).length ≤ 2 ^ n * x.length := by
    intro n
    induction n with
    | zero =>
      intro cs h
      rw [List.length_eq_zero_iff.mp h]
      show x.length ≤ 1 * x.length
      omega
    | succ n ih =>
      intro cs h
      rcases List.eq_nil_or_concat cs with rfl | ⟨cs', c, rfl⟩
      · simp at h
      · rw [List.concat_eq_append] at h ⊢
        rw [toldT_snoc]
        have h1 := ih cs' (by simpa using h)
        have h2 := stepT_le c (toldT cs' x)
        rw [Nat.pow_succ, Nat.mul_right_comm]
        omega
  exact key _ cs rfl
def dueL (bs : List Bool) (k : Nat) : List Nat :=
  if k = 40 ∨ k = 41 ∨ k = 34 ∨ k = 92 then (dueS k bs).cps.toList else [k]
theorem cntQ_zero (p : Bool → Bool) (bs : List Bool) (c : Bool) : cntQ p (bs ++ [c]) 0 = p c := by
  unfold cntQ
  simp [List.getD]
theorem cntQ_succ (p : Bool → Bool) (bs : List Bool) (c : Bool) (k : Nat) (h : k < bs.length) : cntQ p (bs ++ [c]) (k + 1) = cntQ p bs k := by
  unfold cntQ
  have e : (bs ++ [c]).length - 1 - (k + 1) = bs.length - 1 - k := by rw [List.length_append, List.length_singleton]; omega
  rw [e]
  have hlt : bs.length - 1 - k < bs.length := by omega
  simp [List.getD, List.getElem?_append_left hlt]
theorem pows_shift (q q' : Nat → Bool) : ∀ n : Nat, (∀ k, k < n → q' (k + 1) = q k) → (powsOf q' (n + 1)).sum = (if q' 0 then 1 else 0) + 2 * (powsOf q n).sum
  | 0, _ => by
    rw [powsOf_succ]
    cases q' 0 <;> rfl
  | n + 1, h => by
    have ih := pows_shift q q' n fun k hk => h k (by omega)
    rw [powsOf_succ q' (n + 1), powsOf_succ q n, h n (by omega)]
    cases q n
    · simp only [Bool.false_eq_true, if_false]
      exact ih
    · simp only [if_true]
      rw [List.sum_append, List.sum_append, ih]
      simp only [List.sum_cons, List.sum_nil]
      rw [Int.pow_succ]
      omega
theorem cnt_snoc (p : Bool → Bool) (bs : List Bool) (c : Bool) : cntS p (bs ++ [c]) = (if p c then 1 else 0) + 2 * cntS p bs := by
  unfold cntS
  rw [List.length_append, List.length_singleton, pows_shift (cntQ p bs) (cntQ p (bs ++ [c])) bs.length (fun k hk => cntQ_succ p bs c k hk), cntQ_zero]
theorem cnt_nonneg (p : Bool → Bool) (bs : List Bool) : 0 ≤ cntS p bs := (pows_bnd _ _).1
def stF (c : Bool) : Nat → List Nat := if c then mpF else mqF
theorem stepT_list (c : Bool) (v : Str) : (stepT c v).cps.toList = v.cps.toList.flatMap (stF c) := by
  unfold stepT stF
  cases c
  · exact mqp_list v
  · exact mpp_list v
theorem st_rep (c : Bool) : ∀ n : Nat, (List.replicate n 92).flatMap (stF c) = List.replicate (2 * n) 92
  | 0 => rfl
  | n + 1 => by
    rw [List.replicate_succ, List.flatMap_cons, st_rep c n, show 2 * (n + 1) = 2 * n + 1 + 1 from by omega, List.replicate_succ, List.replicate_succ]
    cases c <;> rfl
theorem due92_list (bs : List Bool) : dueL bs 92 = List.replicate (2 ^ bs.length) 92 := by
  unfold dueL dueS
  rw [if_pos (by decide), if_pos rfl, mul_bs, pow_toNat]
theorem due34_list (bs : List Bool) : dueL bs 34 = List.replicate (cntS (!·) bs).toNat 92 ++ [34] := by
  unfold dueL dueS
  rw [if_pos (by decide), if_neg (by decide), if_pos rfl, app_list, mul_bs, e_qm]
theorem dueP_list (bs : List Bool) {k : Nat} (hk : k = 40 ∨ k = 41) : dueL bs k = List.replicate (cntS id bs).toNat 92 ++ [k] := by
  unfold dueL dueS
  rcases hk with rfl | rfl
  · rw [if_pos (by decide), if_neg (by decide), if_neg (by decide), app_list, mul_bs]
  · rw [if_pos (by decide), if_neg (by decide), if_neg (by decide), app_list, mul_bs]
theorem due_step (bs : List Bool) (c : Bool) (k : Nat) : (dueL bs k).flatMap (stF c) = dueL (bs ++ [c]) k := by
  by_cases h92 : k = 92
  · subst h92
    rw [due92_list, due92_list, st_rep, List.length_append, List.length_singleton, Nat.pow_succ, Nat.mul_comm]
  · by_cases h34 : k = 34
    · subst h34
      have hn := cnt_nonneg (!·) bs
      rw [due34_list, due34_list, List.flatMap_append, st_rep, cnt_snoc]
      cases c
      · have e : ((if (!false) = true then 1 else 0) + 2 * cntS (!·) bs).toNat = 2 * (cntS (!·) bs).toNat + 1 := by simp only [Bool.not_false, if_true]; omega
        rw [e, List.replicate_succ', List.append_assoc]
        rfl
      · have e : ((if (!true) = true then 1 else 0) + 2 * cntS (!·) bs).toNat = 2 * (cntS (!·) bs).toNat := by simp only [Bool.not_true, Bool.false_eq_true, if_false]; omega
        rw [e]
        rfl
    · by_cases hp : k = 40 ∨ k = 41
      · have hn := cnt_nonneg id bs
        rw [dueP_list bs hp, dueP_list _ hp, List.flatMap_append, st_rep, cnt_snoc]
        cases c
        · have e : ((if id false = true then 1 else 0) + 2 * cntS id bs).toNat = 2 * (cntS id bs).toNat := by simp only [id, Bool.false_eq_true, if_false]; omega
          rw [e]
          rcases hp with rfl | rfl <;> rfl
        · have e : ((if id true = true then 1 else 0) + 2 * cntS id bs).toNat = 2 * (cntS id bs).toNat + 1 := by simp only [id, if_true]; omega
          rw [e, List.replicate_succ', List.append_assoc]
          rcases hp with rfl | rfl <;> rfl
      · have e : ∀ bs, dueL bs k = [k] := by
          intro bs
          unfold dueL
          rw [if_neg (by omega)]
        rw [e, e]
        have h40 : k ≠ 40 := fun e => hp (.inl e)
        have h41 : k ≠ 41 := fun e => hp (.inr e)
        cases c
        · simp [stF, mqF, h92, h34]
        · simp [stF, mpF, h92, h40, h41]
theorem due_nil (k : Nat) : dueL [] k = [k] := by
  unfold dueL
  split
  · rename_i h
    rcases h with rfl | rfl | rfl | rfl <;> decide +kernel
  · rfl
theorem toldT_list (x : Str) (cs : List Bool) : (toldT cs x).cps.toList = x.cps.toList.flatMap (dueL cs) := by
  have key : ∀ (n : Nat) (cs : List Bool), cs.length = n → (toldT cs x).cps.toList = x.cps.toList.flatMap (dueL cs) := by
    intro n
    induction n with
    | zero =>
      intro cs h
      rw [List.length_eq_zero_iff.mp h]
      show x.cps.toList = _
      conv => lhs; rw [← List.flatMap_singleton' x.cps.toList]
      congr 1
      funext k
      exact (due_nil k).symm
    | succ n ih =>
      intro cs h
      rcases List.eq_nil_or_concat cs with rfl | ⟨cs', c, rfl⟩
      · simp at h
      · rw [List.concat_eq_append] at h ⊢
        rw [toldT_snoc, stepT_list, ih cs' (by simpa using h), flat_flat]
        congr 1
        funext k
        exact due_step cs' c k
  exact key _ cs rfl
/-- what the law joins at a step -/
def dueT (bs : List Bool) (k : Nat) : Str := if k = 40 ∨ k = 41 ∨ k = 34 ∨ k = 92 then dueS k bs else ⟨#[k]⟩
theorem told_law2 (x : Str) (cs : List Bool) : toldT cs x = Txt.join (Str.ofString "") (x.cps.toList.map (dueT cs)) := by
  refine str_ext ?_
  rw [toldT_list, join0_list, List.map_map, List.flatMap_def]
  congr 1
  refine List.map_congr_left fun k _ => ?_
  show dueL cs k = (dueT cs k).cps.toList
  unfold dueL dueT
  split <;> rfl
theorem dueT_le {k : Nat} {bs : List Bool} (h : bs.length ≤ 4) : (dueT bs k).length ≤ 21 := by
  unfold dueT
  split
  · exact dueS_le h
  · exact Nat.le_of_ble_eq_true rfl
end Mine

namespace Mine
/-- an address apart from the three cells -/
abbrev Apt (a cS cZ cD : Nat) : Prop := a ≠ cS ∧ a ≠ cZ ∧ a ≠ cD
abbrev bools (bs : List Bool) : List Value := bs.map Value.bool
/-- the end of a turn of the law's outer loop -/
def OutEnd (h₀ : Heap) (L : Addr) (m₀ : Str → Option Value) (tn : Str) (fix : List (Addr × Obj)) (cS cZ cD : Addr) (s : Shared) (Q : Flow → Shared → Prop) (f : Flow) (s₃ : Shared) : Prop :=
  match f with
  | .ret v => Q (.ret v) s₃
  | .brk => Q .next s₃
  | _ => ∃ h' tk u oS oZ oD vS vZ vD all, s₃ = { s with heap := h', toks := tk } ∧ Fr h₀ L h' (fun y => if y = tn then u else m₀ y) ∧ News h₀ L h' all ∧ (∀ p ∈ fix, p ∈ all) ∧ (cS, oS) ∈ all ∧ (cZ, oZ) ∈ all ∧ (cD, oD) ∈ all ∧
      oS.data = .cell vS ∧ oZ.data = .cell vZ ∧ oD.data = .cell vD
section
variable {prog : Program} {w : World} {A : Around} {s : Shared} {env : Env} {h₀ : Heap} {target : Expr} {body : List Stmt} {Q : Flow → Shared → Prop} {X : Value → Shared → Prop}
theorem for_two {ax row neg cS cZ cD : Addr} {oS oZ oD : Obj} {vS vZ vD : Option Value} {p4 p5 p6 p7 p8 p9 : Addr × Obj} {jR jN : Nat} {m₀ : Str → Option Value} {u₀ : Option Value} {bs : List Bool} (tn : Str)
    (hh : A.handled = none) (hbs : bs.length = 4) (F : Fr h₀ env.locals s.heap m₀)
    (N : News h₀ env.locals s.heap [(ax, W.listOf #[.ref row, .ref neg] 0), (neg, W.listOf (bools (bs.map (!·))).toArray jN), (row, W.listOf (bools bs).toArray jR), p4, p5, p6, p7, p8, p9, (cD, oD), (cZ, oZ), (cS, oS)])
    (ho : Apt row cS cZ cD ∧ Apt neg cS cZ cD) (hu : m₀ tn = u₀) (dS : oS.data = .cell vS) (dZ : oZ.data = .cell vZ) (dD : oD.data = .cell vD)
    (turn : ∀ (st : Addr) (cs : List Bool) (j : Nat) (u : Option Value) (oS oZ oD : Obj) (vS vZ vD : Option Value) (I : Addr) (oI : Obj) (h : Heap) (tk : Nat), cs.length = 4 → Apt st cS cZ cD → (@LT.lt Nat _ ax I) →
      oS.data = .cell vS → oZ.data = .cell vZ → oD.data = .cell vD →
      Fr h₀ env.locals h (fun y => if y = tn then u else m₀ y) →
      News h₀ env.locals h [(I, oI), (ax, W.listOf #[.ref row, .ref neg] 0), (neg, W.listOf (bools (bs.map (!·))).toArray jN), (row, W.listOf (bools bs).toArray jR), (st, W.listOf (bools cs).toArray j), (cD, oD), (cZ, oZ), (cS, oS)] →
      wpAny (model prog w) A (assign target env (.ref st)) (fun _ s₂ => wpAny (model prog w) A (execs body env)
        (OutEnd h₀ env.locals m₀ tn [(I, oI), (ax, W.listOf #[.ref row, .ref neg] 0), (neg, W.listOf (bools (bs.map (!·))).toArray jN), (row, W.listOf (bools bs).toArray jR)] cS cZ cD { s with heap := h, toks := tk } Q) (fun _ _ => False) s₂) (fun _ _ => False) { s with heap := h, toks := tk })
    (done : ∀ (u : Option Value) (h : Heap) (tk : Nat), Fr h₀ env.locals h (fun y => if y = tn then u else m₀ y) → Q .next { s with heap := h, toks := tk })
    (ht : ∀ v, letOwnedTupleGo target (.ref s.heap.objs.size) v = pure () := by intro _; rfl) :
    codeAny (model prog w) A (.forLoop target (.ref s.heap.objs.size) body [] env) (fun r s' => match r with | .ok f => Q f s' | .error e => X e s') { s with heap := s.heap.push { cls := .type "list_iterator", data := .fields #[.ref ax, .int 0 0] } } := by
  have hlt : ∀ p ∈ [(ax, W.listOf #[Value.ref row, Value.ref neg] 0), (neg, W.listOf (bools (bs.map (!·))).toArray jN), (row, W.listOf (bools bs).toArray jR), p4, p5, p6, p7, p8, p9, (cD, oD), (cZ, oZ), (cS, oS)], p.1 < s.heap.objs.size := fun p hp => Heap.lt_size (N p hp).1
  have lax : ax < s.heap.objs.size := hlt (ax, _) (by k_mem)
  have lneg : neg < s.heap.objs.size := hlt (neg, _) (by k_mem)
  have lrow : row < s.heap.objs.size := hlt (row, _) (by k_mem)
  have lS : cS < s.heap.objs.size := hlt (cS, oS) (by k_mem)
  have lZ : cZ < s.heap.objs.size := hlt (cZ, oZ) (by k_mem)
  have lD : cD < s.heap.objs.size := hlt (cD, oD) (by k_mem)
  have hl : s.heap.IsList ax #[Value.ref row, Value.ref neg] := News.isList N (by k_mem)
  refine for_led (L := env.locals) (led₀ := [(cS, oS), (cZ, oZ), (cD, oD)]) (m₀ := m₀)
    [(ax, W.listOf #[Value.ref row, Value.ref neg] 0), (neg, W.listOf (bools (bs.map (!·))).toArray jN), (row, W.listOf (bools bs).toArray jR)] [cS, cZ, cD]
    (fun _ m led => ∃ u oS oZ oD vS vZ vD, m = (fun y => if y = tn then u else m₀ y) ∧ led = [(cS, oS), (cZ, oZ), (cD, oD)] ∧ oS.data = .cell vS ∧ oZ.data = .cell vZ ∧ oD.data = .cell vD)
    (Walks.list hh s.heap.objs.size ax (Nat.ne_of_lt lax) #[Value.ref row, Value.ref neg]) (fun i h st => by obtain ⟨o, e, _⟩ := st.1; exact ⟨o, e⟩) ?_ (Nat.ne_of_lt F.ns.lt) (next_is_new F) ⟨⟨_, Heap.get?_push_size _ rfl, rfl, rfl⟩, hl.push _⟩
    (F.push _) (fun p hp => ⟨Heap.get?_push_of_some _ (N p ?_).1, (N p ?_).2⟩) ?_ ?_ rfl ⟨u₀, oS, oZ, oD, vS, vZ, vD, ?_, rfl, dS, dZ, dD⟩ ?_ ?_ ht
  · intro b hb
    rcases List.mem_cons.mp hb with rfl | hb
    · exact .inl rfl
    · rw [List.mem_singleton.mp hb]
      exact .inr ⟨_, List.mem_cons_self ..⟩
  · simp only [List.cons_append, List.nil_append, List.mem_cons, List.not_mem_nil, or_false] at hp ⊢
    rcases hp with h | h | h | h | h | h <;> simp [h]
  · simp only [List.cons_append, List.nil_append, List.mem_cons, List.not_mem_nil, or_false] at hp ⊢
    rcases hp with h | h | h | h | h | h <;> simp [h]
  · intro p hp
    simp only [List.mem_cons, List.not_mem_nil, or_false] at hp
    rcases hp with rfl | rfl | rfl
    · exact Nat.ne_of_lt lax
    · exact Nat.ne_of_lt lneg
    · exact Nat.ne_of_lt lrow
  · intro a ha
    simp only [List.mem_cons, List.not_mem_nil, or_false] at ha
    rcases ha with rfl | rfl | rfl
    · exact Nat.ne_of_lt lS
    · exact Nat.ne_of_lt lZ
    · exact Nat.ne_of_lt lD
  · funext y
    by_cases hy : y = tn
    · subst hy; simp [hu]
    · simp [hy]
  · rintro i v m₁ led h tk oI hi hP hl' ⟨u, oS, oZ, oD, vS, vZ, vD, rfl, rfl, dS, dZ, dD⟩ F₁ N₁
    have hst : ∃ st cs j, v = Value.ref st ∧ cs.length = 4 ∧ (st = row ∨ st = neg) ∧ (st, W.listOf (bools cs).toArray j) ∈ [(neg, W.listOf (bools (bs.map (!·))).toArray jN), (row, W.listOf (bools bs).toArray jR)] := by
      have hi2 : i = 0 ∨ i = 1 := by
        have : i < 2 := hi
        omega
      rcases hi2 with rfl | rfl
      · cases hP
        exact ⟨row, bs, jR, rfl, hbs, .inl rfl, by simp⟩
      · cases hP
        exact ⟨neg, bs.map (!·), jN, rfl, by rw [List.length_map]; exact hbs, .inr rfl, by simp⟩
    obtain ⟨st, cs, j, rfl, hcs, hst, hmem⟩ := hst
    refine wpAny_mono (turn st cs j u oS oZ oD vS vZ vD _ oI h tk hcs (by rcases hst with rfl | rfl; exact ho.1; exact ho.2) lax dS dZ dD F₁ fun p hp => N₁ p ?_) (fun _ s₂ h₂ => ?_) fun _ _ e => e
    · simp only [List.cons_append, List.nil_append, List.mem_cons, List.not_mem_nil, or_false] at hp hmem ⊢
      rcases hp with h | h | h | h | h | h | h | h
      · exact .inl h
      · exact .inr (.inl h)
      · exact .inr (.inr (.inl h))
      · exact .inr (.inr (.inr (.inl h)))
      · rw [h]
        rcases hmem with e | e
        · exact .inr (.inr (.inl e))
        · exact .inr (.inr (.inr (.inl e)))
      · simp [h]
      · simp [h]
      · simp [h]
    · refine wpAny_mono h₂ (fun f s₃ h₃ => ?_) fun _ _ e => e
      have nx : (∃ h' tk' u oS oZ oD vS vZ vD all, s₃ = { ({ s with heap := h, toks := tk } : Shared) with heap := h', toks := tk' } ∧ Fr h₀ env.locals h' (fun y => if y = tn then u else m₀ y) ∧ News h₀ env.locals h' all ∧
          (∀ p ∈ [(s.heap.objs.size, oI), (ax, W.listOf #[Value.ref row, Value.ref neg] 0), (neg, W.listOf (bools (bs.map (!·))).toArray jN), (row, W.listOf (bools bs).toArray jR)], p ∈ all) ∧ (cS, oS) ∈ all ∧ (cZ, oZ) ∈ all ∧ (cD, oD) ∈ all ∧ oS.data = .cell vS ∧ oZ.data = .cell vZ ∧ oD.data = .cell vD) →
          ∃ h' tk' m' led' all, s₃ = { ({ s with heap := h, toks := tk } : Shared) with heap := h', toks := tk' } ∧ Fr h₀ env.locals h' m' ∧ News h₀ env.locals h' all ∧ (s.heap.objs.size, oI) ∈ all ∧ (∀ p ∈ [(ax, W.listOf #[Value.ref row, Value.ref neg] 0), (neg, W.listOf (bools (bs.map (!·))).toArray jN), (row, W.listOf (bools bs).toArray jR)], p ∈ all) ∧ (∀ p ∈ led', p ∈ all) ∧ led'.map (·.1) = [cS, cZ, cD] ∧
            ∃ u oS oZ oD vS vZ vD, m' = (fun y => if y = tn then u else m₀ y) ∧ led' = [(cS, oS), (cZ, oZ), (cD, oD)] ∧ oS.data = .cell vS ∧ oZ.data = .cell vZ ∧ oD.data = .cell vD := by
        rintro ⟨h', tk', u, oS, oZ, oD, vS, vZ, vD, all, e, F₃, N₃, hf, m1, m2, m3, d1, d2, d3⟩
        refine ⟨h', tk', _, [(cS, oS), (cZ, oZ), (cD, oD)], all, e, F₃, N₃, hf _ (List.mem_cons_self ..), fun p hp => hf p (List.mem_cons_of_mem _ hp), ?_, rfl, u, oS, oZ, oD, vS, vZ, vD, rfl, rfl, d1, d2, d3⟩
        intro p hp
        simp only [List.mem_cons, List.not_mem_nil, or_false] at hp
        rcases hp with rfl | rfl | rfl
        · exact m1
        · exact m2
        · exact m3
      cases f with
      | ret v => exact h₃
      | brk => exact h₃
      | next => exact nx h₃
      | cont => exact nx h₃
  · rintro m₁ led h tk hl' ⟨u, oS, oZ, oD, vS, vZ, vD, rfl, rfl, dS, dZ, dD⟩ F₁ N₁
    exact done u h tk F₁
end
section
variable {M : Model} {A : Around} {E : Value → Shared → Prop} {s : Shared} {h₀ : Heap} {L a : Addr} {m : Str → Option Value} {cn : Str} {cs : Scope} {ccd : Value} {cl : List (Str × Addr)}
/-- a store into a cell, the cell found anywhere in the ledger -/
theorem store_cell {x : Str} {v : Value} {Q : Unit → Shared → Prop} {news : List (Addr × Obj)} {c : Addr} {o : Obj} {v₀ : Option Value} (rest : List (Addr × Obj)) (F : Fr h₀ L s.heap m) (N : News h₀ L s.heap news) (hc : cl.lookup x = some c) (hm : (c, o) ∈ news) (hd : o.data = .cell v₀)
    (hs : ∀ p ∈ rest, p ∈ news) (hr : ∀ p ∈ rest, p.1 ≠ c)
    (h : ∀ h' o', Fr h₀ L h' m → News h₀ L h' ((c, o') :: rest) → o'.data = .cell (some v) → Q () { s with heap := h' })
    (hk : cs.kind = .function := by rfl) (hx : (envX cn cs L a ccd cl).kindOf x = some .cell := by rfl) : wpAny M A (storeName (envX cn cs L a ccd cl) x v) Q E s := by
  have hmem := N (c, o) hm
  refine wpAny_storeName_cell hk hx hc ⟨o, hmem.1, hd⟩ fun h' hv hs' => ?_
  obtain ⟨o', ho', hd'⟩ := hv
  refine h h' o' ⟨F.ns.sameBut hs' (Ne.symm hmem.2.1), fun b ob e => (hs'.2 b (fun q => ?_)).trans (F.keep b ob e), F.above⟩ (fun p hp => ?_) hd'
  · rw [q, hmem.2.2] at e; cases e
  · rcases List.mem_cons.mp hp with rfl | hp
    · exact ⟨ho', hmem.2⟩
    · exact ⟨hs'.extBut _ _ (hr p hp) (N p (hs p hp)).1, (N p (hs p hp)).2⟩
end
/-- the end of a turn of the law's inner loop -/
def InEnd (h₀ : Heap) (L : Addr) (m₀ : Str → Option Value) (tn : Str) (x : Str) (fix : List (Addr × Obj)) (cZ cD : Addr) (s : Shared) (Q : Flow → Shared → Prop) (f : Flow) (s₃ : Shared) : Prop :=
  match f with
  | .ret v => Q (.ret v) s₃
  | .brk => Q .next s₃
  | _ => ∃ h' tk t oZ oD vZ vD all, s₃ = { s with heap := h', toks := tk } ∧ Fr h₀ L h' (fun y => if y = tn then some (.str x t) else m₀ y) ∧ News h₀ L h' all ∧ (∀ p ∈ fix, p ∈ all) ∧ (cZ, oZ) ∈ all ∧ (cD, oD) ∈ all ∧ oZ.data = .cell vZ ∧ oD.data = .cell vD
section
variable {prog : Program} {w : World} {A : Around} {s : Shared} {env : Env} {h₀ : Heap} {target : Expr} {body : List Stmt} {Q : Flow → Shared → Prop} {X : Value → Shared → Prop}
theorem for_size {r cZ cD : Addr} {oZ oD : Obj} {vZ vD : Option Value} {m m₀ : Str → Option Value} {t₀ u₀ v₀ tt : Tok} {led : List (Addr × Obj)} (fixed : List (Addr × Obj)) (tn : Str) (f : Nat → Str)
    (hh : A.handled = none) (hr : IsRange s.heap r 1 5 1 t₀ u₀ v₀) (F : Fr h₀ env.locals s.heap m) (hm : m = fun y => if y = tn then some (.str (f 0) tt) else m₀ y)
    (N : News h₀ env.locals s.heap led) (hl : led = fixed ++ [(cD, oD), (cZ, oZ)]) (dZ : oZ.data = .cell vZ) (dD : oD.data = .cell vD)
    (turn : ∀ (i : Nat) (t tv : Tok) (oZ oD : Obj) (vZ vD : Option Value) (I : Addr) (oI : Obj) (h : Heap) (tk : Nat), i < 4 → (∀ p ∈ fixed, @LT.lt Nat _ p.1 I) → (@LT.lt Nat _ cZ I) → (@LT.lt Nat _ cD I) → oZ.data = .cell vZ → oD.data = .cell vD →
      Fr h₀ env.locals h (fun y => if y = tn then some (.str (f i) tv) else m₀ y) → News h₀ env.locals h ((I, oI) :: (fixed ++ [(cD, oD), (cZ, oZ)])) →
      wpAny (model prog w) A (assign target env (.int (1 + (i : Int)) t)) (fun _ s₂ => wpAny (model prog w) A (execs body env) (InEnd h₀ env.locals m₀ tn (f (i + 1)) ((I, oI) :: fixed) cZ cD { s with heap := h, toks := tk } Q) (fun _ _ => False) s₂) (fun _ _ => False) { s with heap := h, toks := tk })
    (done : ∀ (tv : Tok) (oZ oD : Obj) (vZ vD : Option Value) (h : Heap) (tk : Nat), oZ.data = .cell vZ → oD.data = .cell vD → Fr h₀ env.locals h (fun y => if y = tn then some (.str (f 4) tv) else m₀ y) → News h₀ env.locals h (fixed ++ [(cD, oD), (cZ, oZ)]) → Q .next { s with heap := h, toks := tk })
    (ht : ∀ v, letOwnedTupleGo target (.ref s.heap.objs.size) v = pure () := by intro _; rfl) :
    wpAny (model prog w) A (pyIter (.ref r)) (fun it s₂ => codeAny (model prog w) A (.forLoop target it body [] env) (fun r s' => match r with | .ok f => Q f s' | .error e => X e s') s₂) (fun _ _ => False) s := by
  subst hl
  have hlt : ∀ p ∈ fixed ++ [(cD, oD), (cZ, oZ)], p.1 < s.heap.objs.size := fun p hp => Heap.lt_size (N p hp).1
  have lZ : cZ < s.heap.objs.size := hlt (cZ, oZ) (by simp)
  have lD : cD < s.heap.objs.size := hlt (cD, oD) (by simp)
  have lF : ∀ p ∈ fixed, @LT.lt Nat _ p.1 s.heap.objs.size := fun p hp => hlt p (List.mem_append.mpr (.inl hp))
  refine wpAny_pyIter_range hr (by decide) ?_
  refine for_led (L := env.locals) (led₀ := [(cD, oD), (cZ, oZ)]) (m₀ := m) fixed [cD, cZ]
    (fun i m led => ∃ tv oZ oD vZ vD, m = (fun y => if y = tn then some (.str (f i) tv) else m₀ y) ∧ led = [(cD, oD), (cZ, oZ)] ∧ oZ.data = .cell vZ ∧ oD.data = .cell vD)
    (LCg.range_walks (I := s.heap.objs.size) hh 1 4) (fun i h st => ⟨_, st⟩) (fun b hb => .inl (List.mem_singleton.mp hb)) (Nat.ne_of_lt F.ns.lt) (next_is_new F)
    (by have e : Builtin.Range.rangeSize 1 5 1 = ((4 : Nat) : Int) := by decide
        show IsRangeIter _ _ _ _ _; rw [e]; simpa using Heap.get?_push_size _ rfl) (F.push _) (fun p hp => ⟨Heap.get?_push_of_some _ (N p hp).1, (N p hp).2⟩) (fun p hp => Nat.ne_of_lt (lF p hp)) ?_ rfl ⟨tt, oZ, oD, vZ, vD, hm, rfl, dZ, dD⟩ ?_ ?_ ht
  · intro a ha
    simp only [List.mem_cons, List.not_mem_nil, or_false] at ha
    rcases ha with rfl | rfl
    · exact Nat.ne_of_lt lD
    · exact Nat.ne_of_lt lZ
  · rintro i v m₁ led h tk oI hi ⟨t, rfl⟩ hl' ⟨tv, oZ, oD, vZ, vD, rfl, rfl, dZ, dD⟩ F₁ N₁
    refine wpAny_mono (turn i t tv oZ oD vZ vD _ oI h tk hi lF lZ lD dZ dD F₁ N₁) (fun _ s₂ h₂ => ?_) fun _ _ e => e
    refine wpAny_mono h₂ (fun fl s₃ h₃ => ?_) fun _ _ e => e
    have nx : (∃ h' tk' t oZ oD vZ vD all, s₃ = { ({ s with heap := h, toks := tk } : Shared) with heap := h', toks := tk' } ∧ Fr h₀ env.locals h' (fun y => if y = tn then some (.str (f (i + 1)) t) else m₀ y) ∧ News h₀ env.locals h' all ∧
        (∀ p ∈ (s.heap.objs.size, oI) :: fixed, p ∈ all) ∧ (cZ, oZ) ∈ all ∧ (cD, oD) ∈ all ∧ oZ.data = .cell vZ ∧ oD.data = .cell vD) →
        ∃ h' tk' m' led' all, s₃ = { ({ s with heap := h, toks := tk } : Shared) with heap := h', toks := tk' } ∧ Fr h₀ env.locals h' m' ∧ News h₀ env.locals h' all ∧ (s.heap.objs.size, oI) ∈ all ∧ (∀ p ∈ fixed, p ∈ all) ∧ (∀ p ∈ led', p ∈ all) ∧ led'.map (·.1) = [cD, cZ] ∧
          ∃ tv oZ oD vZ vD, m' = (fun y => if y = tn then some (.str (f (i + 1)) tv) else m₀ y) ∧ led' = [(cD, oD), (cZ, oZ)] ∧ oZ.data = .cell vZ ∧ oD.data = .cell vD := by
      rintro ⟨h', tk', t, oZ, oD, vZ, vD, all, e, F₃, N₃, hf, m2, m3, d2, d3⟩
      refine ⟨h', tk', _, [(cD, oD), (cZ, oZ)], all, e, F₃, N₃, hf _ (List.mem_cons_self ..), fun p hp => hf p (List.mem_cons_of_mem _ hp), ?_, rfl, t, oZ, oD, vZ, vD, rfl, rfl, d2, d3⟩
      intro p hp
      simp only [List.mem_cons, List.not_mem_nil, or_false] at hp
      rcases hp with rfl | rfl
      · exact m3
      · exact m2
    cases fl with
    | ret v => exact h₃
    | brk => exact h₃
    | next => exact nx h₃
    | cont => exact nx h₃
  · rintro m₁ led h tk hl' ⟨tv, oZ, oD, vZ, vD, rfl, rfl, dZ, dD⟩ F₁ N₁
    exact done tv oZ oD vZ vD h tk dZ dD F₁ N₁
end
section
variable {prog : Program} {w : World} {A : Around} {E : Value → Shared → Prop} {s : Shared}
theorem get2_str {d : Addr} {kvs : List (Str × Value)} {k : Str} {t : Tok} {dflt : Value} {Q : Value → Shared → Prop} (hd : s.heap.DictOf (PySem.strKind prog w) d kvs) (lo : (d == sysModules) = false) (h : Q ((valueAt kvs k).getD dflt) { s with toks := s.toks + 1 }) :
    wpAny (model prog w) A (call (.builtin "dict.get") [.ref d, .str k t, dflt]) Q E s :=
  call_meetsIn PySem.F.slot_dict_get hd.typeIs PySem.F.entry_dict_get (PySem.F.args_dict_get_3 _ _ _) (meets_dict_get_default (PySem.strKind prog w) d (PySem.strKind_is prog w k t) lo dflt) ⟨_, hd.mapOf, h⟩
theorem meth_get {d : Addr} {kvs : List (Str × Value)} {pl : Sem Bool} {Q : Value × List Value → Shared → Prop} (hd : s.heap.DictOf (PySem.strKind prog w) d kvs) (h : Q (.builtin "dict.get", [.ref d]) s) : wpAny (model prog w) A (getMethod (.ref d) (Str.ofString "get") pl) Q E s :=
  getMethod_builtin hd.typeIs PySem.F.plainAttrs_dict PySem.F.slot_dict_get PySem.F.type_dict_get hd.mapOf.noDict h
theorem item_fwd {value slice : PySem.Expr} {l : Addr} {bs : List Bool} {k : Nat} {i : Int} {u : Tok} {Q : Value → Shared → Prop} (hl : s.heap.IsList l (bools bs).toArray) (hk : k < bs.length) (hlen : bs.length ≤ 1000) (hi : i = (k : Int)) (h : Q (.bool (bs.getD k false)) s)
    (hs : subscripted slice false (.ref l) (.int i u) = operate [.ref l, .int i u] (getItem (.ref l) (.int i u)) := by with_unfolding_all rfl) :
    wpAny (model prog w) A (subscriptTail value slice (.ref l) (.int i u)) Q E s := by
  subst hi
  refine tail_any hl.typeIs slot_list_getitem.lookup (wpAny_getItem_list hl (by omega) (by omega) ?_ h) hs
  simp [List.getD, hk]
end
theorem take_step {cs : List Bool} {i : Nat} (h : i < cs.length) : cs.take (i + 1) = cs.take i ++ [cs.getD i false] := by
  rw [List.take_add_one]
  simp [List.getD, h]
/-- the four signs, and the pairs of the dict of dues -/
def four : List Nat := [40, 41, 34, 92]
def DueJ (bs : List Bool) (i : Nat) (kvs : List (Str × Value)) : Prop := kvs.map (·.1) = (four.take i).map (fun k => (⟨#[k]⟩ : Str)) ∧ ∀ p ∈ kvs, ∃ k t, p = ((⟨#[k]⟩ : Str), Value.str (dueS k bs) t)
theorem dueJ_len {bs : List Bool} {i : Nat} {kvs : List (Str × Value)} (h : DueJ bs i kvs) : kvs.length ≤ i := by
  have := congrArg List.length h.1
  rw [List.length_map, List.length_map] at this
  rw [this]
  exact List.length_take_le ..
theorem sign_inj {a b : Nat} (h : (⟨#[a]⟩ : Str) = ⟨#[b]⟩) : a = b := by
  injection h with h
  injection h with h
  injection h
theorem dueJ_step {bs : List Bool} {i k : Nat} {t : Tok} {kvs : List (Str × Value)} (h : DueJ bs i kvs) (hk : four[i]? = some k) : DueJ bs (i + 1) (stored kvs (⟨#[k]⟩ : Str) (.str (dueS k bs) t)) := by
  have hno : (kvs.any fun kv => decide (kv.1 = (⟨#[k]⟩ : Str))) = false := by
    rw [List.any_eq_false]
    intro p hp hq
    have e1 : p.1 = (⟨#[k]⟩ : Str) := by simpa using hq
    have e2 : p.1 ∈ kvs.map (·.1) := List.mem_map_of_mem hp
    rw [h.1, e1] at e2
    obtain ⟨k', hk', e3⟩ := List.mem_map.mp e2
    have e4 := sign_inj e3
    subst e4
    have hi : i < 4 := by
      by_cases hi : i < 4
      · exact hi
      · rw [List.getElem?_eq_none (by show 4 ≤ i; omega)] at hk
        cases hk
    have : i = 0 ∨ i = 1 ∨ i = 2 ∨ i = 3 := by omega
    rcases this with rfl | rfl | rfl | rfl <;> (cases hk; revert hk'; decide)
  unfold stored
  rw [hno]
  simp only [Bool.false_eq_true, if_false]
  constructor
  · rw [List.map_append, h.1, List.take_add_one, hk]
    simp
  · intro p hp
    rcases List.mem_append.mp hp with hp | hp
    · exact h.2 p hp
    · rw [List.mem_singleton.mp hp]
      exact ⟨k, t, rfl⟩
theorem due_get {bs : List Bool} {kvs : List (Str × Value)} (h : DueJ bs 4 kvs) (k : Nat) (t : Tok) : ∃ t', (valueAt kvs (⟨#[k]⟩ : Str)).getD (.str ⟨#[k]⟩ t) = .str (dueT bs k) t' := by
  have hkeys : kvs.map (·.1) = four.map (fun k => (⟨#[k]⟩ : Str)) := h.1
  unfold valueAt dueT
  cases hf : kvs.find? fun kv => decide (kv.1 = (⟨#[k]⟩ : Str)) with
  | none =>
    have hno : ¬ (k = 40 ∨ k = 41 ∨ k = 34 ∨ k = 92) := by
      intro hk
      have : (⟨#[k]⟩ : Str) ∈ kvs.map (·.1) := by
        rw [hkeys]
        refine List.mem_map.mpr ⟨k, ?_, rfl⟩
        rcases hk with rfl | rfl | rfl | rfl <;> decide
      obtain ⟨p, hp, e⟩ := List.mem_map.mp this
      have := List.find?_eq_none.mp hf p hp
      exact this (by simp [e])
    rw [if_neg hno]
    exact ⟨t, rfl⟩
  | some p =>
    have hp := List.mem_of_find?_eq_some hf
    have hq := List.find?_some hf
    have e1 : p.1 = (⟨#[k]⟩ : Str) := by simpa using hq
    obtain ⟨k', t', rfl⟩ := h.2 p hp
    have e2 := sign_inj e1
    subst e2
    have hin : k' = 40 ∨ k' = 41 ∨ k' = 34 ∨ k' = 92 := by
      have : (⟨#[k']⟩ : Str) ∈ kvs.map (·.1) := List.mem_map_of_mem (f := (·.1)) hp
      rw [hkeys] at this
      obtain ⟨k'', hk'', e⟩ := List.mem_map.mp this
      have := sign_inj e
      subst this
      have h4 : k'' ∈ [40, 41, 34, 92] := hk''
      simpa using h4
    rw [if_pos hin]
    exact ⟨t', rfl⟩
end Mine

namespace Mine
section
variable {prog : Program} {w : World} {A : Around} {h₀ : Heap} {L : Addr} {m : Str → Option Value} {env : Env} {elt : Expr} {x : Str} {scope : Scope} {cl : List (Str × Addr)} {s : Shared} {S : List (Addr × Obj) → Prop} {Fin : List Value → List (Addr × Obj) → Prop} {news : List (Addr × Obj)}
/-- a comprehension over a text's signs that makes a text of each -/
theorem comp_signs {xt : Str} (g : Nat → Str)
    (turn : ∀ (k : Nat) (t : Tok) I oI C oC D m₂ ys h tk (E' : Value → Shared → Prop), LCg.NsObj oC m₂ → m₂ x = some (.str ⟨#[k]⟩ t) → Fr h₀ L h m → News h₀ L h ((I, oI) :: (C, oC) :: (D, LCg.lst ys) :: news) → LCg.Off3 I C D news → ((@Ne Nat I C) ∧ (@Ne Nat I D) ∧ (@Ne Nat C D)) →
      wpAny (model prog w) A (eval elt (compEnvC scope cl C env)) (LCg.CompEnd h₀ L m { s with heap := h, toks := tk } I oI C oC D (LCg.lst ys) S (fun y news' => DatEl news (.str (g k)) y news')) E' { s with heap := h, toks := tk })
    (fin : ∀ ys, CarriedAll ys (xt.cps.toList.map fun k => .str (g k)) → Fin ys news) : LCg.CompRest prog w A h₀ L m env elt x scope cl s S (SignAt xt) Fin xt.cps.size 0 [] news := by
  have key : ∀ (j i : Nat) (ys : List Value), i + j = xt.cps.toList.length → CarriedAll ys ((xt.cps.toList.take i).map fun k => .str (g k)) → LCg.CompRest prog w A h₀ L m env elt x scope cl s S (SignAt xt) Fin j i ys news := by
    intro j
    induction j with
    | zero =>
      intro i ys hi hy
      have e : xt.cps.toList.take i = xt.cps.toList := List.take_of_length_le (by omega)
      rw [e] at hy
      exact LCg.CompRest.zero (fin ys hy)
    | succ j ih =>
      intro i ys hi hy
      refine LCg.CompRest.succ fun v I oI C oC D m₂ h tk E' hv hC hx F N off ne => ?_
      obtain ⟨c, u, hc, rfl⟩ := hv
      have hv' : xt.cps.toList[i]? = some c := by rw [Array.getElem?_toList]; exact hc
      refine wpAny_mono (turn c u I oI C oC D m₂ ys h tk E' hC hx F N off ne) (fun y s₂ hq => ?_) fun _ _ e => e
      obtain ⟨h', tk', nw, e, F', N', off', hS, hn, hcr⟩ := hq
      subst hn
      refine ⟨h', tk', nw, e, F', N', off', hS, ih (i + 1) _ (by omega) ?_⟩
      rw [List.take_add_one, hv']
      show CarriedAll _ ((xt.cps.toList.take i ++ [c]).map _)
      rw [List.map_append]
      exact CarriedAll.appendLM hy (.cons hcr .nil)
  have := key xt.cps.toList.length 0 [] (by omega) .nil
  rw [Array.length_toList] at this
  exact this
end
section
variable {prog : Program} {w : World} {A : Around} {E : Value → Shared → Prop} {s : Shared} {h₀ : Heap} {L : Addr} {m : Str → Option Value} {env : Env}
/-- as DictComp_str, with a marker so that the steps stop at the source -/
theorem DictComp_stop {vx iter : Expr} {x : Str} {px pk : Pos} {scope : Scope} {cl : List (Str × Addr)} {pos : Pos} {Q : Value → Shared → Prop} (J : Nat → List (Str × Value) → Prop)
    (hh : A.handled = none) (hclos : closureFor scope env = pure cl) (hcell : ∀ y ∈ scope.names, y.2 ≠ .cell) (hkind : scope.kind = .function)
    (hnames : ∀ y ∈ scope.names, y.2 = .local → scope.names.lookup y.1 = some .local) (hx : scope.names.lookup x = some .local) (hb : (x == ("__debug__" : Str)) = false)
    (h : wpAny (model prog w) A (eval iter env) (fun xv s₁ => Stop (∃ xt tx news, xv = .str xt tx ∧ DictSrc prog w A h₀ L m env vx x scope cl Q xt news s₁ J)) E s)
    (hs : ∀ x, foldedSetIterable iter env x = pure x := by intro _; rfl) :
    wpAny (model prog w) A (eval (.DictComp (.Name x pk) vx [⟨.Name x px, iter, [], 0⟩] scope pos) env) Q E s :=
  DictComp_str J hh hclos hcell hkind hnames hx hb (wpAny_mono h (fun _ _ h => h.out) fun _ _ e => e) hs
theorem ListComp_stop {elt iter : Expr} {x : Str} {px : Pos} {scope : Scope} {cl : List (Str × Addr)} {pos : Pos} {Q : Value → Shared → Prop}
    (hclos : closureFor scope env = pure cl) (hcell : ∀ y ∈ scope.names, y.2 ≠ .cell) (hkind : scope.kind = .function)
    (hnames : ∀ y ∈ scope.names, y.2 = .local → scope.names.lookup y.1 = some .local) (hx : scope.names.lookup x = some .local)
    (h : wpAny (model prog w) A (eval iter env) (fun xv s₁ => Stop (∃ xt tx news, xv = .str xt tx ∧ A.handled = none ∧ Fr h₀ L s₁.heap m ∧ News h₀ L s₁.heap news ∧ xt.cps.size ≤ sizeLine ∧
      ∀ s₂ : Shared, (∃ h, s₂ = { s₁ with heap := h }) → LCg.CompRest prog w A h₀ L m env elt x scope cl s₂ (fun _ => True) (SignAt xt) (LCg.FinE h₀ L m s₂ Q) xt.cps.size 0 [] news)) E s)
    (hs : ∀ x, foldedSetIterable iter env x = pure x := by intro _; rfl) :
    wpAny (model prog w) A (eval (.ListComp elt [⟨.Name x px, iter, [], 0⟩] scope pos) env) Q E s :=
  ListComp_str hclos hcell hkind hnames hx (wpAny_mono h (fun _ _ h => h.out) fun _ _ e => e) hs
end
theorem four_at {i k : Nat} (h : (Str.ofString "()\"\\").cps[i]? = some k) : four[i]? = some k := by
  have e : Str.ofString "()\"\\" = ⟨#[40, 41, 34, 92]⟩ := by decide +kernel
  rw [e] at h
  simpa [four] using h
theorem four_in {i k : Nat} (h : four[i]? = some k) : k = 40 ∨ k = 41 ∨ k = 34 ∨ k = 92 := by
  have h := List.mem_of_getElem? h
  have h4 : k ∈ [40, 41, 34, 92] := h
  simpa using h4
end Mine

namespace Mine
def lawBody2 : List Stmt := match Challenge.pw_dm0092_02.main.body with
  | [_, _, _, _, _, _, .FunctionDef _ _ b _ _ _ _ _ _ _] => b
  | _ => []
def lawScope : Scope := match Challenge.pw_dm0092_02.main.body with
  | [_, _, _, _, _, _, .FunctionDef _ _ _ _ _ _ sc _ _ _] => sc
  | _ => default
def outBody : List Stmt := match lawBody2 with
  | [_, _, _, .For _ _ b _ _, _] => b
  | _ => []
def outPos : Pos := match lawBody2 with
  | [_, _, _, .For (.Name _ p) _ _ _ _, _] => p
  | _ => default
def inBody : List Stmt := match outBody with
  | [_, .For _ _ b _ _] => b
  | _ => []
def inPos : Pos := match outBody with
  | [_, .For (.Name _ p) _ _ _ _] => p
  | _ => default
abbrev txtMap (tx : Str) (ttx : Tok) (mm : Str → Option Value) : Str → Option Value := fun y => if y = Str.ofString "text" then some (.str tx ttx) else mm y
local macro_rules | `(tactic| walk_at "CompSrc") => `(tactic| (k_here; refine Stop.out ?_))
local macro_rules | `(tactic| walk_at "call ref") => `(tactic| (k_here; refine Stop.out ?_))
local macro_rules | `(tactic| walk_at "call builtin:str.join") => `(tactic| (k_here; refine Stop.out ?_))
local macro_rules | `(tactic| walk_at "compareOp NotEq str str") => `(tactic| (k_here; refine Stop.out ?_))
local macro_rules | `(tactic| walk_at "eval ListComp") => `(tactic| (k_here; refine Stop.out ?_))
local macro_rules | `(tactic| walk_at "eval DictComp") => `(tactic| (k_here; refine Stop.out ?_))
local macro_rules | `(tactic| walk_at "eval IfExp") => `(tactic| (k_here; refine Stop.out ?_))
local macro_rules | `(tactic| walk_at "storeName") => `(tactic| (k_here; (with_reducible show wpAny _ _ (storeName _ (Str.ofString "size") _) _ _ _); refine Stop.out ?_))
local macro_rules | `(tactic| walk_at "storeName") => `(tactic| (k_here; (with_reducible show wpAny _ _ (storeName _ (Str.ofString "dues") _) _ _ _); refine Stop.out ?_))
local macro_rules | `(tactic| walk_at "call builtin:dict.get") => `(tactic| (k_here; refine Stop.out ?_))
local macro_rules | `(tactic| walk_at "subscriptTail") => `(tactic| (k_here; refine Stop.out ?_))
abbrev inFix (L : Addr) (oS1 : Obj) (I : Addr) (oI : Obj) (ax row neg st : Addr) (bs cs : List Bool) (jN jR j : Nat) : List (Addr × Obj) := [(L + 1, oS1), (I, oI), (ax, W.listOf #[.ref row, .ref neg] 0), (neg, W.listOf (bools (bs.map (!·))).toArray jN), (row, W.listOf (bools bs).toArray jR), (st, W.listOf (bools cs).toArray j)]

set_option maxHeartbeats 2000000 in
theorem inTurn (w : World) {mean : ExcName → Option Value} {mg mb : Str → Option Value} {h₀ : Heap} {L fa : Addr} {cd : Value} {mm : Str → Option Value} {tx : Str} {ttx t tv : Tok} {ax row neg st I J : Addr} {oI oJ oS1 oZ oD : Obj} {vZ vD : Option Value} {bs cs : List Bool} {i j jN jR : Nat} {s : Shared} {Q : Flow → Shared → Prop} :
    Below callerA h₀ [] h₀ → (hd.heap_39 w.params).In h₀ → Top hd.view_39 (looseW hd.view_39 []) mean mg mb h₀ → tx.length ≤ 67 → cs.length = 4 → i < 4 →
    (@LT.lt Nat _ (L + 1 + 1 + 1) ax) → Apt row (L + 1) (L + 1 + 1) (L + 1 + 1 + 1) → Apt neg (L + 1) (L + 1 + 1) (L + 1 + 1 + 1) → Apt st (L + 1) (L + 1 + 1) (L + 1 + 1 + 1) → (@LT.lt Nat _ ax I) → (@LT.lt Nat _ I J) →
    oS1.data = .cell (some (.ref st)) → oZ.data = .cell vZ → oD.data = .cell vD → Fr h₀ L s.heap (fun y => if y = Str.ofString "told" then some (.str (toldT (cs.take i) tx) tv) else txtMap tx ttx mm y) →
    News h₀ L s.heap [(J, oJ), (L + 1, oS1), (I, oI), (ax, W.listOf #[.ref row, .ref neg] 0), (neg, W.listOf (bools (bs.map (!·))).toArray jN), (row, W.listOf (bools bs).toArray jR), (st, W.listOf (bools cs).toArray j), (L + 1 + 1 + 1, oD), (L + 1 + 1, oZ)] →
    wpAny (model Challenge.rw_dm0092_02.row.prog w) (callerA.deeper (envOfC (Str.ofString "law") lawScope L fa cd)) (assign (.Name (Str.ofString "size") inPos) (envOfC (Str.ofString "law") lawScope L fa cd) (.int (1 + (i : Int)) t))
      (fun _ s₂ => wpAny (model Challenge.rw_dm0092_02.row.prog w) (callerA.deeper (envOfC (Str.ofString "law") lawScope L fa cd)) (execs inBody (envOfC (Str.ofString "law") lawScope L fa cd))
        (InEnd h₀ L (txtMap tx ttx mm) (Str.ofString "told") (toldT (cs.take (i + 1)) tx) ((J, oJ) :: inFix L oS1 I oI ax row neg st bs cs jN jR j) (L + 1 + 1) (L + 1 + 1 + 1) s Q) (fun _ _ => False) s₂) (fun _ _ => False) s := by
  w_on
  delta inBody inPos outBody lawBody2 outPos lawBody2 lawScope Challenge.pw_dm0092_02
  dsimp only
  k_fill
  intro B X T htl hcs hi lA pR pN pT lI lJ dS1 dZ dD F N
  obtain ⟨pR1, pR2, pR3⟩ := pR
  obtain ⟨pN1, pN2, pN3⟩ := pN
  obtain ⟨pT1, pT2, pT3⟩ := pT
  k_fold
  k_steps
  refine Stop.mk ?_
  refine store_cell [(J, oJ), (L + 1, oS1), (I, oI), (ax, W.listOf #[.ref row, .ref neg] 0), (neg, W.listOf (bools (bs.map (!·))).toArray jN), (row, W.listOf (bools bs).toArray jR), (st, W.listOf (bools cs).toArray j), (L + 1 + 1 + 1, oD)] F N rfl (by k_mem) dZ (by kcf_all) ?_ ?_
  · simp only [List.forall_mem_cons]
    refine ⟨?_, ?_, ?_, ?_, ?_, ?_, ?_, ?_, fun p hp => nomatch hp⟩ <;> (refine neN ?_; omega)
  intro h1 oZ1 F1 N1 dZ1
  clear N F
  k_steps
  refine Stop.mk ?_
  have hle : (toldT (cs.take i) tx).length ≤ 200000 := by
    have h1 := toldT_le tx (cs.take i)
    have h2 : (cs.take i).length = i := by rw [List.length_take]; omega
    rw [h2] at h1
    have h3 : 2 ^ i ≤ 16 := Nat.le_trans (Nat.pow_le_pow_right (by decide) (by omega : i ≤ 4)) (by decide)
    exact Nat.le_trans h1 (Nat.le_trans (Nat.mul_le_mul h3 htl) (by decide))
  refine wpAny_mono (Q := fun v s' => ∃ t' h' tk', v = .str (toldT (cs.take (i + 1)) tx) t' ∧ s' = { s with heap := h', toks := tk' } ∧ Fr h₀ L h' (fun y => if y = Str.ofString "told" then some (.str (toldT (cs.take i) tx) tv) else txtMap tx ttx mm y) ∧ News h₀ L h' [(L + 1 + 1, oZ1), (J, oJ), (L + 1, oS1), (I, oI), (ax, W.listOf #[.ref row, .ref neg] 0), (neg, W.listOf (bools (bs.map (!·))).toArray jN), (row, W.listOf (bools bs).toArray jR), (st, W.listOf (bools cs).toArray j), (L + 1 + 1 + 1, oD)]) ?_ ?_ (fun _ _ e => e)
  · have eT : toldT (cs.take (i + 1)) tx = stepT (cs.getD i false) (toldT (cs.take i) tx) := by rw [take_step (by omega), toldT_snoc]
    rw [eT]
    generalize toldT (cs.take i) tx = told at *
    refine IfExp_ ?_
    k_steps
    refine Stop.mk ?_
    refine item_fwd (bs := cs) (k := i) (News.isList N1 (by k_mem)) (by omega) (by omega) (by omega) ?_
    generalize cs.getD i false = c at *
    cases c
    · k_steps
      refine Stop.mk ?_
      k_dflt (refine mqpC2 _ (by k_asm) (by k_asm) (by k_asm) (by k_asm) (by k_asm) (by exact rfl) hle (by ktr_room) (by ktr_units) ?_)
      intro t9 h9 tk9 F9 N9
      exact ⟨_, _, _, rfl, rfl, F9, N9⟩
    · k_steps
      refine Stop.mk ?_
      k_dflt (refine mppC2 _ (by k_asm) (by k_asm) (by k_asm) (by k_asm) (by k_asm) (by exact rfl) hle (by ktr_room) (by ktr_units) ?_)
      intro t9 h9 tk9 F9 N9
      exact ⟨_, _, _, rfl, rfl, F9, N9⟩
  rintro v s' ⟨t9, h9, tk9, rfl, rfl, F9, N9⟩
  clear F1 N1 hle
  rw [show (1 + (i : Int)) = ((i + 1 : Nat) : Int) from by omega] at dZ1
  have htk : (cs.take (i + 1)).length ≤ 4 := by rw [List.length_take]; omega
  k_steps
  refine Stop.mk ?_
  (with_reducible rename Fr _ _ _ _ => F10)
  (with_reducible rename News _ _ _ _ => N10)
  have em : (fun y => if y = Str.ofString "told" then some (Value.str (toldT (cs.take (i + 1)) tx) t9) else if y = Str.ofString "told" then some (.str (toldT (cs.take i) tx) tv) else txtMap tx ttx mm y) = fun y => if y = Str.ofString "told" then some (Value.str (toldT (cs.take (i + 1)) tx) t9) else txtMap tx ttx mm y := by
    funext y
    by_cases hy : y = Str.ofString "told"
    · simp [hy]
    · simp [hy]
  rw [em] at F10
  clear em
  refine DictComp_stop (h₀ := h₀) (L := L) (m := fun y => if y = Str.ofString "told" then some (Value.str (toldT (cs.take (i + 1)) tx) t9) else txtMap tx ttx mm y) (DueJ (cs.take (i + 1))) rfl (by with_unfolding_all rfl) (by decide) (by rfl) (by decide) (by rfl) (by decide) ?_
  k_steps
  refine Stop.mk ?_
  refine ⟨_, _, _, rfl, F10, N10, by decide +kernel, ⟨rfl, fun p hp => nomatch hp⟩, fun _ _ => dueJ_len, ?_, ?_⟩
  · intro i2 k t2 I2 oI2 C2 oC2 D2 oD2 m2 kvs h2 tk2 E2 hk hJ hC hx F2 N2 off ne
    simp only [LCg.Off3, and_true] at off
    k_fold
    k_steps
    refine Stop.mk ?_
    k_dflt (refine' slice_upto (vs := bools cs) (n := i + 1) ?zzF ?zzN ?zzl ?_ ?zzs ?zzz; (case zzF => k_asm); (case zzN => k_asm); (case zzl => exact News.isList (by k_asm) (by k_mem)); (case zzs => with_unfolding_all rfl); (case zzz => rw [List.size_toArray, List.length_map, hcs, sizeLine_eq]; decide))
    intro D3 h3 F3 N3 l3
    rw [← List.map_take] at N3
    clear F2 N2
    k_steps
    refine Stop.mk ?_
    have hk4 := four_at hk
    k_dflt (refine dueC (bs := cs.take (i + 1)) _ (four_in hk4) (by k_asm) (by k_asm) (by k_asm) (by k_asm) (by k_asm) (by exact rfl) ⟨⟨_, List.mem_cons_self ..⟩, htk⟩ (by ktr_room) (by ktr_units) ?_)
    intro t4 h4 tk4 F4 N4
    exact LCg.CompEnd.intro F4 N4 _ (fun p hp => List.mem_cons_of_mem _ hp) (by simp only [LCg.Off3, and_true]; exact off) trivial ⟨rfl, dueJ_step hJ hk4⟩
  · intro D2 oD2 kvs h2 tk2 hJ hD lD F2 N2 off
    simp only [LCg.Off1, and_true] at off
    clear F10 N10
    k_steps
    refine Stop.mk ?_
    refine store_cell [(D2, oD2), (L + 1 + 1, oZ1), (J, oJ), (L + 1, oS1), (I, oI), (ax, W.listOf #[.ref row, .ref neg] 0), (neg, W.listOf (bools (bs.map (!·))).toArray jN), (row, W.listOf (bools bs).toArray jR), (st, W.listOf (bools cs).toArray j)] F2 N2 rfl (by k_mem) dD (by kcf_all) ?_ ?_
    · obtain ⟨o1, o2, o3, o4, o5, o6, o7, o8, o9⟩ := off
      simp only [List.forall_mem_cons]
      refine ⟨?_, ?_, ?_, ?_, ?_, ?_, ?_, ?_, ?_, fun p hp => nomatch hp⟩
      · exact fun e => o9 e.symm
      all_goals (refine neN ?_; omega)
    intro h5 oD5 F5 N5 dD5
    clear N2 F2
    k_steps
    refine Stop.mk ?_
    refine ListComp_stop (h₀ := h₀) (L := L) (m := fun y => if y = Str.ofString "told" then some (Value.str (toldT (cs.take (i + 1)) tx) t9) else txtMap tx ttx mm y) (by with_unfolding_all rfl) (by decide) (by rfl) (by decide) (by rfl) ?_
    k_steps
    refine Stop.mk ?_
    refine ⟨_, _, _, rfl, rfl, F5, N5, ?_, ?_⟩
    · rw [sizeLine_eq]
      exact Nat.le_trans htl (by decide)
    rintro s9 ⟨h6, rfl⟩
    refine comp_signs (dueT (cs.take (i + 1))) ?_ ?_
    · intro k t2 I2 oI2 C2 oC2 D3 m2 ys h7 tk7 E2 hC hx F7 N7 off7 ne7
      simp only [LCg.Off3, and_true] at off7
      k_fold
      k_steps
      have hlo : (D2 == sysModules) = false := by
        obtain ⟨o1, o2, o3, o4, o5, o6, o7, o8, o9⟩ := off
        exact beq_false_of_ne (by show @Ne Nat D2 1; omega)
      have hJ4 : DueJ (cs.take (i + 1)) 4 kvs := by
        rw [show (Str.ofString "()\"\\").cps.size = 4 from by decide +kernel] at hJ
        exact hJ
      obtain ⟨t8, e8⟩ := due_get hJ4 k t2
      refine Stop.mk ?_
      refine get2_str (kvs := kvs) (Heap.dictOf_iff.mpr ⟨oD2, (N7 (D2, oD2) (by k_mem)).1, hD⟩) hlo ?_
      rw [e8]
      exact LCg.CompEnd.intro F7 N7 _ (fun p hp => hp) (by simp only [LCg.Off3, and_true]; exact off7) trivial ⟨rfl, Carried.str _ _⟩
    · intro ys hys
      k_steps
      refine Stop.mk ?_
      refine join_some (m := 21) (n := 67) (News.isList (by k_asm) (by k_mem)) hys.strsOf ?_ ?_ (by decide) ?_
      · intro a ha
        obtain ⟨k, _, rfl⟩ := List.mem_map.mp ha
        exact dueT_le htk
      · rw [List.length_map]
        exact htl
      intro tj hj hjl t8 k8
      k_steps
      refine Stop.mk ?_
      refine ne_same (by rw [hj]; exact told_law2 tx _) ?_
      k_steps
      unfold InEnd
      dsimp only
      exact ⟨_, _, _, oZ1, oD5, _, _, _, rfl, by assumption, by assumption, by kcf_all, by k_mem, by k_mem, dZ1, dD5⟩
end Mine

namespace Mine
local macro_rules | `(tactic| walk_at "CompSrc") => `(tactic| (k_here; refine Stop.out ?_))
local macro_rules | `(tactic| walk_at "call ref") => `(tactic| (k_here; refine Stop.out ?_))
local macro_rules | `(tactic| walk_at "call builtin:str.join") => `(tactic| (k_here; refine Stop.out ?_))
local macro_rules | `(tactic| walk_at "pyIter ref") => `(tactic| (k_here; refine Stop.out ?_))
local macro_rules | `(tactic| walk_at "compareOp NotEq str str") => `(tactic| (k_here; refine Stop.out ?_))
local macro_rules | `(tactic| walk_at "exec For") => `(tactic| (k_here; refine Stop.out ?_))
local macro_rules | `(tactic| walk_at "exec For Name Call cons nil") => `(tactic| (k_here; refine Stop.out ?_))
local macro_rules | `(tactic| walk_at "eval ListComp") => `(tactic| (k_here; refine Stop.out ?_))
local macro_rules | `(tactic| walk_at "eval DictComp") => `(tactic| (k_here; refine Stop.out ?_))
local macro_rules | `(tactic| walk_at "storeName") => `(tactic| (k_here; (with_reducible show wpAny _ _ (storeName _ (Str.ofString "steps") _) _ _ _); refine Stop.out ?_))
local macro_rules | `(tactic| walk_at "storeName") => `(tactic| (k_here; (with_reducible show wpAny _ _ (storeName _ (Str.ofString "size") _) _ _ _); refine Stop.out ?_))
local macro_rules | `(tactic| walk_at "storeName") => `(tactic| (k_here; (with_reducible show wpAny _ _ (storeName _ (Str.ofString "dues") _) _ _ _); refine Stop.out ?_))
local macro_rules | `(tactic| walk_at "subscriptTail") => `(tactic| (k_here; refine Stop.out ?_))

set_option maxHeartbeats 2000000 in
theorem outTurn (w : World) {mean : ExcName → Option Value} {mg mb : Str → Option Value} {h₀ : Heap} {L fa : Addr} {cd : Value} {mm : Str → Option Value} {tx : Str} {ttx : Tok} {ax row neg st I : Addr} {oI oS oZ oD : Obj} {vS vZ vD u : Option Value} {bs cs : List Bool} {j jN jR : Nat} {s : Shared} {Q : Flow → Shared → Prop} :
    Below callerA h₀ [] h₀ → (hd.heap_39 w.params).In h₀ → Top hd.view_39 (looseW hd.view_39 []) mean mg mb h₀ → tx.length ≤ 67 → cs.length = 4 →
    (@LT.lt Nat _ (L + 1 + 1 + 1) ax) → Apt row (L + 1) (L + 1 + 1) (L + 1 + 1 + 1) → Apt neg (L + 1) (L + 1 + 1) (L + 1 + 1 + 1) → Apt st (L + 1) (L + 1 + 1) (L + 1 + 1 + 1) → (@LT.lt Nat _ ax I) →
    oS.data = .cell vS → oZ.data = .cell vZ → oD.data = .cell vD → Fr h₀ L s.heap (fun y => if y = Str.ofString "told" then u else txtMap tx ttx mm y) →
    News h₀ L s.heap [(I, oI), (ax, W.listOf #[.ref row, .ref neg] 0), (neg, W.listOf (bools (bs.map (!·))).toArray jN), (row, W.listOf (bools bs).toArray jR), (st, W.listOf (bools cs).toArray j), (L + 1 + 1 + 1, oD), (L + 1 + 1, oZ), (L + 1, oS)] →
    wpAny (model Challenge.rw_dm0092_02.row.prog w) (callerA.deeper (envOfC (Str.ofString "law") lawScope L fa cd)) (assign (.Name (Str.ofString "steps") outPos) (envOfC (Str.ofString "law") lawScope L fa cd) (.ref st))
      (fun _ s₂ => wpAny (model Challenge.rw_dm0092_02.row.prog w) (callerA.deeper (envOfC (Str.ofString "law") lawScope L fa cd)) (execs outBody (envOfC (Str.ofString "law") lawScope L fa cd))
        (OutEnd h₀ L (txtMap tx ttx mm) (Str.ofString "told") [(I, oI), (ax, W.listOf #[.ref row, .ref neg] 0), (neg, W.listOf (bools (bs.map (!·))).toArray jN), (row, W.listOf (bools bs).toArray jR)] (L + 1) (L + 1 + 1) (L + 1 + 1 + 1) s Q) (fun _ _ => False) s₂) (fun _ _ => False) s := by
  w_on
  delta outBody lawBody2 outPos lawBody2 lawScope Challenge.pw_dm0092_02
  dsimp only
  k_fill
  intro B X T htl hcs lA pR pN pT lI dS dZ dD F N
  k_fold
  k_steps
  refine Stop.mk ?_
  refine store_cell [(I, oI), (ax, W.listOf #[.ref row, .ref neg] 0), (neg, W.listOf (bools (bs.map (!·))).toArray jN), (row, W.listOf (bools bs).toArray jR), (st, W.listOf (bools cs).toArray j), (L + 1 + 1 + 1, oD), (L + 1 + 1, oZ)] F N rfl (by k_mem) dS (by kcf_all) ?_ ?_
  · obtain ⟨pR1, pR2, pR3⟩ := pR
    obtain ⟨pN1, pN2, pN3⟩ := pN
    obtain ⟨pT1, pT2, pT3⟩ := pT
    simp only [List.forall_mem_cons]
    refine ⟨?_, ?_, ?_, ?_, ?_, ?_, ?_, fun p hp => nomatch hp⟩ <;> (refine neN ?_; omega)
  intro h1 oS1 F1 N1 dS1
  clear N F
  k_steps
  refine Stop.mk ?_
  refine wpAny_For ?_
  k_steps
  refine Stop.mk ?_
  refine for_size (m₀ := txtMap tx ttx mm) (tt := ttx) [(L + 1, oS1), (I, oI), (ax, W.listOf #[.ref row, .ref neg] 0), (neg, W.listOf (bools (bs.map (!·))).toArray jN), (row, W.listOf (bools bs).toArray jR), (st, W.listOf (bools cs).toArray j)] (Str.ofString "told") (fun i => toldT (cs.take i) tx) rfl (by assumption) (by k_asm) ?hm (by k_asm) rfl dZ dD ?_ ?_
  case hm =>
    funext y
    by_cases hy : y = Str.ofString "told"
    · simp [hy]; rfl
    · simp [hy]
  · intro i t tv oZ oD vZ vD J oJ h tk hi hlt lZ lD dZ dD F N
    simp only [List.forall_mem_cons] at hlt
    obtain ⟨-, lI1, -⟩ := hlt
    simp only [List.cons_append, List.nil_append] at N
    exact inTurn w B X T htl hcs hi lA pR pN pT lI lI1 dS1 dZ dD F N
  · intro tv oZ oD vZ vD h tk dZ dD F N
    simp only [List.cons_append, List.nil_append] at N
    k_steps
    unfold OutEnd
    dsimp only
    exact ⟨_, _, _, oS1, oZ, oD, _, _, _, _, rfl, F, N, by kcf_all, by k_mem, by k_mem, by k_mem, dS1, dZ, dD⟩
end Mine

namespace Mine
theorem take_len4 {vs : List Value} {ns : List Int} (_ : IntsAre vs (List.take 4 ns)) : (List.take 4 ns).length ≤ 4 := List.length_take_le ..
theorem fr_txt {h₀ h : Heap} {L : Addr} {m : Str → Option Value} {tx : Str} {ttx : Tok} (F : Fr h₀ L h m) (e : m (Str.ofString "text") = some (.str tx ttx)) : Fr h₀ L h (txtMap tx ttx m) := by
  have : txtMap tx ttx m = m := by
    funext y
    by_cases hy : y = Str.ofString "text"
    · simp [txtMap, hy, e]
    · simp [txtMap, hy]
  rw [this]
  exact F
local macro_rules | `(tactic| walk_at "CompSrc") => `(tactic| (k_here; refine Stop.out ?_))
local macro_rules | `(tactic| walk_at "call ref") => `(tactic| (k_here; refine Stop.out ?_))
local macro_rules | `(tactic| walk_at "call builtin:str.join") => `(tactic| (k_here; refine Stop.out ?_))
local macro_rules | `(tactic| walk_at "pyIter ref") => `(tactic| (k_here; refine Stop.out ?_))
local macro_rules | `(tactic| walk_at "exec For") => `(tactic| (k_here; refine Stop.out ?_))
local macro_rules | `(tactic| walk_at "exec For Name List cons nil") => `(tactic| (k_here; refine Stop.out ?_))
local macro_rules | `(tactic| walk_at "exec For Name Call cons nil") => `(tactic| (k_here; refine Stop.out ?_))
local macro_rules | `(tactic| walk_at "compareOp NotEq str str") => `(tactic| (k_here; refine Stop.out ?_))
local macro_rules | `(tactic| walk_at "binaryOp Add str str") => `(tactic| (k_here; refine Stop.out ?_))
local macro_rules | `(tactic| walk_at "call builtin:len") => `(tactic| (k_here; (show wpAny _ _ (call (Value.builtin "len") [Value.ref _]) _ _ _); refine Stop.out ?_))
local macro_rules | `(tactic| walk_at "binaryOp Add ref ref") => `(tactic| (k_here; refine Stop.out ?_))
local macro_rules | `(tactic| walk_at "subscriptTail") => `(tactic| (k_here; (with_reducible show wpAny _ _ (subscriptTail _ (PySem.Expr.Slice (some _) none none _) (Value.ref _) (Value.ref _)) _ _ _); refine Stop.out ?_))
local macro_rules | `(tactic| walk_at "DatEl") => `(tactic| exact ⟨by with_unfolding_all rfl, Carried.bool _⟩)
local macro_rules | `(tactic| walk_at "eval ListComp") => `(tactic| (k_here; k_dflt (refine LCg.ListComp_U (F₀ := by k_asm) (by with_unfolding_all rfl) (by decide) (by rfl) (by decide) (by rfl) ?_)))
local macro_rules | `(tactic| walk_at "eval ListComp") => `(tactic| (k_here; (with_reducible show wpAny _ _ (eval (PySem.Expr.ListComp _ [Comprehension.mk _ (PySem.Expr.Name (Str.ofString "text") _) _ _] _ _) _) _ _ _); refine Stop.out ?_))
local macro_rules | `(tactic| walk_at "eval DictComp") => `(tactic| (k_here; refine Stop.out ?_))
local macro_rules | `(tactic| walk_at "storeName") => `(tactic| (k_here; (with_reducible show wpAny _ _ (storeName _ (Str.ofString "steps") _) _ _ _); refine Stop.out ?_))
local macro_rules | `(tactic| walk_at "storeName") => `(tactic| (k_here; (with_reducible show wpAny _ _ (storeName _ (Str.ofString "size") _) _ _ _); refine Stop.out ?_))
local macro_rules | `(tactic| walk_at "storeName") => `(tactic| (k_here; (with_reducible show wpAny _ _ (storeName _ (Str.ofString "dues") _) _ _ _); refine Stop.out ?_))
local macro_rules | `(tactic| walk_at "KCtEl") => `(tactic| exact kct_el rfl (by with_unfolding_all rfl) (by with_unfolding_all rfl))

set_option maxHeartbeats 2000000 in
theorem holds2 : PySem.Challenge.rw_dm0092_02.Holds := hd (by
  w_strict (k_go0; (all_goals try k_fold); k_steps)
  refine Stop.mk ?_
  (with_reducible rename IntsAre _ (List.take 63 _) => hI)
  have h63 := take_len hI
  k_dflt (refine LCg.CompSrc.ledger (by rfl) (by k_asm) (by k_asm) (by k_mem) (by rw [List.size_toArray, IntsAre.length hI, sizeLine_eq]; omega) ?_)
  intro g'
  refine' kct_list signS2 hI (fun k' t' I' oI' C' oC' D' m' ys' h' tk' E' hk' hC' hx' F' N' off' ne' mk' => ?_) ?_
  · simp only [LCg.Off3, and_true] at off'
    k_fold
    k_steps
    refine Stop.mk ?_
    k_dflt (refine signC2 _ (by k_asm) (by k_asm) (by k_asm) (by k_asm) (by k_asm) (by exact rfl) trivial (by ktr_room) (by ktr_units) ?_)
    intro t9 h9 tk9 F9 N9
    k_steps
  k_steps
  refine Stop.mk ?_
  (with_reducible rename CarriedAll _ _ => hCar)
  refine join_text2 (News.isList (by k_asm) (by k_mem)) hCar h63 ?_
  intro tx₀ htx₀ htl₀ t9 k9
  k_steps
  refine Stop.mk ?_
  refine add_str ?_ (by rw [sizeLine_eq, show (Str.ofString ")\\\"(").length = 4 from by decide +kernel]; omega)
  intro t9 k9
  k_steps
  -- drawn
  refine Stop.mk ?_
  (with_reducible rename IntsAre _ (List.take 4 _) => hI4)
  have h4 := take_len4 hI4
  k_dflt (refine LCg.CompSrc.ledger (by rfl) (by k_asm) (by k_asm) (by k_mem) (by rw [List.size_toArray, IntsAre.length hI4, sizeLine_eq]; omega) ?_)
  intro g'
  refine' comp_dat dOdd (fun v I' oI' C' oC' D' m' ys' h' tk' E' hv' hC' hx' F' N' off' ne' => ?_) (fun ys hys => ?_)
  · obtain ⟨k', t', rfl⟩ := ints_mem hI4 hv'
    simp only [LCg.Off3, and_true] at off'
    k_fold
    k_steps
  k_steps
  obtain ⟨bs, hbs, hbl⟩ := odd_bools hI4 hys
  rw [IntsAre.length hI4] at hbl
  refine Stop.mk ?_
  have hyl : ys.length ≤ 4 := by rw [hbs, List.length_map]; omega
  refine kst_len (by k_asm) (by k_mem) rfl (by omega) ?_
  k_steps
  refine Stop.mk ?_
  k_dflt (refine' slice_from (vs := [Value.bool false, Value.bool true, Value.bool false, Value.bool false]) ?zzF ?zzN ?zzl ?_ ?zzs ?zzz; (case zzF => k_asm); (case zzN => k_asm); (case zzl => exact News.isList (by k_asm) (by k_mem)); (case zzs => with_unfolding_all rfl); (case zzz => decide))
  intro D' h' F' N' l1
  k_lt l1
  k_sweep
  k_steps
  refine Stop.mk ?_
  obtain ⟨b0, b1, b2, b3, hrow⟩ := row_bools (bs := bs) (by omega)
  rw [← hbs] at hrow
  refine kmk_add_lit (by k_asm) (by k_asm) (News.isList (by k_asm) (by k_mem)) (News.isList (by k_asm) (by k_mem)) hrow ?_ ?_
  · intro D' h' F' N' l1
    k_lt l1
    k_sweep
    k_steps
    -- for steps in [row, [not step for step in row]]
    refine Stop.mk ?_
    refine wpAny_For ?_
    k_steps
    refine Stop.mk ?_
    k_dflt (refine LCg.CompSrc.ledger (by rfl) (by k_asm) (by k_asm) (by k_mem) (Nat.le_of_ble_eq_true rfl) ?_)
    intro g'
    refine' comp_dat (vs := [b0, b1, b2, b3].map Value.bool) dNot (fun v I' oI' C' oC' D' m' ys' h' tk' E' hv' hC' hx' F' N' off' ne' => ?_) (fun ys2 hys2 => ?_)
    · obtain ⟨b, _, rfl⟩ := List.mem_map.mp hv'
      simp only [LCg.Off3, and_true] at off'
      k_fold
      k_steps
    obtain rfl := not_bools hys2
    k_steps
    refine Stop.mk ?_
    refine wpAny_pyIter_list (News.isList (by k_asm) (by k_mem)) ?_
    (with_reducible rename Fr _ _ _ _ => FF)
    have FT := fr_txt FF rfl
    refine for_two (bs := [b0, b1, b2, b3]) (Str.ofString "told") rfl rfl FT (by k_asm) ⟨⟨by omega, by omega, by omega⟩, by omega, by omega, by omega⟩ rfl (by assumption) (by assumption) (by assumption) ?_ ?_
    · intro st cs j u oS oZ oD vS vZ vD I oI h tk hcs lst lai dS dZ dD F N
      exact outTurn _ (by assumption) (by assumption) (by assumption) (by rw [Str.length_append, show (Str.ofString ")\\\"(").length = 4 from by decide +kernel]; omega) hcs (by omega) ⟨by omega, by omega, by omega⟩ ⟨by omega, by omega, by omega⟩ lst lai dS dZ dD F N
    · intro u h tk F
      k_steps
  · show ys.length + (List.drop ys.length [Value.bool false, Value.bool true, Value.bool false, Value.bool false]).length ≤ sizeLine
    rw [List.length_drop, sizeLine_eq]
    show ys.length + (4 - ys.length) ≤ _
    omega)
end Mine

theorem PySem.Challenge.cw_dm0092_02_holds : PySem.Challenge.rw_dm0092_02.Holds :=
  Mine.holds2
