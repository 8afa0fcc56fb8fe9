import PyProof.Rows.All
import Wide.All
import OpenK.AllK
import Wide.FinOn
import PySem.Challenge.RW_dm0092_01
open PySem PySem.W PyProof.Rows
set_option Elab.async false
set_option maxRecDepth 100000

namespace Mine

/-! Plain laws: a text as its list of numbers. -/
def subst (f : Nat → List Nat) (l : List Nat) : List Nat := l.flatMap f
def one (c : Nat) (z : List Nat) (k : Nat) : List Nat := if k = c then z else [k]

theorem flat_free (c : Nat) (z : List Nat) : ∀ l : List Nat, c ∉ l → l.flatMap (one c z) = l
  | [], _ => rfl
  | k :: r, h => by
    have h1 : ¬ k = c := fun e => h (e ▸ List.mem_cons_self ..)
    have h2 : c ∉ r := fun m => h (List.mem_cons_of_mem _ m)
    rw [List.flatMap_cons, flat_free c z r h2]
    simp [one, h1]
theorem flat_join (c : Nat) (z : Str) : ∀ parts : List Str, (∀ p ∈ parts, c ∉ p.cps.toList) →
    (Str.join ⟨#[c]⟩ parts).cps.toList.flatMap (one c z.cps.toList) = (Str.join z parts).cps.toList
  | [], _ => rfl
  | [p], h => flat_free c _ _ (h p (List.mem_singleton.mpr rfl))
  | p :: q :: r, h => by
    have ih := flat_join c z (q :: r) fun a ha => h a (List.mem_cons_of_mem _ ha)
    show (p ++ ⟨#[c]⟩ ++ Str.join ⟨#[c]⟩ (q :: r)).cps.toList.flatMap _ = (p ++ z ++ Str.join z (q :: r)).cps.toList
    simp only [Str.cps_append, Array.toList_append, List.flatMap_append]
    rw [ih, flat_free c _ _ (h p (List.mem_cons_self ..))]
    simp [one]
/-- what a replace of one sign gives -/
theorem replace_list (x z : Str) (c : Nat) : (Txt.replace x ⟨#[c]⟩ z).cps.toList = x.cps.toList.flatMap (one c z.cps.toList) := by
  rw [StrLaws.replace_one, ← flat_join c z _ (StrLaws.split_free x c), StrLaws.join_split]

theorem len_list (x : Str) : x.cps.toList.length = x.length := Array.length_toList
theorem str_ext {a b : Str} (h : a.cps.toList = b.cps.toList) : a = b := Str.ext' (Array.toList_inj.mp h)
theorem app_list (a b : Str) : (a ++ b).cps.toList = a.cps.toList ++ b.cps.toList := by rw [Str.cps_append, Array.toList_append]

theorem flat_le (f : Nat → List Nat) (m : Nat) (hf : ∀ k, (f k).length ≤ m) : ∀ l : List Nat, (l.flatMap f).length ≤ m * l.length
  | [] => by simp
  | k :: r => by
    have := flat_le f m hf r
    have h := hf k
    rw [List.flatMap_cons, List.length_append, List.length_cons, Nat.mul_succ]
    omega
theorem one_le (c : Nat) (z : List Nat) (m : Nat) (h1 : 1 ≤ m) (hz : z.length ≤ m) (k : Nat) : (one c z k).length ≤ m := by
  unfold one
  split
  · exact hz
  · exact h1
theorem replace_le (x z : Str) (c : Nat) (hz : z.length ≤ 2) : (Txt.replace x ⟨#[c]⟩ z).length ≤ 2 * x.length := by
  rw [← len_list, ← len_list, replace_list]
  exact flat_le _ 2 (one_le c _ 2 (by decide) (by rw [len_list]; exact hz)) _

/-- two one-sign replaces, one upon the other -/
theorem flat_flat (f g : Nat → List Nat) (l : List Nat) : (l.flatMap f).flatMap g = l.flatMap fun k => (f k).flatMap g := List.flatMap_assoc

abbrev bs : Str := Str.ofString "\\"
abbrev bs2 : Str := Str.ofString "\\\\"
abbrev qm : Str := Str.ofString "\""
abbrev bq : Str := Str.ofString "\\\""

def mqp (v : Str) : Str := Txt.replace (Txt.replace v (Str.ofString "\\") (Str.ofString "\\\\")) (Str.ofString "\"") (Str.ofString "\\\"")
def mqF (k : Nat) : List Nat := if k = 92 then [92, 92] else if k = 34 then [92, 34] else [k]
theorem e_bs : Str.ofString "\\" = ⟨#[92]⟩ := by decide +kernel
theorem e_qm : Str.ofString "\"" = ⟨#[34]⟩ := by decide +kernel
theorem e_bs2 : Str.ofString "\\\\" = ⟨#[92, 92]⟩ := by decide +kernel
theorem e_bq : Str.ofString "\\\"" = ⟨#[92, 34]⟩ := by decide +kernel
theorem mqp_list (v : Str) : (mqp v).cps.toList = v.cps.toList.flatMap mqF := by
  unfold mqp
  rw [e_bs, e_qm, e_bs2, e_bq, replace_list, replace_list, flat_flat]
  congr 1
  funext k
  unfold mqF one
  by_cases h : k = 92
  · subst h; decide
  · by_cases h2 : k = 34
    · subst h2; decide
    · simp [h, h2]
theorem rep1_le (v : Str) : (Txt.replace v (Str.ofString "\\") (Str.ofString "\\\\")).length ≤ 2 * v.length := by
  rw [e_bs]; exact replace_le _ _ _ (by decide +kernel)
theorem mqp_le (v : Str) : (mqp v).length ≤ 2 * v.length := by
  rw [← len_list, ← len_list, mqp_list]
  refine flat_le _ 2 (fun k => ?_) _
  unfold mqF
  split
  · decide
  · split
    · decide
    · exact Nat.le_succ 1
def quoteS (v : Str) : Str := Str.ofString "\"" ++ mqp v ++ Str.ofString "\""
theorem quoteS_le (v : Str) : (quoteS v).length ≤ 2 * v.length + 2 := by
  have h := mqp_le v
  unfold quoteS
  rw [Str.length_append, Str.length_append, e_qm]
  show 1 + _ + 1 ≤ _
  omega
theorem quoteS_list (v : Str) : (quoteS v).cps.toList = [34] ++ v.cps.toList.flatMap mqF ++ [34] := by
  unfold quoteS
  rw [app_list, app_list, mqp_list, e_qm]

/-! joins, products of texts -/
theorem cat_reps (c : Array Nat) : ∀ (n : Nat) (a : Array Nat), ((List.replicate n c).foldl (· ++ ·) a).toList = a.toList ++ (List.replicate n c.toList).flatten
  | 0, a => by simp
  | n + 1, a => by
    rw [List.replicate_succ, List.foldl_cons, cat_reps c n, List.replicate_succ, List.flatten_cons, Array.toList_append, List.append_assoc]
theorem mul_list (x : Str) (n : Int) : (Txt.mul x n).cps.toList = (List.replicate n.toNat x.cps.toList).flatten := by
  unfold Txt.mul
  split
  · have e : n.toNat = 0 := by omega
    rw [e]
    rfl
  · split
    · rename_i h
      rcases (Bool.or_eq_true _ _).mp h with h | h
      · have e : n = 1 := by simpa using h
        subst e
        simp
      · have e : x.cps.toList = [] := List.length_eq_zero_iff.mp (by rw [len_list]; simpa using h)
        rw [e]
        simp
    · show ((List.replicate n.toNat x.cps).foldl (· ++ ·) #[]).toList = _
      rw [cat_reps]
      simp
theorem flat_rep (c : Nat) : ∀ n : Nat, (List.replicate n [c]).flatten = List.replicate n c
  | 0 => rfl
  | n + 1 => by rw [List.replicate_succ, List.flatten_cons, flat_rep c n, List.replicate_succ]; rfl
theorem mul_bs (n : Int) : (Txt.mul (Str.ofString "\\") n).cps.toList = List.replicate n.toNat 92 := by
  rw [mul_list, e_bs]
  exact flat_rep 92 _
theorem join0_list : ∀ l : List Str, (Txt.join (Str.ofString "") l).cps.toList = (l.map fun a => a.cps.toList).flatten := by
  intro l
  show (Builtin.Str.glued (Str.ofString "") l).cps.toList = _
  rw [StrLaws.glued_eq_join]
  induction l with
  | nil => rfl
  | cons a r ih =>
    cases r with
    | nil => simp [Str.join]
    | cons b r =>
      show (a ++ Str.ofString "" ++ Str.join (Str.ofString "") (b :: r)).cps.toList = _
      rw [app_list, app_list, ih, show (Str.ofString "").cps.toList = [] from by decide +kernel, List.append_nil]
      rfl
theorem sum_le (m : Nat) : ∀ l : List Str, (∀ a ∈ l, a.length ≤ m) → (l.map (·.length)).sum ≤ l.length * m
  | [], _ => by simp
  | a :: r, h => by
    have h1 := sum_le m r fun b hb => h b (List.mem_cons_of_mem _ hb)
    have h2 := h a (List.mem_cons_self ..)
    rw [List.map_cons, List.sum_cons, List.length_cons, Nat.succ_mul]
    omega
/-- bounded texts fit into a join by the empty text -/
theorem join_fits {l : List Str} {m n : Nat} (h : ∀ a ∈ l, a.length ≤ m) (hn : l.length ≤ n) (hmn : n * m ≤ 16777216) : (l.map (·.length)).sum + l.length * (Str.ofString "").length ≤ 16777216 := by
  have h1 := sum_le m l h
  have h2 : l.length * m ≤ n * m := Nat.mul_le_mul_right _ hn
  have h3 : (Str.ofString "").length = 0 := by decide +kernel
  rw [h3]
  omega

/-! the guarded text -/
def gsL (n : Nat) (k : Nat) : List Nat := if k = 92 then List.replicate (2 ^ n) 92 else if k = 34 then List.replicate (2 ^ n - 1) 92 ++ [34] else [k]
def gsN (n : Int) (k : Nat) : Str := ⟨(gsL n.toNat k).toArray⟩
def guardS (v : Str) (n : Int) : Str := ⟨(v.cps.toList.flatMap (gsL n.toNat)).toArray⟩
theorem gsL_le {n : Nat} (h : n ≤ 4) (k : Nat) : (gsL n k).length ≤ 16 := by
  have hp : 2 ^ n ≤ 2 ^ 4 := Nat.pow_le_pow_right (by decide) h
  have hq : 2 ^ 4 = 16 := by decide
  have h0 : 0 < 2 ^ n := Nat.two_pow_pos n
  unfold gsL
  split
  · rw [List.length_replicate]; omega
  · split
    · rw [List.length_append, List.length_replicate, List.length_singleton]; omega
    · exact Nat.le_of_ble_eq_true rfl
theorem gsN_le {n : Int} (h : n ≤ 4) (k : Nat) : (gsN n k).length ≤ 16 := by
  show (gsL n.toNat k).toArray.size ≤ 16
  rw [List.size_toArray]
  exact gsL_le (by omega) k
theorem gsN_list (n : Int) (k : Nat) : (gsN n k).cps.toList = gsL n.toNat k := rfl
theorem guardS_list (v : Str) (n : Int) : (guardS v n).cps.toList = v.cps.toList.flatMap (gsL n.toNat) := rfl
theorem guard_join (v : Str) (n : Int) : Txt.join (Str.ofString "") (v.cps.toList.map (gsN n)) = guardS v n := by
  refine str_ext ?_
  rw [join0_list, guardS_list, List.map_map, List.flatMap_def]
  rfl
theorem guard_fits {v : Str} {n : Int} (hv : v.length ≤ 100000) (hn : n ≤ 4) : (((v.cps.toList.map (gsN n))).map (·.length)).sum + (v.cps.toList.map (gsN n)).length * (Str.ofString "").length ≤ 16777216 := by
  refine join_fits (m := 16) (n := 100000) ?_ ?_ (by decide)
  · intro a ha
    obtain ⟨k, _, rfl⟩ := List.mem_map.mp ha
    exact gsN_le hn k
  · rw [List.length_map, len_list]; exact hv
theorem sign_eq {k : Nat} {c : Nat} (h : ((⟨#[k]⟩ : Str) == ⟨#[c]⟩) = true) : k = c := by
  have := eq_of_beq h
  injection this with h
  injection h with h
  injection h
theorem sign_ne {k : Nat} {c : Nat} (h : ((⟨#[k]⟩ : Str) == ⟨#[c]⟩) = false) : k ≠ c := by
  intro e
  subst e
  exact absurd h (by simp)
theorem pow_toNat (n : Nat) : ((2 : Int) ^ n).toNat = 2 ^ n := by
  have : ((2 : Int) ^ n) = ((2 ^ n : Nat) : Int) := by push_cast; rfl
  rw [this]; rfl
theorem pow1_toNat (n : Nat) : ((2 : Int) ^ n - 1).toNat = 2 ^ n - 1 := by
  have e : ((2 : Int) ^ n) = ((2 ^ n : Nat) : Int) := by push_cast; rfl
  have h0 : 0 < 2 ^ n := Nat.two_pow_pos n
  rw [e]
  omega
theorem pow_bnd {n : Int} (h : n ≤ 4) : (2 : Int) ^ n.toNat ≤ 16 ∧ 1 ≤ (2 : Int) ^ n.toNat := by
  have e : ((2 : Int) ^ n.toNat) = ((2 ^ n.toNat : Nat) : Int) := by push_cast; rfl
  have hp : 2 ^ n.toNat ≤ 2 ^ 4 := Nat.pow_le_pow_right (by decide) (by omega)
  have hq : 2 ^ 4 = 16 := by decide
  have h0 : 0 < 2 ^ n.toNat := Nat.two_pow_pos _
  rw [e]
  omega
theorem gs_bs {n : Int} {k : Nat} (h : ((⟨#[k]⟩ : Str) == Str.ofString "\\") = true) : Txt.mul (Str.ofString "\\") (2 ^ n.toNat) = gsN n k := by
  rw [e_bs] at h
  have := sign_eq h
  subst this
  refine str_ext ?_
  rw [mul_bs, pow_toNat]
  rfl
theorem gs_qm {n : Int} {k : Nat} (h : ((⟨#[k]⟩ : Str) == Str.ofString "\"") = true) : Txt.mul (Str.ofString "\\") (2 ^ n.toNat - 1) ++ ⟨#[k]⟩ = gsN n k := by
  rw [e_qm] at h
  have := sign_eq h
  subst this
  refine str_ext ?_
  rw [app_list, mul_bs, pow1_toNat]
  rfl
theorem gs_no {n : Int} {k : Nat} (h : ((⟨#[k]⟩ : Str) == Str.ofString "\\") = false) (h2 : ((⟨#[k]⟩ : Str) == Str.ofString "\"") = false) : (⟨#[k]⟩ : Str) = gsN n k := by
  rw [e_bs] at h
  rw [e_qm] at h2
  have h := sign_ne h
  have h2 := sign_ne h2
  refine str_ext ?_
  rw [gsN_list]
  unfold gsL
  rw [if_neg h, if_neg h2]
theorem mul_bs_len (n : Int) : (Txt.mul (Str.ofString "\\") n).length = n.toNat := by
  rw [← len_list, mul_bs, List.length_replicate]
end Mine

namespace Mine
/-- the end of a turn that has put one more text upon the list -/
def BuildEnd (h₀ : Heap) (L : Addr) (l : Addr) (rest : List (Addr × Obj)) (m₀ : Str → Option Value) (x : Str) (vs : List Value) (y : Str) (s : Shared) (f : Flow) (s₂ : Shared) : Prop :=
  f = .next ∧ ∃ h' tk m' t j, s₂ = { s with heap := h', toks := tk } ∧ Fr h₀ L h' m' ∧ News h₀ L h' ((l, W.listOf (vs ++ [Value.str y t]).toArray j) :: rest) ∧ ∀ z, z ≠ x → m' z = m₀ z
theorem BuildEnd.intro {h₀ : Heap} {L : Addr} {l : Addr} {rest : List (Addr × Obj)} {m₀ : Str → Option Value} {x : Str} {vs : List Value} {y y' : Str} {s : Shared} {h' : Heap} {tk : Nat} {v : Value} {t : Tok} {j : Nat}
    (F : Fr h₀ L h' (fun z => if z = x then some v else m₀ z)) (N : News h₀ L h' ((l, W.listOf (vs.toArray.push (.str y' t)) j) :: rest)) (e : y' = y) :
    BuildEnd h₀ L l rest m₀ x vs y s .next { s with heap := h', toks := tk } := by
  subst e
  rw [List.push_toArray] at N
  exact ⟨rfl, h', tk, _, t, j, rfl, F, N, fun z hz => by simp [hz]⟩

theorem strs_snoc {y : Str} {t : Tok} : ∀ {vs : List Value} {ys : List Str}, StrsAre vs ys → StrsAre (vs ++ [Value.str y t]) (ys ++ [y])
  | _, _, .nil => .cons y t .nil
  | _, _, .cons z u r => .cons z u (strs_snoc r)
theorem strs_len : ∀ {vs : List Value} {ys : List Str}, StrsAre vs ys → vs.length = ys.length
  | _, _, .nil => rfl
  | _, _, .cons _ _ r => by simp [strs_len r]

section
variable {prog : Program} {w : World} {A : Around} {E : Value → Shared → Prop} {s : Shared} {env : Env} {h₀ : Heap} {x : Str} {body : List Stmt} {Q : Flow → Shared → Prop}
theorem loop_build {xt : Str} {tx : Tok} {m₀ : Str → Option Value} {l : Addr} {news : List (Addr × Obj)} (g : Nat → Str)
    (hh : A.handled = none) (F : Fr h₀ env.locals s.heap m₀) (N : News h₀ env.locals s.heap ((l, W.listOf #[] 0) :: news)) (hl : ∀ p ∈ news, p.1 < l)
    (turn : ∀ (vs : List Value) (j k : Nat) (t : Tok) (h : Heap) (tk : Nat) (own : List (Addr × Obj)), vs.length < xt.length → (∀ p ∈ news ++ own, p.1 ≠ l) →
      Fr h₀ env.locals h (fun y => if y = x then some (.str ⟨#[k]⟩ t) else m₀ y) → News h₀ env.locals h ((l, W.listOf vs.toArray j) :: (news ++ own)) →
      wpAny (model prog w) A (execs body env) (BuildEnd h₀ env.locals l (news ++ own) m₀ x vs (g k) { s with heap := h, toks := tk }) E { s with heap := h, toks := tk })
    (done : ∀ (vs : List Value) (j : Nat) (u : Str → Option Value) (h : Heap) (tk : Nat), StrsAre vs (xt.cps.toList.map g) → Fr h₀ env.locals h (fun y => if y = x then u y else m₀ y) →
      News h₀ env.locals h ((l, W.listOf vs.toArray j) :: news) → Q .next { s with heap := h, toks := tk }) :
    wpAny (model prog w) A (pyIter (.str xt tx)) (fun it s₂ => LoopAtV prog w A h₀ env x body Q E it s₂) E s := by
  have noneIn : ∀ (u m : Str → Option Value) (z : Str), (if ([] : List Str).contains z then u z else m z) = m z := by
    intro u m z
    simp
  refine KStt.kst_text (σ := List Value × Nat) (fun c => (l, W.listOf c.1.toArray c.2) :: news) (fun _ => []) (fun _ => True) []
    (fun pre c => StrsAre c.1 (pre.map fun k => g k.toNat)) ([], 0) hh F N trivial (fun p hp => nomatch hp) .nil ?_ ?_
  · rintro ⟨vs, j⟩ pre post k t u h tk own he ho _ hp F₁ N₁
    have lenv : vs.length < xt.length := by
      have h1 := strs_len hp
      have h2 := congrArg List.length he
      rw [KStt.codes_length, List.length_append, List.length_cons] at h2
      rw [List.length_map] at h1
      dsimp only at h1
      omega
    have F₂ : Fr h₀ env.locals h (fun y => if y = x then some (.str ⟨#[k]⟩ t) else m₀ y) := by
      have e : (fun y => if y = x then some (Value.str ⟨#[k]⟩ t) else kstB (fun z => if ([] : List Str).contains z then u z else m₀ z) [] y) = fun y => if y = x then some (Value.str ⟨#[k]⟩ t) else m₀ y := by
        funext y
        show (if y = x then _ else (if ([] : List Str).contains y then u y else m₀ y)) = _
        rw [noneIn]
      rw [← e]
      exact F₁
    have off : ∀ p ∈ news ++ own, p.1 ≠ l := by
      intro p hp
      rcases List.mem_append.mp hp with hp | hp
      · exact Nat.ne_of_lt (hl p hp)
      · exact ho p hp l (List.mem_cons_self ..)
    refine wpAny_mono (turn vs j k t h tk own lenv off F₂ (by simpa using N₁)) (fun f s₂ hq => ?_) fun _ _ e => e
    obtain ⟨rfl, h', tk', m', t', j', rfl, F', N', hm⟩ := hq
    refine InvEndN.intro (news' := (l, W.listOf (vs ++ [Value.str (g k) t']).toArray j') :: (news ++ own)) F' N' ⟨(vs ++ [Value.str (g k) t'], j'), rfl, trivial, (fun p hp => nomatch hp), ?_, ?_⟩ rfl ?_ ?_
    · intro z hz _ _
      exact hm z hz
    · dsimp only
      rw [List.map_append]
      exact strs_snoc hp
    · intro p hp
      rcases List.mem_cons.mp hp with rfl | hp
      · exact List.mem_cons_self ..
      · exact List.mem_cons_of_mem _ (List.mem_append.mpr (.inl hp))
    · intro p hp
      exact List.mem_cons_of_mem _ (List.mem_append.mpr (.inr hp))
  · rintro ⟨vs, j⟩ u h tk _ hp F₁ N₁
    refine done vs j u h tk ?_ ?_ N₁
    · have e : (KStt.codes xt).map (fun k => g k.toNat) = xt.cps.toList.map g := by
        unfold KStt.codes
        rw [List.map_map]
        rfl
      rw [← e]
      exact hp
    · have e : (fun y => if y = x then u y else kstB (fun z => if ([] : List Str).contains z then u z else m₀ z) [] y) = fun y => if y = x then u y else m₀ y := by
        funext y
        show (if y = x then _ else (if ([] : List Str).contains y then u y else m₀ y)) = _
        rw [noneIn]
      rw [← e]
      exact F₁

theorem append_led {l : Addr} {m : Str → Option Value} {rest : List (Addr × Obj)} {its : Array Value} {n : Nat} {v : Value} {L : Addr} {Q : Value → Shared → Prop} (F : Fr h₀ L s.heap m) (N : News h₀ L s.heap ((l, W.listOf its n) :: rest)) (ho : ∀ p ∈ rest, p.1 ≠ l)
    (hsz : its.size ≤ sizeLine) (h : ∀ h', Fr h₀ L h' m → News h₀ L h' ((l, W.listOf (its.push v) (n + 1)) :: rest) → Q .none { s with heap := h' }) : wpAny (model prog w) A (call (.builtin "list.append") [.ref l, v]) Q E s :=
  append_K F N (.head ho) h hsz
end

theorem gen_toks {α : Type} {M : Model} {A : Around} {t : Sem α} {Q : α → Shared → Prop} {E : Value → Shared → Prop} {hh : Heap} {gg dd n k oo}
    (hn : 1 ≤ k) (h : ∀ tk, 1 ≤ tk → wpAny M A t Q E (Shared.mk hh gg dd tk oo)) : wpAny M A t Q E (Shared.mk hh gg dd (n + k) oo) := h _ (Nat.le_trans hn (Nat.le_add_left _ _))
theorem replaceT {prog : Program} {w : World} {A : Around} {E : Value → Shared → Prop} {s : Shared} {x y z : Str} {t u v : Tok} {Q : Value → Shared → Prop}
    (hu : u ≠ 0) (hv : v ≠ 0) (huv : u ≠ v) (hyz : (y == z) = false) (hx : x.length ≤ 1048576) (hz : z.length ≤ 14)
    (hq : ∀ t' k, s.toks ≤ k → Q (.str (Txt.replace x y z) t') { s with toks := k }) : wpAny (model prog w) A (call (.builtin "str.replace") [.str x t, .str y u, .str z v]) Q E s :=
  wpAny_with_toks (Nat.le_refl _) (SC.replaceW hu hv huv hyz hx hz fun t' k h => hq t' k h)

/-- str of a list of plain data, the count of tokens kept above nought -/
theorem str_listT {prog : Program} {w : World} {A : Around} {E : Value → Shared → Prop} {s : Shared} {h₀ : Heap} {L D : Addr} {m : Str → Option Value} {news : List (Addr × Obj)} {vs : List Value} {ds : List PyData} {k : Nat} {Q : Value → Shared → Prop}
    (F : Fr h₀ L s.heap m) (N : News h₀ L s.heap news) (hm : (D, W.listOf vs.toArray k) ∈ news) (hc : CarriedAll vs ds) (hs : (PyData.list ds).showable = true) (hnd : (PyData.list ds).hasDict = false)
    (hg : A.guards = some []) (hu : A.units + ((PyData.list ds).depth + 3) < cLine) (ht : 1 ≤ s.toks) (hsz : (PyData.list ds).shown.length ≤ sizeLine)
    (hQ : ∀ h' u tk, 1 ≤ tk → Fr h₀ L h' m → News h₀ L h' news → Q (.str (PyData.list ds).shown u) { s with heap := h', toks := tk }) : wpAny (model prog w) A (call (.type "str") [.ref D]) Q E s :=
  wpAny_with_toks ht (str_of_reads (reads_newData (N.isList hm) hc) hs (PyData.noDict_hsm hnd) hg hu (fun _ _ e => e) (fun h' u tk hk hl => hQ h' u tk hl (F.keptAll hk) (N.grown hk)) hsz)

/-- what a def's call gives, whatever frame it is called from: r frames of room, a condition on the guards and the ledger, the value handed back -/
abbrev Ct (r : Nat) (prog : Program) (w : World) (K : Frag) (p : Program) (loose : List Str) (mean : ExcName → Option Value) (mg mb : Str → Option Value) (f : Addr) (vs : List Value) (Pre : Option (List Code) → List (Addr × Obj) → Prop) (R : Tok → Value) : Prop :=
  ∀ {dp un : Nat} {gd : Option (List Code)} {cn : Str} {cs : Scope} {a : Addr} {ccd : Value} {cl : List (Str × Addr)} {outer : List Env} {A₀ : Around} {base h₀ : Heap} {L : Addr} {m : Str → Option Value} {news : List (Addr × Obj)} {s : Shared} {Q E : Value → Shared → Prop},
    Below A₀ base outer h₀ → Fr h₀ L s.heap m → K.In h₀ → News h₀ L s.heap news → Top p loose mean mg mb h₀ → cs.kind = .function →
    Pre gd news → dp + r < recursionLimit → un + 8 * r < cLine →
    (∀ (t : Tok) (h' : Heap) (tk' : Nat), Fr h₀ L h' m → News h₀ L h' news → Q (R t) { s with heap := h', toks := tk' }) →
      wpAny (model prog w) (ktrTop dp un gd cn cs L a ccd cl outer) (call (.ref f) vs) Q E s

/-! a loop over a range whose turn turns one text -/
def iterS (f : Str → Str) : Nat → Str → Str
  | 0, x => x
  | n + 1, x => f (iterS f n x)
def IterEnd (h₀ : Heap) (L : Addr) (rest : List (Addr × Obj)) (m₀ : Str → Option Value) (x y : Str) (v : Str) (s : Shared) (f : Flow) (s₂ : Shared) : Prop :=
  f = .next ∧ ∃ h' tk m' t, s₂ = { s with heap := h', toks := tk } ∧ Fr h₀ L h' m' ∧ News h₀ L h' rest ∧ m' y = some (.str v t) ∧ ∀ z, z ≠ x → z ≠ y → m' z = m₀ z
theorem IterEnd.intro {h₀ : Heap} {L : Addr} {rest : List (Addr × Obj)} {m₀ m' : Str → Option Value} {x y v : Str} {s : Shared} {h' : Heap} {tk : Nat} {t : Tok}
    (F : Fr h₀ L h' m') (N : News h₀ L h' rest) (hy : m' y = some (.str v t)) (hz : ∀ z, z ≠ x → z ≠ y → m' z = m₀ z) :
    IterEnd h₀ L rest m₀ x y v s .next { s with heap := h', toks := tk } := ⟨rfl, h', tk, m', t, rfl, F, N, hy, hz⟩
section
variable {prog : Program} {w : World} {A : Around} {E : Value → Shared → Prop} {s : Shared} {env : Env} {h₀ : Heap} {x : Str} {body : List Stmt} {Q : Flow → Shared → Prop}
theorem loop_iter {r : Addr} {b₀ : Int} {t₀ u₀ v₀ : Tok} {n : Nat} {m₀ : Str → Option Value} {news : List (Addr × Obj)} {x₀ : Str} {tx : Tok} (y : Str) (f : Str → Str)
    (hh : A.handled = none) (hr : IsRange s.heap r 0 b₀ 1 t₀ u₀ v₀) (hsmall : Builtin.Range.small 0 b₀ 1 = true) (hn : Builtin.Range.rangeSize 0 b₀ 1 = (n : Int)) (F : Fr h₀ env.locals s.heap m₀) (N : News h₀ env.locals s.heap news)
    (hy : m₀ y = some (.str x₀ tx))
    (turn : ∀ (i : Nat) (k : Int) (t tv : Tok) (h : Heap) (tk : Nat) (own : List (Addr × Obj)), i < n → OwnOff own (news.map (·.1)) →
      Fr h₀ env.locals h (fun z => if z = x then some (.int k t) else if z = y then some (.str (iterS f i x₀) tv) else m₀ z) → News h₀ env.locals h (news ++ own) →
      wpAny (model prog w) A (execs body env) (IterEnd h₀ env.locals (news ++ own) m₀ x y (iterS f (i + 1) x₀) { s with heap := h, toks := tk }) E { s with heap := h, toks := tk })
    (done : ∀ (u : Str → Option Value) (tv : Tok) (h : Heap) (tk : Nat), Fr h₀ env.locals h (fun z => if z = x then u z else if z = y then some (.str (iterS f n x₀) tv) else m₀ z) →
      News h₀ env.locals h news → Q .next { s with heap := h, toks := tk }) :
    wpAny (model prog w) A (pyIter (.ref r)) (fun it s₂ => LoopAtV prog w A h₀ env x body Q E it s₂) E s := by
  have noneIn : ∀ (u m : Str → Option Value) (z : Str), (if ([] : List Str).contains z then u z else m z) = m z := by
    intro u m z
    simp
  refine kst_range (σ := Str × Tok) (fun _ => news) (fun c => [(y, .str c.1 c.2)]) (fun _ => True) [] (fun pre c => c.1 = iterS f pre.length x₀) (x₀, tx) hh hr hsmall hn F N trivial
    (fun p hp => by rw [List.mem_singleton.mp hp]; exact hy) rfl ?_ ?_
  · rintro ⟨v, tv⟩ pre k t u h tk own hk hpre ho _ hp F₁ N₁
    have hp : v = iterS f pre.length x₀ := hp
    subst hp
    have F₂ : Fr h₀ env.locals h (fun z => if z = x then some (.int k t) else if z = y then some (.str (iterS f pre.length x₀) tv) else m₀ z) := by
      have e : (fun z => if z = x then some (Value.int k t) else kstB (fun z => if ([] : List Str).contains z then u z else m₀ z) [(y, Value.str (iterS f pre.length x₀) tv)] z) = fun z => if z = x then some (Value.int k t) else if z = y then some (.str (iterS f pre.length x₀) tv) else m₀ z := by
        funext z
        show (if z = x then _ else if z = y then _ else (if ([] : List Str).contains z then u z else m₀ z)) = _
        rw [noneIn]
      rw [← e]
      exact F₁
    refine wpAny_mono (turn pre.length k t tv h tk own hpre ho F₂ N₁) (fun fl s₂ hq => ?_) fun _ _ e => e
    obtain ⟨rfl, h', tk', m', t', rfl, F', N', hy', hz⟩ := hq
    refine InvEndN.intro (news' := news ++ own) F' N' ⟨(iterS f (pre.length + 1) x₀, t'), rfl, trivial, ?_, ?_, ?_⟩ rfl ?_ ?_
    · intro p hp
      rw [List.mem_singleton.mp hp]
      exact hy'
    · intro z hz1 hz2 _
      exact hz z hz1 (hz2 _ (List.mem_singleton.mpr rfl))
    · show iterS f (pre.length + 1) x₀ = iterS f (pre ++ [k]).length x₀
      rw [List.length_append, List.length_singleton]
    · intro p hp
      exact List.mem_append.mpr (.inl hp)
    · intro p hp
      exact List.mem_append.mpr (.inr hp)
  · rintro ⟨v, tv⟩ u h tk _ hp F₁ N₁
    have hp : v = iterS f n x₀ := by
      have : v = iterS f (rangeKs 0 n).length x₀ := hp
      rwa [rangeKs_length] at this
    subst hp
    refine done u tv h tk ?_ N₁
    have e : (fun z => if z = x then u z else kstB (fun z => if ([] : List Str).contains z then u z else m₀ z) [(y, Value.str (iterS f n x₀) tv)] z) = fun z => if z = x then u z else if z = y then some (.str (iterS f n x₀) tv) else m₀ z := by
      funext z
      show (if z = x then _ else if z = y then _ else (if ([] : List Str).contains z then u z else m₀ z)) = _
      rw [noneIn]
    rw [← e]
    exact F₁
end

structure Stop (P : Prop) : Prop where
  out : P
theorem take_len {vs : List Value} {ns : List Int} (_ : IntsAre vs (List.take 63 ns)) : (List.take 63 ns).length ≤ 63 := List.length_take_le ..
section
variable {prog : Program} {w : World} {A : Around} {E : Value → Shared → Prop} {s : Shared}
theorem ne_same {x y : Str} {t u : Tok} {Q : Value → Shared → Prop} (e : x = y) (h : Q (.bool false) s) : wpAny (model prog w) A (compareOp .NotEq (.str x t) (.str y u)) Q E s := by
  subst e
  exact P.ne_str (by rw [bne_self_eq_false]; exact h)
theorem eq_same {x y : Str} {t u : Tok} {Q : Value → Shared → Prop} (e : x = y) (h : Q (.bool true) s) : wpAny (model prog w) A (compareOp .Eq (.str x t) (.str y u)) Q E s := by
  subst e
  exact P.eq_str (by rw [beq_self_eq_true]; exact h)
end
end Mine

namespace Mine
/-! the plain law of quote_string -/
def mkL (k : Nat) : List Nat := List.replicate (2 ^ k - 1) 92 ++ [34]
theorem mq_rep : ∀ n : Nat, (List.replicate n 92).flatMap mqF = List.replicate (2 * n) 92
  | 0 => rfl
  | n + 1 => by
    rw [List.replicate_succ, List.flatMap_cons, mq_rep n, show 2 * (n + 1) = 2 * n + 1 + 1 from by omega, List.replicate_succ, List.replicate_succ]
    rfl
theorem mq_34 : [34].flatMap mqF = [92, 34] := by decide
theorem mq_mk (k : Nat) : (mkL k).flatMap mqF = mkL (k + 1) := by
  have h0 : 0 < 2 ^ k := Nat.two_pow_pos k
  unfold mkL
  rw [List.flatMap_append, mq_rep, mq_34, show 2 ^ (k + 1) - 1 = 2 * (2 ^ k - 1) + 1 from by rw [Nat.pow_succ]; omega, List.replicate_succ', List.append_assoc]
  rfl
theorem mq_gs (n c : Nat) : (gsL n c).flatMap mqF = gsL (n + 1) c := by
  unfold gsL
  split
  · rw [mq_rep, Nat.pow_succ, Nat.mul_comm]
  · split
    · exact mq_mk n
    · rename_i h1 h2
      simp [mqF, h1, h2]
def marksL (n : Nat) : List (List Nat) := (List.range n).map mkL
theorem marks_succ (n : Nat) : marksL (n + 1) = [34] :: (marksL n).map fun l => l.flatMap mqF := by
  unfold marksL
  rw [List.range_succ_eq_map, List.map_cons, List.map_map, List.map_map]
  congr 1
  refine List.map_congr_left fun k _ => ?_
  exact (mq_mk k).symm
theorem flat_mq : ∀ l : List (List Nat), l.flatten.flatMap mqF = (l.map fun a => a.flatMap mqF).flatten
  | [] => rfl
  | a :: r => by rw [List.flatten_cons, List.flatMap_append, flat_mq r, List.map_cons, List.flatten_cons]
theorem told_list (x : Str) : ∀ n : Nat, (iterS quoteS n x).cps.toList = (marksL n).flatten ++ x.cps.toList.flatMap (gsL n) ++ (marksL n).reverse.flatten
  | 0 => by
    show x.cps.toList = [] ++ x.cps.toList.flatMap (gsL 0) ++ []
    rw [List.nil_append, List.append_nil]
    conv => lhs; rw [← List.flatMap_singleton' x.cps.toList]
    congr 1
    funext c
    unfold gsL
    split
    · rename_i h; subst h; rfl
    · split
      · rename_i h; subst h; rfl
      · rfl
  | n + 1 => by
    show (quoteS (iterS quoteS n x)).cps.toList = _
    rw [quoteS_list, told_list x n, List.flatMap_append, List.flatMap_append, flat_mq, flat_mq, flat_flat, marks_succ, List.flatten_cons, List.reverse_cons, List.flatten_append, List.map_reverse]
    have e : (fun k => (gsL n k).flatMap mqF) = gsL (n + 1) := funext fun c => mq_gs n c
    rw [e]
    simp [List.append_assoc]
def markS (k : Int) : Str := Txt.mul (Str.ofString "\\") (2 ^ k.toNat - 1) ++ Str.ofString "\""
theorem markS_list (k : Int) : (markS k).cps.toList = mkL k.toNat := by
  unfold markS
  rw [app_list, mul_bs, pow1_toNat, e_qm]
  rfl
theorem marks_eq (n : Nat) : ((rangeKs 0 n).map markS).map (fun a => a.cps.toList) = marksL n := by
  unfold rangeKs marksL
  rw [List.map_map, List.map_map]
  refine List.map_congr_left fun k _ => ?_
  show (markS (0 + (k : Int))).cps.toList = mkL k
  rw [markS_list]
  congr 1
  omega
/-- the text quoted n times over is the marks, the guarded text, the marks from behind -/
theorem told_law (x : Str) (T : Int) : iterS quoteS (T - 0).toNat x = Txt.join (Str.ofString "") ((rangeKs 0 (T - 0).toNat).map markS) ++ guardS x T ++ Txt.join (Str.ofString "") ((rangeKs 0 (T - 0).toNat).map markS).reverse := by
  refine str_ext ?_
  rw [told_list, app_list, app_list, join0_list, join0_list, guardS_list, List.map_reverse, marks_eq, Int.sub_zero]
theorem mark_le {k : Int} (h : k < 4) : (markS k).length ≤ 8 := by
  rw [← len_list, markS_list]
  unfold mkL
  have hp : 2 ^ k.toNat ≤ 2 ^ 3 := Nat.pow_le_pow_right (by decide) (by omega)
  have hq : 2 ^ 3 = 8 := by decide
  have h0 : 0 < 2 ^ k.toNat := Nat.two_pow_pos _
  rw [List.length_append, List.length_replicate, List.length_singleton]
  omega
theorem mulOk_pow1 {k : Int} (h : k < 4) : MulOk (Str.ofString "\\") (2 ^ k.toNat - 1) := by
  have hb := pow_bnd (n := k) (by omega)
  exact mulOk_of 1 20 (by decide) (by omega) (by omega) (by decide) (by decide)
theorem marks_len {n : Nat} (hn : n ≤ 4) : ∀ a ∈ (rangeKs 0 n).map markS, a.length ≤ 8 := by
  intro a ha
  obtain ⟨k, hk, rfl⟩ := List.mem_map.mp ha
  have := (mem_rangeKs hk).2
  exact mark_le (by omega)
theorem join_len {l : List Str} {m n : Nat} (h : ∀ a ∈ l, a.length ≤ m) (hn : l.length ≤ n) : (Txt.join (Str.ofString "") l).length ≤ n * m := by
  rw [← len_list, join0_list]
  have h1 : ∀ l : List Str, (l.map fun a => a.cps.toList).flatten.length = (l.map (·.length)).sum := by
    intro l
    induction l with
    | nil => rfl
    | cons a r ih => rw [List.map_cons, List.flatten_cons, List.length_append, ih, len_list]; rfl
  rw [h1]
  exact Nat.le_trans (sum_le m l h) (Nat.mul_le_mul_right _ hn)
section
variable {prog : Program} {w : World} {A : Around} {E : Value → Shared → Prop} {s : Shared}
theorem strs_rev {vs : List Value} {ys : List Str} (h : StrsAre vs ys) : StrsAre vs.reverse ys.reverse := by
  induction h with
  | nil => exact .nil
  | cons y t _ ih => rw [List.reverse_cons, List.reverse_cons]; exact strs_snoc ih
theorem join_some {D : Addr} {t : Tok} {vs : List Value} {ys : List Str} {m n : Nat} {Q : Value → Shared → Prop} (hl : s.heap.IsList D vs.toArray) (hc : StrsAre vs ys) (hm : ∀ a ∈ ys, a.length ≤ m) (hn : ys.length ≤ n) (hmn : n * m ≤ 16777216)
    (h : ∀ tx, tx = Txt.join (Str.ofString "") ys → tx.length ≤ n * m → ∀ t' k, Q (.str tx t') { s with toks := k }) : wpAny (model prog w) A (call (.builtin "str.join") [.str (Str.ofString "") t, .ref D]) Q E s :=
  join_list hl hc (join_fits hm hn hmn) (h _ rfl (join_len hm hn))
end
theorem guardS_le {v : Str} {n : Int} (h : n ≤ 4) : (guardS v n).length ≤ 16 * v.length := by
  rw [← len_list, ← len_list, guardS_list]
  exact flat_le _ 16 (gsL_le (by omega)) _
end Mine

namespace Mine
/-- the end of a turn that has put a datum upon one list and a text upon another -/
def TwoEnd (h₀ : Heap) (L lV lS : Addr) (R : List (Addr × Obj)) (m₀ : Str → Option Value) (x nm : Str) (vs us : List Value) (d : PyData) (y : Str) (s : Shared) (f : Flow) (s₂ : Shared) : Prop :=
  f = .next ∧ ∃ h' tk m' v t jV jS, s₂ = { s with heap := h', toks := tk } ∧ Fr h₀ L h' m' ∧ News h₀ L h' ((lV, W.listOf (vs ++ [v]).toArray jV) :: (lS, W.listOf (us ++ [Value.str y t]).toArray jS) :: R) ∧ Carried v d ∧
    ∀ z, z ≠ x → z ≠ nm → m' z = m₀ z
theorem TwoEnd.intro {h₀ : Heap} {L lV lS : Addr} {R all : List (Addr × Obj)} {m₀ m' : Str → Option Value} {x nm : Str} {vs us : List Value} {d : PyData} {y : Str} {s : Shared} {h' : Heap} {tk : Nat} {v : Value} {t : Tok} {jV jS : Nat}
    (F : Fr h₀ L h' m') (N : News h₀ L h' all) (hV : (lV, W.listOf (vs.toArray.push v) jV) ∈ all) (hS : (lS, W.listOf (us.toArray.push (Value.str y t)) jS) ∈ all) (hR : ∀ p ∈ R, p ∈ all) (hc : Carried v d) (hz : ∀ z, z ≠ x → z ≠ nm → m' z = m₀ z) :
    TwoEnd h₀ L lV lS R m₀ x nm vs us d y s .next { s with heap := h', toks := tk } := by
  rw [List.push_toArray] at hV hS
  refine ⟨rfl, h', tk, m', v, t, jV, jS, rfl, F, fun p hp => N p ?_, hc, hz⟩
  rcases List.mem_cons.mp hp with rfl | hp
  · exact hV
  · rcases List.mem_cons.mp hp with rfl | hp
    · exact hS
    · exact hR p hp
theorem carried_snoc {v : Value} {d : PyData} (h : Carried v d) : ∀ {vs : List Value} {ds : List PyData}, CarriedAll vs ds → CarriedAll (vs ++ [v]) (ds ++ [d])
  | _, _, c => CarriedAll.appendLM c (.cons h .nil)

section
variable {prog : Program} {w : World} {A : Around} {E : Value → Shared → Prop} {s : Shared} {env : Env} {h₀ : Heap} {x : Str} {body : List Stmt} {Q : Flow → Shared → Prop}
theorem loop_two {D lV lS : Addr} {ws : List Value} {ns : List Int} {nn : Nat} {m₀ : Str → Option Value} {rest : List (Addr × Obj)} (nm : Str) (dV : Int → PyData) (yS : Int → Str)
    (hh : A.handled = none) (hi : IntsAre ws ns) (F : Fr h₀ env.locals s.heap m₀) (N : News h₀ env.locals s.heap ((lV, W.listOf #[] 0) :: (lS, W.listOf #[] 0) :: (D, W.listOf ws.toArray nn) :: rest))
    (hoff : ∀ p ∈ (D, W.listOf ws.toArray nn) :: rest, p.1 ≠ lV ∧ p.1 ≠ lS)
    (turn : ∀ (vs us : List Value) (jV jS : Nat) (n : Int) (t : Tok) (u : Option Value) (h : Heap) (tk : Nat) (R : List (Addr × Obj)), n ∈ ns → vs.length < ns.length → us.length < ns.length → (∀ p ∈ R, p.1 ≠ lV ∧ p.1 ≠ lS) →
      Fr h₀ env.locals h (fun z => if z = x then some (.int n t) else if z = nm then u else m₀ z) → News h₀ env.locals h ((lV, W.listOf vs.toArray jV) :: (lS, W.listOf us.toArray jS) :: R) →
      wpAny (model prog w) A (execs body env) (TwoEnd h₀ env.locals lV lS R m₀ x nm vs us (dV n) (yS n) { s with heap := h, toks := tk }) E { s with heap := h, toks := tk })
    (done : ∀ (vs us : List Value) (jV jS : Nat) (u : Str → Option Value) (h : Heap) (tk : Nat), CarriedAll vs (ns.map dV) → StrsAre us (ns.map yS) → Fr h₀ env.locals h (fun z => if z = x then u z else if z = nm then u z else m₀ z) →
      News h₀ env.locals h ((lV, W.listOf vs.toArray jV) :: (lS, W.listOf us.toArray jS) :: (D, W.listOf ws.toArray nn) :: rest) → Q .next { s with heap := h, toks := tk }) :
    wpAny (model prog w) A (pyIter (.ref D)) (fun it s₂ => LoopAtV prog w A h₀ env x body Q E it s₂) E s := by
  have inOne : ∀ (u m : Str → Option Value) (z : Str), (if ([nm] : List Str).contains z then u z else m z) = if z = nm then u z else m z := by
    intro u m z
    by_cases hz : z = nm
    · subst hz; simp
    · simp [hz]
  refine kst_listL (σ := (List Value × Nat) × (List Value × Nat)) (fun c => (lV, W.listOf c.1.1.toArray c.1.2) :: (lS, W.listOf c.2.1.toArray c.2.2) :: (D, W.listOf ws.toArray nn) :: rest) (fun _ => []) (fun _ => True) [nm]
    (fun pre c => CarriedAll c.1.1 (pre.map dV) ∧ StrsAre c.2.1 (pre.map yS)) (([], 0), ([], 0)) hh (fun c => List.mem_cons_of_mem _ (List.mem_cons_of_mem _ (List.mem_cons_self ..))) hi F N trivial (fun p hp => nomatch hp) ⟨.nil, .nil⟩ ?_ ?_
  · rintro ⟨⟨vs, jV⟩, ⟨us, jS⟩⟩ pre post n t u h tk own he hn ho _ ⟨hp1, hp2⟩ F₁ N₁
    dsimp only at hp1 hp2
    have l1 : vs.length < ns.length := by
      have h1 := CarriedAll.length_eq hp1
      rw [List.length_map] at h1
      rw [he, List.length_append, List.length_cons]
      omega
    have l2 : us.length < ns.length := by
      have h1 := strs_len hp2
      rw [List.length_map] at h1
      rw [he, List.length_append, List.length_cons]
      omega
    have F₂ : Fr h₀ env.locals h (fun z => if z = x then some (.int n t) else if z = nm then u nm else m₀ z) := by
      have e : (fun z => if z = x then some (Value.int n t) else kstB (fun z => if ([nm] : List Str).contains z then u z else m₀ z) [] z) = fun z => if z = x then some (Value.int n t) else if z = nm then u nm else m₀ z := by
        funext z
        show (if z = x then _ else (if ([nm] : List Str).contains z then u z else m₀ z)) = _
        rw [inOne]
        by_cases hz : z = nm
        · subst hz; simp
        · simp [hz]
      rw [← e]
      exact F₁
    have off : ∀ p ∈ ((D, W.listOf ws.toArray nn) :: rest) ++ own, p.1 ≠ lV ∧ p.1 ≠ lS := by
      intro p hp
      rcases List.mem_append.mp hp with hp | hp
      · exact hoff p hp
      · exact ⟨ho p hp lV (List.mem_cons_self ..), ho p hp lS (List.mem_cons_of_mem _ (List.mem_cons_self ..))⟩
    refine wpAny_mono (turn vs us jV jS n t (u nm) h tk (((D, W.listOf ws.toArray nn) :: rest) ++ own) hn l1 l2 off F₂ N₁) (fun f s₂ hq => ?_) fun _ _ e => e
    obtain ⟨rfl, h', tk', m', v, t', jV', jS', rfl, F', N', hc, hm⟩ := hq
    refine InvEndN.intro F' N' ⟨((vs ++ [v], jV'), (us ++ [Value.str (yS n) t'], jS')), rfl, trivial, (fun p hp => nomatch hp), ?_, ?_, ?_⟩ rfl ?_ ?_
    · intro z hz _ hs
      exact hm z hz (fun e => by subst e; simp at hs)
    · dsimp only
      rw [List.map_append]
      exact carried_snoc hc hp1
    · dsimp only
      rw [List.map_append]
      exact strs_snoc hp2
    · intro p hp
      rcases List.mem_cons.mp hp with rfl | hp
      · exact List.mem_cons_self ..
      · rcases List.mem_cons.mp hp with rfl | hp
        · exact List.mem_cons_of_mem _ (List.mem_cons_self ..)
        · exact List.mem_cons_of_mem _ (List.mem_cons_of_mem _ (List.mem_append.mpr (.inl hp)))
    · intro p hp
      exact List.mem_cons_of_mem _ (List.mem_cons_of_mem _ (List.mem_append.mpr (.inr hp)))
  · rintro ⟨⟨vs, jV⟩, ⟨us, jS⟩⟩ u h tk _ ⟨hp1, hp2⟩ F₁ N₁
    refine done vs us jV jS u h tk hp1 hp2 ?_ N₁
    have e : (fun z => if z = x then u z else kstB (fun z => if ([nm] : List Str).contains z then u z else m₀ z) [] z) = fun z => if z = x then u z else if z = nm then u z else m₀ z := by
      funext z
      show (if z = x then _ else (if ([nm] : List Str).contains z then u z else m₀ z)) = _
      rw [inOne]
    rw [← e]
    exact F₁
theorem loop_two' {D lV lS lC : Addr} {oC : Obj} {ws : List Value} {ns : List Int} {nn : Nat} {m₀ : Str → Option Value} {all : List (Addr × Obj)} (nV nS nC nm : Str) (dV : Int → PyData) (yS : Int → Str)
    (hV : m₀ nV = some (.ref lV)) (hS : m₀ nS = some (.ref lS)) (hC : m₀ nC = some (.ref lC)) (hh : A.handled = none) (hi : IntsAre ws ns) (F : Fr h₀ env.locals s.heap m₀) (N : News h₀ env.locals s.heap all)
    (mV : (lV, W.listOf #[] 0) ∈ all) (mS : (lS, W.listOf #[] 0) ∈ all) (mD : (D, W.listOf ws.toArray nn) ∈ all) (mC : (lC, oC) ∈ all) (eD : @Ne Nat D lV ∧ @Ne Nat D lS) (eC : @Ne Nat lC lV ∧ @Ne Nat lC lS)
    (turn : ∀ (vs us : List Value) (jV jS : Nat) (n : Int) (t : Tok) (u : Option Value) (h : Heap) (tk : Nat) (R : List (Addr × Obj)), n ∈ ns → vs.length < ns.length → us.length < ns.length → (∀ p ∈ R, p.1 ≠ lV ∧ p.1 ≠ lS) →
      Fr h₀ env.locals h (fun z => if z = x then some (.int n t) else if z = nm then u else m₀ z) → News h₀ env.locals h ((lV, W.listOf vs.toArray jV) :: (lS, W.listOf us.toArray jS) :: R) →
      wpAny (model prog w) A (execs body env) (TwoEnd h₀ env.locals lV lS R m₀ x nm vs us (dV n) (yS n) { s with heap := h, toks := tk }) E { s with heap := h, toks := tk })
    (done : ∀ (vs us : List Value) (jV jS : Nat) (u : Str → Option Value) (h : Heap) (tk : Nat), CarriedAll vs (ns.map dV) → StrsAre us (ns.map yS) → Fr h₀ env.locals h (fun z => if z = x then u z else if z = nm then u z else m₀ z) →
      News h₀ env.locals h [(lV, W.listOf vs.toArray jV), (lS, W.listOf us.toArray jS), (lC, oC)] → Q .next { s with heap := h, toks := tk }) :
    wpAny (model prog w) A (pyIter (.ref D)) (fun it s₂ => LoopAtV prog w A h₀ env x body Q E it s₂) E s := by
  refine loop_two (nn := nn) (rest := [(lC, oC)]) nm dV yS hh hi F (fun p hp => N p ?_) ?_ turn fun vs us jV jS u h tk h1 h2 F' N' => done vs us jV jS u h tk h1 h2 F' fun p hp => N' p ?_
  · simp only [List.mem_cons, List.not_mem_nil, or_false] at hp
    rcases hp with rfl | rfl | rfl | rfl
    · exact mV
    · exact mS
    · exact mD
    · exact mC
  · intro p hp
    simp only [List.mem_cons, List.not_mem_nil, or_false] at hp
    rcases hp with rfl | rfl
    · exact eD
    · exact eC
  · simp only [List.mem_cons, List.not_mem_nil, or_false] at hp ⊢
    rcases hp with rfl | rfl | rfl
    · exact .inl rfl
    · exact .inr (.inl rfl)
    · exact .inr (.inr (.inr rfl))
/-- append, the list found anywhere in the ledger -/
theorem append_any {l : Addr} {m : Str → Option Value} {news rest : List (Addr × Obj)} {its : Array Value} {n : Nat} {v : Value} {L : Addr} {Q : Value → Shared → Prop} (F : Fr h₀ L s.heap m) (N : News h₀ L s.heap news)
    (hm : (l, W.listOf its n) ∈ news) (hs : ∀ p ∈ rest, p ∈ news) (ho : ∀ p ∈ rest, p.1 ≠ l)
    (hsz : its.size ≤ sizeLine) (h : ∀ h', Fr h₀ L h' m → News h₀ L h' ((l, W.listOf (its.push v) (n + 1)) :: rest) → Q .none { s with heap := h' }) : wpAny (model prog w) A (call (.builtin "list.append") [.ref l, v]) Q E s :=
  append_led F (fun p hp => by rcases List.mem_cons.mp hp with rfl | hp; exact N _ hm; exact N p (hs p hp)) ho hsz h
theorem item_at {value slice : PySem.Expr} {l : Addr} {vs : List Value} {k : Int} {u : Tok} {v : Value} {Q : Value → Shared → Prop} (hl : s.heap.IsList l vs.toArray) (h0 : 0 ≤ k) (hhi : k < 2 ^ 63) (hx : vs[k.toNat]? = some v) (h : Q v s)
    (hs : subscripted slice false (.ref l) (.int k u) = operate [.ref l, .int k u] (getItem (.ref l) (.int k u)) := by with_unfolding_all rfl) :
    wpAny (model prog w) A (subscriptTail value slice (.ref l) (.int k u)) Q E s :=
  tail_any hl.typeIs slot_list_getitem.lookup (wpAny_getItem_list hl h0 hhi (by simpa using hx) h) hs
end

def numS (x : Int) : Int := (x.fdiv 5).fmod 2001 - 1000
def dV (x : Int) : PyData := if x.fmod 5 = 0 then .str (Str.ofString "\"") else if x.fmod 5 = 1 then .str (Str.ofString "\\") else if x.fmod 5 = 2 then .str (Str.ofString "'") else if x.fmod 5 = 3 then .str (Str.ofString " a") else .int (numS x)
def yS (x : Int) : Str := if x.fmod 5 = 0 then Str.ofString "'\"'" else if x.fmod 5 = 1 then Str.ofString "'\\\\'" else if x.fmod 5 = 2 then Str.ofString "\"'\"" else if x.fmod 5 = 3 then Str.ofString "' a'" else Str.ofString (toString (numS x))
theorem mod5 (n : Int) : n.fmod 5 = 0 ∨ n.fmod 5 = 1 ∨ n.fmod 5 = 2 ∨ n.fmod 5 = 3 ∨ n.fmod 5 = 4 := by
  have h0 := fmod_lo n (n := 5) (by decide)
  have h1 := fmod_hi n (n := 5) (by decide)
  omega
theorem num_bnd (n : Int) : -1000 ≤ numS n ∧ numS n ≤ 1000 := by
  have h0 := fmod_lo (n.fdiv 5) (n := 2001) (by decide)
  have h1 := fmod_hi (n.fdiv 5) (n := 2001) (by decide)
  unfold numS
  omega
section
variable {prog : Program} {w : World} {A : Around} {E : Value → Shared → Prop} {s : Shared}
theorem item_dV {value slice : PySem.Expr} {l : Addr} {n : Int} {u t0 t1 t2 t3 t4 : Tok} {Q : Value → Shared → Prop}
    (hl : s.heap.IsList l [Value.str (Str.ofString "\"") t0, Value.str (Str.ofString "\\") t1, Value.str (Str.ofString "'") t2, Value.str (Str.ofString " a") t3, Value.int (numS n) t4].toArray) (h : ∀ v, Carried v (dV n) → Q v s)
    (hs : subscripted slice false (.ref l) (.int (n.fmod 5) u) = operate [.ref l, .int (n.fmod 5) u] (getItem (.ref l) (.int (n.fmod 5) u)) := by with_unfolding_all rfl) :
    wpAny (model prog w) A (subscriptTail value slice (.ref l) (.int (n.fmod 5) u)) Q E s := by
  unfold dV at h
  have hk := mod5 n
  generalize n.fmod 5 = k at *
  rcases hk with rfl | rfl | rfl | rfl | rfl
  · exact item_at hl (by decide) (by decide) rfl (h _ (.str _ _)) hs
  · exact item_at hl (by decide) (by decide) rfl (h _ (.str _ _)) hs
  · exact item_at hl (by decide) (by decide) rfl (h _ (.str _ _)) hs
  · exact item_at hl (by decide) (by decide) rfl (h _ (.str _ _)) hs
  · exact item_at hl (by decide) (by decide) rfl (h _ (.int _ _)) hs
theorem item_yS {value slice : PySem.Expr} {l : Addr} {n : Int} {u t0 t1 t2 t3 t4 : Tok} {Q : Value → Shared → Prop}
    (hl : s.heap.IsList l [Value.str (Str.ofString "'\"'") t0, Value.str (Str.ofString "'\\\\'") t1, Value.str (Str.ofString "\"'\"") t2, Value.str (Str.ofString "' a'") t3, Value.str (Str.ofString (toString (numS n))) t4].toArray) (h : ∀ t, Q (.str (yS n) t) s)
    (hs : subscripted slice false (.ref l) (.int (n.fmod 5) u) = operate [.ref l, .int (n.fmod 5) u] (getItem (.ref l) (.int (n.fmod 5) u)) := by with_unfolding_all rfl) :
    wpAny (model prog w) A (subscriptTail value slice (.ref l) (.int (n.fmod 5) u)) Q E s := by
  unfold yS at h
  have hk := mod5 n
  generalize n.fmod 5 = k at *
  rcases hk with rfl | rfl | rfl | rfl | rfl
  · exact item_at hl (by decide) (by decide) rfl (h _) hs
  · exact item_at hl (by decide) (by decide) rfl (h _) hs
  · exact item_at hl (by decide) (by decide) rfl (h _) hs
  · exact item_at hl (by decide) (by decide) rfl (h _) hs
  · exact item_at hl (by decide) (by decide) rfl (h _) hs
end
end Mine

namespace Mine
theorem shown_dV (n : Int) : (dV n).shown = yS n := by
  unfold dV yS
  have hk := mod5 n
  generalize n.fmod 5 = k at *
  rcases hk with rfl | rfl | rfl | rfl | rfl
  · show (PyData.str (Str.ofString "\"")).shown = Str.ofString "'\"'"
    decide +kernel
  · show (PyData.str (Str.ofString "\\")).shown = Str.ofString "'\\\\'"
    decide +kernel
  · show (PyData.str (Str.ofString "'")).shown = Str.ofString "\"'\""
    decide +kernel
  · show (PyData.str (Str.ofString " a")).shown = Str.ofString "' a'"
    decide +kernel
  · rfl
theorem shownAll_dV : ∀ ns : List Int, PyData.shownAll (ns.map dV) = ns.map yS
  | [] => rfl
  | n :: r => by
    show (dV n).shown :: PyData.shownAll (r.map dV) = _
    rw [shown_dV, shownAll_dV r]
    rfl
theorem shows_dV (n : Int) : (dV n).showable = true := by
  unfold dV
  split
  · rfl
  · split
    · rfl
    · split
      · rfl
      · split
        · rfl
        · have h := num_bnd n
          show decide _ = true
          exact decide_eq_true (shown (N := 2 ^ 1920) (by omega) (by omega) (Int.le_refl _))
theorem showsAll_dV : ∀ ns : List Int, PyData.showableAll (ns.map dV) = true
  | [] => rfl
  | n :: r => by
    show ((dV n).showable && PyData.showableAll (r.map dV)) = true
    rw [shows_dV, showsAll_dV r]
    rfl
theorem flat_dV (n : Int) : (dV n).hasDict = false ∧ (dV n).depth = 0 := by
  unfold dV
  have hk := mod5 n
  generalize n.fmod 5 = k at *
  rcases hk with rfl | rfl | rfl | rfl | rfl <;> exact ⟨rfl, rfl⟩
theorem flatAll_dV : ∀ ns : List Int, PyData.hasDictAll (ns.map dV) = false ∧ PyData.depthAll (ns.map dV) = 0
  | [] => ⟨rfl, rfl⟩
  | n :: r => by
    have h1 := flat_dV n
    have h2 := flatAll_dV r
    constructor
    · show ((dV n).hasDict || PyData.hasDictAll (r.map dV)) = false
      rw [h1.1, h2.1]
      rfl
    · show max (dV n).depth (PyData.depthAll (r.map dV)) = 0
      rw [h1.2, h2.2]
      rfl
theorem yS_le (n : Int) : (yS n).length ≤ 8 := by
  have hb := num_bnd n
  unfold yS
  have hk := mod5 n
  generalize n.fmod 5 = k at *
  rcases hk with rfl | rfl | rfl | rfl | rfl
  · show (Str.ofString "'\"'").length ≤ 8
    decide +kernel
  · show (Str.ofString "'\\\\'").length ≤ 8
    decide +kernel
  · show (Str.ofString "\"'\"").length ≤ 8
    decide +kernel
  · show (Str.ofString "' a'").length ≤ 8
    decide +kernel
  · show (Str.ofString (toString (numS n))).length ≤ 8
    rw [PySem.ofString_length]
    exact Nat.le_trans (int_text_length_le10 (a := numS n) (k := 4) (by decide) (by omega)) (by decide)
/-- the text that shows the list -/
theorem shown_list (ns : List Int) : (PyData.list (ns.map dV)).shown = Str.ofString "[" ++ Str.join (Str.ofString ", ") (ns.map yS) ++ Str.ofString "]" := by
  show listText (PyData.shownAll (ns.map dV)) = _
  rw [shownAll_dV, listText_eq_join]
theorem join_eq (sep : Str) (l : List Str) : Txt.join sep l = Str.join sep l := by
  show Builtin.Str.glued sep l = _
  rw [StrLaws.glued_eq_join]
theorem sep_sum {ns : List Int} (h : ns.length ≤ 65) : ((ns.map yS).map (·.length)).sum + (ns.map yS).length * (Str.ofString ", ").length ≤ 650 := by
  have h1 := sum_le 8 (ns.map yS) fun a ha => by obtain ⟨k, _, rfl⟩ := List.mem_map.mp ha; exact yS_le k
  have h2 : (Str.ofString ", ").length = 2 := by decide +kernel
  rw [List.length_map] at h1
  rw [h2, List.length_map]
  omega
theorem sep_len (sep : Str) : ∀ l : List Str, (Str.join sep l).length ≤ (l.map (·.length)).sum + l.length * sep.length
  | [] => Nat.zero_le _
  | [a] => by show a.length ≤ (a.length + 0) + 1 * sep.length; omega
  | a :: b :: r => by
    have ih := sep_len sep (b :: r)
    show (a ++ sep ++ Str.join sep (b :: r)).length ≤ _
    rw [Str.length_append, Str.length_append, List.map_cons, List.sum_cons, List.length_cons, Nat.succ_mul]
    omega
theorem listPre {vs : List Value} {ns : List Int} (hc : CarriedAll vs (ns.map dV)) (h : ns.length ≤ 65) :
    CarriedAll vs (ns.map dV) ∧ (PyData.list (ns.map dV)).showable = true ∧ (PyData.list (ns.map dV)).hasDict = false ∧ (PyData.list (ns.map dV)).depth ≤ 2 ∧ (PyData.list (ns.map dV)).shown.length ≤ 400000 := by
  refine ⟨hc, showsAll_dV ns, (flatAll_dV ns).1, ?_, ?_⟩
  · show PyData.depthAll (ns.map dV) + 1 ≤ 2
    rw [(flatAll_dV ns).2]
    decide
  · rw [shown_list, Str.length_append, Str.length_append]
    have h1 := sep_len (Str.ofString ", ") (ns.map yS)
    have h2 := sep_sum h
    have h3 : (Str.ofString "[").length = 1 := by decide +kernel
    have h4 : (Str.ofString "]").length = 1 := by decide +kernel
    rw [h3, h4]
    omega
theorem mq_is_gs : mqF = gsL 1 := by
  funext k
  unfold mqF gsL
  rfl
theorem mqp_guard (x : Str) : mqp x = guardS x 1 := by
  refine str_ext ?_
  rw [mqp_list, guardS_list, mq_is_gs]
  rfl
/-- the list quoted -/
theorem list_law (ns : List Int) : quoteS (PyData.list (ns.map dV)).shown = Str.ofString "\"" ++ guardS (Str.ofString "[" ++ Txt.join (Str.ofString ", ") (ns.map yS) ++ Str.ofString "]") 1 ++ Str.ofString "\"" := by
  unfold quoteS
  rw [mqp_guard, shown_list, join_eq]
theorem num_free : ∀ n : Nat, n < 64 → (Str.ofString (toString (n : Int))).cps.toList.flatMap mqF = (Str.ofString (toString (n : Int))).cps.toList := by
  decide +kernel
/-- a number quoted -/
theorem num_law {n : Nat} (h : n < 64) : quoteS (Str.ofString (toString (n : Int))) = Str.ofString "\"" ++ Str.ofString (toString (n : Int)) ++ Str.ofString "\"" := by
  have e : mqp (Str.ofString (toString (n : Int))) = Str.ofString (toString (n : Int)) := str_ext (by rw [mqp_list, num_free n h])
  unfold quoteS
  rw [e]
section
variable {prog : Program} {w : World} {A : Around} {E : Value → Shared → Prop} {s : Shared}
theorem join_shown {D : Addr} {t : Tok} {us : List Value} {ns : List Int} {Q : Value → Shared → Prop} (hl : s.heap.IsList D us.toArray) (hc : StrsAre us (ns.map yS)) (h65 : ns.length ≤ 65)
    (h : ∀ jx, jx = Txt.join (Str.ofString ", ") (ns.map yS) → jx.length ≤ 650 → ∀ t' k, Q (.str jx t') { s with toks := k }) : wpAny (model prog w) A (call (.builtin "str.join") [.str (Str.ofString ", ") t, .ref D]) Q E s :=
  join_list hl hc (Nat.le_trans (sep_sum h65) (by decide)) (h _ rfl (by rw [join_eq]; exact Nat.le_trans (sep_len _ _) (sep_sum h65)))
end
theorem add2_len {l : List Int} (h : l.length ≤ 63) : (l ++ [0, 1]).length ≤ 65 := by
  rw [List.length_append]
  exact Nat.add_le_add_right h 2
theorem l_lb : (Str.ofString "[").length = 1 := by decide +kernel
theorem l_rb : (Str.ofString "]").length = 1 := by decide +kernel
theorem l_qm : (Str.ofString "\"").length = 1 := by decide +kernel
theorem num_len {l : List Int} (h : l.length ≤ 63) : (Str.ofString (toString (l.length : Int))).length ≤ 10 := KT.len_num (by omega) (by omega)
end Mine

namespace Mine
set_option maxRecDepth 100000 in
set_option maxHeartbeats 8000000 in
open_top hd for PySem.Challenge.rw_dm0092_01
end Mine

namespace Mine
abbrev C1 (r : Nat) (w : World) (mean : ExcName → Option Value) (mg mb : Str → Option Value) (f : Addr) (vs : List Value) (Pre : Option (List Code) → List (Addr × Obj) → Prop) (R : Tok → Value) : Prop :=
  Ct r Challenge.rw_dm0092_01.row.prog w (hd.heap_39 w.params) hd.view_39 (looseW hd.view_39 []) mean mg mb f vs Pre R

local macro_rules | `(tactic| walk_at "call builtin:str.replace") => `(tactic| (k_here; (show wpAny _ _ (call (Value.builtin "str.replace") [Value.str _ _, Value.str _ _, Value.str _ _]) _ _ _); (refine replaceT (by show @Ne Nat _ _; (try dsimp only); omega) (by show @Ne Nat _ _; (try dsimp only); omega) (by show @Ne Nat _ _; (try dsimp only); omega) (by decide) ?hx (by decide) ?_); (case hx => first | omega | (refine Nat.le_trans (rep1_le _) ?_; omega)); intro t9 k9 hk9; (try dsimp only at hk9)))

set_option maxHeartbeats 8000000 in
theorem mqpC (w : World) {mean : ExcName → Option Value} {mg mb : Str → Option Value} {v : Str} {t : Tok} :
    C1 1 w mean mg mb 21 [.str v t] (fun _ _ => v.length ≤ 400000) (fun t => .str (mqp v) t) := by
  w_on
  dsimp only [C1, Ct]
  k_fill
  intros; rename_i hret
  refine wpAny_call ?_
  k_dflt cell_enter
  refine gen_toks (Nat.le_refl 1) ?_
  intro tk htk
  k_steps
  exact hret _ _ _ (by assumption) (by assumption)

local macro_rules | `(tactic| walk_at "call ref") => `(tactic| (k_here; (show wpAny _ _ (call (Value.ref 21) [Value.str _ _]) _ _ _); (k_dflt (refine' mqpC _ ?k1 ?k2 ?k3 ?k4 ?k5 ?kK ?kp ?kd ?ku ?_)); (case k1 => k_asm); (case k2 => k_asm); (case k3 => k_asm); (case k4 => k_asm); (case k5 => k_asm); (case kK => first | exact rfl | assumption); (case kp => (dsimp only; omega)); (case kd => ktr_room); (case ku => ktr_units); intro t9 h9 tk9 F9 N9; (try dsimp only); (try k_fold)))

local macro_rules | `(tactic| walk_at "formatField str") => `(tactic| (k_here; (refine SB.field_str ?_ (by rw [sizeLine_eq]; omega)); intro t9 k9; (try dsimp only)))

local macro_rules | `(tactic| walk_at "le") => `(tactic| (k_here; (with_reducible show PySem.Str.length _ ≤ sizeLine); (simp only [Str.length_append, sizeLine_eq]); (rw [show Str.empty.length = 0 from rfl, show (Str.ofString "\"").length = 1 from by decide]); omega))

set_option maxHeartbeats 8000000 in
theorem quoteC (w : World) {mean : ExcName → Option Value} {mg mb : Str → Option Value} {v : Str} {t : Tok} :
    C1 2 w mean mg mb 28 [.str v t] (fun _ _ => v.length ≤ 400000) (fun t => .str (quoteS v) t) := by
  w_on
  dsimp only [C1, Ct]
  k_fill
  intros; rename_i hret
  have hl := mqp_le v
  refine wpAny_call ?_
  k_dflt cell_enter
  refine gen_toks (Nat.le_refl 1) ?_
  intro tk htk
  k_steps
  exact hret _ _ _ (by assumption) (by assumption)

/-! of a list, of a number -/
structure ListPre (D : Addr) (vs : List Value) (ds : List PyData) (gd : Option (List Code)) (news : List (Addr × Obj)) : Prop where
  guards : gd = some []
  held : ∃ k, (D, W.listOf vs.toArray k) ∈ news
  carried : CarriedAll vs ds
  shows : (PyData.list ds).showable = true
  noDict : (PyData.list ds).hasDict = false
  flat : (PyData.list ds).depth ≤ 2
  len : (PyData.list ds).shown.length ≤ 400000

local macro_rules | `(tactic| walk_at "call type:str") => `(tactic| (k_here; (show wpAny _ _ (call (Value.type "str") [Value.ref _]) _ _ _); (refine str_listT (by k_asm) (by k_asm) (by assumption) (by assumption) (by assumption) (by assumption) (by exact rfl) ?hu (by dsimp only; omega) (by rw [sizeLine_eq]; omega) ?_); (case hu => ktr_units); intro h9 t9 k9 hk9 F9 N9; (try dsimp only)))

set_option maxHeartbeats 8000000 in
theorem mqpCL (w : World) {mean : ExcName → Option Value} {mg mb : Str → Option Value} {D : Addr} {vs : List Value} {ds : List PyData} :
    C1 2 w mean mg mb 21 [.ref D] (ListPre D vs ds) (fun t => .str (mqp (PyData.list ds).shown) t) := by
  w_on
  dsimp only [C1, Ct]
  k_fill
  intros; rename_i hp _ _ hret
  obtain ⟨rfl, ⟨k, hm⟩, hc, hs, hnd, hfl, hlen⟩ := hp
  refine wpAny_call ?_
  k_dflt cell_enter
  refine gen_toks (Nat.le_refl 1) ?_
  intro tk htk
  k_steps
  exact hret _ _ _ (by assumption) (by assumption)

local macro_rules | `(tactic| walk_at "call ref") => `(tactic| (k_here; (show wpAny _ _ (call (Value.ref 21) [Value.ref _]) _ _ _); (k_dflt (refine' mqpCL _ ?k1 ?k2 ?k3 ?k4 ?k5 ?kK ?kp ?kd ?ku ?_)); (case k1 => k_asm); (case k2 => k_asm); (case k3 => k_asm); (case k4 => k_asm); (case k5 => k_asm); (case kK => first | exact rfl | assumption); (case kp => assumption); (case kd => ktr_room); (case ku => ktr_units); intro t9 h9 tk9 F9 N9; (try dsimp only); (try k_fold)))

set_option maxHeartbeats 8000000 in
theorem quoteCL (w : World) {mean : ExcName → Option Value} {mg mb : Str → Option Value} {D : Addr} {vs : List Value} {ds : List PyData} :
    C1 3 w mean mg mb 28 [.ref D] (ListPre D vs ds) (fun t => .str (quoteS (PyData.list ds).shown) t) := by
  w_on
  dsimp only [C1, Ct]
  k_fill
  intros; rename_i hp _ _ hret
  have hl := mqp_le (PyData.list ds).shown
  have hlen := hp.len
  have hg := hp.guards
  subst hg
  refine wpAny_call ?_
  k_dflt cell_enter
  refine gen_toks (Nat.le_refl 1) ?_
  intro tk htk
  k_steps
  exact hret _ _ _ (by assumption) (by assumption)

set_option maxHeartbeats 8000000 in
theorem mqpCI (w : World) {mean : ExcName → Option Value} {mg mb : Str → Option Value} {n : Int} {t : Tok} :
    C1 1 w mean mg mb 21 [.int n t] (fun _ _ => 0 ≤ n ∧ n < 1000) (fun t => .str (mqp (Str.ofString (toString n))) t) := by
  w_on
  dsimp only [C1, Ct]
  k_fill
  intros; rename_i hp _ _ hret
  obtain ⟨hn0, hn1⟩ := hp
  have hl := KT.len_num hn0 (by omega)
  refine wpAny_call ?_
  k_dflt cell_enter
  refine gen_toks (Nat.le_refl 1) ?_
  intro tk htk
  k_steps
  exact hret _ _ _ (by assumption) (by assumption)

local macro_rules | `(tactic| walk_at "call ref") => `(tactic| (k_here; (show wpAny _ _ (call (Value.ref 21) [Value.int _ _]) _ _ _); (k_dflt (refine' mqpCI _ ?k1 ?k2 ?k3 ?k4 ?k5 ?kK ?kp ?kd ?ku ?_)); (case k1 => k_asm); (case k2 => k_asm); (case k3 => k_asm); (case k4 => k_asm); (case k5 => k_asm); (case kK => first | exact rfl | assumption); (case kp => (constructor <;> assumption)); (case kd => ktr_room); (case ku => ktr_units); intro t9 h9 tk9 F9 N9; (try dsimp only); (try k_fold)))

set_option maxHeartbeats 8000000 in
theorem quoteCI (w : World) {mean : ExcName → Option Value} {mg mb : Str → Option Value} {n : Int} {t : Tok} :
    C1 2 w mean mg mb 28 [.int n t] (fun _ _ => 0 ≤ n ∧ n < 1000) (fun t => .str (quoteS (Str.ofString (toString n))) t) := by
  w_on
  dsimp only [C1, Ct]
  k_fill
  intros; rename_i hp _ _ hret
  obtain ⟨hn0, hn1⟩ := hp
  have hl := KT.len_num hn0 (by omega)
  have hl2 := mqp_le (Str.ofString (toString n))
  refine wpAny_call ?_
  k_dflt cell_enter
  refine gen_toks (Nat.le_refl 1) ?_
  intro tk htk
  k_steps
  exact hret _ _ _ (by assumption) (by assumption)
end Mine

namespace Mine
local macro_rules | `(tactic| walk_at "call builtin:list.append") => `(tactic| (k_here; (show wpAny _ _ (call (Value.builtin "list.append") [Value.ref _, _]) _ _ _); (refine append_led (by k_asm) (by k_asm) (by assumption) (by rw [sizeLine_eq, List.size_toArray]; omega) ?_); intro h9 F9 N9))
local macro_rules | `(tactic| walk_at "binaryOp Mult str int") => `(tactic| (k_here; (show wpAny _ _ (binaryOp _ (Value.str _ _) (Value.int _ _)) _ _ _); (refine SB.mul (mulOk_of 1 20 (by decide) (by omega) (by omega) (by decide) (by decide)) ?_); intro t9 k9))
local macro_rules | `(tactic| walk_at "binaryOp Add str str") => `(tactic| (k_here; (show wpAny _ _ (binaryOp _ (Value.str _ _) (Value.str _ _)) _ _ _); (refine add_str ?_ (by rw [sizeLine_eq, mul_bs_len]; show _ + 1 ≤ _; omega)); intro t9 k9))
local macro_rules | `(tactic| walk_at "BuildEnd") => `(tactic| ((refine BuildEnd.intro (by assumption) (by assumption) ?e); (case e => first | exact gs_bs (by assumption) | exact gs_qm (by assumption) | exact gs_no (by assumption) (by assumption))))
local macro_rules | `(tactic| walk_at "call builtin:str.join") => `(tactic| (k_here; (show wpAny _ _ (call (Value.builtin "str.join") [Value.str _ _, Value.ref _]) _ _ _); (refine join_list (News.isList (by k_asm) (by k_mem)) (by assumption) (guard_fits (by assumption) (by assumption)) ?_); intro t9 k9; (rw [guard_join])))

set_option maxHeartbeats 8000000 in
theorem guardC (w : World) {mean : ExcName → Option Value} {mg mb : Str → Option Value} {v : Str} {t : Tok} {n : Int} {u : Tok} :
    C1 1 w mean mg mb 42 [.str v t, .int n u] (fun _ _ => v.length ≤ 100000 ∧ 1 ≤ n ∧ n ≤ 4) (fun t => .str (guardS v n) t) := by
  w_on
  dsimp only [C1, Ct]
  k_fill
  intros; rename_i hpre _ _ hret
  obtain ⟨hv, hn1, hn4⟩ := hpre
  obtain ⟨hp1, hp2⟩ := pow_bnd hn4
  k_with "pyIter str" => (refine loop_build (gsN n) rfl (by k_asm) (by k_asm) (by assumption) ?_ ?_; all_goals intros)
  refine wpAny_call ?_
  k_dflt cell_enter
  refine gen_toks (by show 1 ≤ 2; decide) ?_
  intro tk htk
  k_steps
  exact hret _ _ _ (by assumption) (fun p hp => (by assumption : News _ _ _ (_ :: _)) p (List.mem_cons_of_mem _ hp))
end Mine

namespace Mine
def signS (x : Int) : Str := if x.fmod 7 = 6 then ⟨#[((x.fdiv 7).fmod 55296).toNat]⟩ else Txt.item (Str.ofString "\"\\ a(]") (x.fmod 7)

set_option maxHeartbeats 8000000 in
theorem signC (w : World) {mean : ExcName → Option Value} {mg mb : Str → Option Value} {x : Int} {t : Tok} :
    C1 1 w mean mg mb 35 [.int x t] (fun _ _ => True) (fun t => .str (signS x) t) := by
  w_on
  dsimp only [C1, Ct]
  k_fill
  intros; rename_i _ _ _ hret
  refine wpAny_call ?_
  k_dflt cell_enter
  refine gen_toks (Nat.le_refl 1) ?_
  intro tk htk
  k_steps
  · exact cb_retS hret (if_pos (by assumption)).symm (by assumption) (by assumption)
  · exact cb_retS hret (if_neg (by assumption)).symm (by assumption) (by assumption)
end Mine

namespace Mine
def textS (ns : List Int) : Str := Txt.join (Str.ofString "") (ns.map signS)
theorem sign_len (x : Int) : (signS x).length ≤ 1 := by
  unfold signS
  split
  · exact Nat.le_refl 1
  · have h0 := fmod_lo x (n := 7) (by decide)
    have h1 := fmod_hi x (n := 7) (by decide)
    generalize x.fmod 7 = k at *
    have : k = 0 ∨ k = 1 ∨ k = 2 ∨ k = 3 ∨ k = 4 ∨ k = 5 ∨ k = 6 := by omega
    rcases this with rfl | rfl | rfl | rfl | rfl | rfl | rfl <;> decide +kernel
theorem text_fits {ns : List Int} (h : ns.length ≤ 63) : ((ns.map signS).map (·.length)).sum + (ns.map signS).length * (Str.ofString "").length ≤ 16777216 :=
  join_fits (m := 1) (n := 63) (fun a ha => by obtain ⟨k, _, rfl⟩ := List.mem_map.mp ha; exact sign_len k) (by rw [List.length_map]; exact h) (by decide)
theorem len_flat_le (m : Nat) : ∀ l : List (List Nat), (∀ a ∈ l, a.length ≤ m) → l.flatten.length ≤ l.length * m
  | [], _ => by simp
  | a :: r, h => by
    have h1 := len_flat_le m r fun b hb => h b (List.mem_cons_of_mem _ hb)
    have h2 := h a (List.mem_cons_self ..)
    rw [List.flatten_cons, List.length_append, List.length_cons, Nat.succ_mul]
    omega
theorem text_le {ns : List Int} (h : ns.length ≤ 63) : (textS ns).length ≤ 63 := by
  unfold textS
  rw [← len_list, join0_list]
  refine Nat.le_trans (len_flat_le 1 _ ?_) ?_
  · intro a ha
    obtain ⟨b, hb, rfl⟩ := List.mem_map.mp ha
    obtain ⟨k, _, rfl⟩ := List.mem_map.mp hb
    rw [len_list]
    exact sign_len k
  · rw [List.length_map, List.length_map]
    omega
theorem told_le (x : Str) : ∀ n : Nat, (iterS quoteS n x).length + 2 ≤ 2 ^ n * (x.length + 2)
  | 0 => by show x.length + 2 ≤ 1 * (x.length + 2); omega
  | n + 1 => by
    have h1 := told_le x n
    have h2 := quoteS_le (iterS quoteS n x)
    show (quoteS (iterS quoteS n x)).length + 2 ≤ _
    rw [Nat.pow_succ, Nat.mul_right_comm]
    omega
theorem told_fits {x : Str} {n : Nat} (hx : x.length ≤ 63) (hn : n < 4) : (iterS quoteS n x).length ≤ 400000 := by
  have h := told_le x n
  have hp : 2 ^ n ≤ 2 ^ 4 := Nat.pow_le_pow_right (by decide) (by omega)
  have h2 : 2 ^ n * (x.length + 2) ≤ 2 ^ 4 * (63 + 2) := Nat.mul_le_mul hp (by omega)
  have h3 : 2 ^ 4 * (63 + 2) = 1040 := by decide
  omega


section
variable {prog : Program} {w : World} {A : Around} {E : Value → Shared → Prop} {s : Shared}
theorem join_text {D : Addr} {t : Tok} {ys : List Value} {ns : List Int} {Q : Value → Shared → Prop} (hl : s.heap.IsList D ys.toArray) (hc : CarriedAll ys (ns.map fun k => PyData.str (signS k))) (h63 : ns.length ≤ 63)
    (h : ∀ tx, tx = textS ns → tx.length ≤ 63 → ∀ t' k, Q (.str tx t') { s with toks := k }) : wpAny (model prog w) A (call (.builtin "str.join") [.str (Str.ofString "") t, .ref D]) Q E s :=
  join_list hl hc.strsOf (text_fits h63) (h _ rfl (text_le h63))
theorem sub_times {m : Int} {t u : Tok} {Q : Value → Shared → Prop} (h : ∀ T, T = 4 - m.fmod 4 → 1 ≤ T → T ≤ 4 → Q (.int T s.toks) { s with toks := s.toks + 1 }) : wpAny (model prog w) A (binaryOp .Sub (.int 4 t) (.int (m.fmod 4) u)) Q E s := by
  have h0 := fmod_lo m (n := 4) (by decide)
  have h1 := fmod_hi m (n := 4) (by decide)
  exact PyProof.Rows.sub_int (h _ rfl (by omega) (by omega))
end
local macro_rules | `(tactic| walk_at "CompSrc") => `(tactic| (k_here; refine Stop.out ?_))
local macro_rules | `(tactic| walk_at "call ref") => `(tactic| (k_here; refine Stop.out ?_))
local macro_rules | `(tactic| walk_at "call builtin:str.join") => `(tactic| (k_here; refine Stop.out ?_))
local macro_rules | `(tactic| walk_at "pyIter ref") => `(tactic| (k_here; refine Stop.out ?_))
local macro_rules | `(tactic| walk_at "compareOp NotEq str str") => `(tactic| (k_here; refine Stop.out ?_))
local macro_rules | `(tactic| walk_at "compareOp Eq str str") => `(tactic| (k_here; refine Stop.out ?_))
local macro_rules | `(tactic| walk_at "binaryOp Add str str") => `(tactic| (k_here; refine Stop.out ?_))
local macro_rules | `(tactic| walk_at "binaryOp Mult str int") => `(tactic| (k_here; refine Stop.out ?_))
local macro_rules | `(tactic| walk_at "subscriptTail Name Slice ref ref") => `(tactic| (k_here; (with_reducible show wpAny _ _ (subscriptTail _ (PySem.Expr.Slice none none (some _) _) (Value.ref _) (Value.ref _)) _ _ _); refine Stop.out ?_))
local macro_rules | `(tactic| walk_at "call builtin:list.append") => `(tactic| (k_here; refine Stop.out ?_))
local macro_rules | `(tactic| walk_at "subscriptTail") => `(tactic| (k_here; (show wpAny _ _ (subscriptTail _ _ (Value.ref _) (Value.int (Int.fmod _ 5) _)) _ _ _); refine Stop.out ?_))
local macro_rules | `(tactic| walk_at "exec For Name Call cons nil") => `(tactic| (k_here; (rename Fr _ _ _ _ => lF'); (with_unfolding_all refine' For_invVF lF' ?k1 ?k2 ?_; (case k1 => exact rfl); (case k2 => exact rfl); k_whole)))
local macro_rules | `(tactic| walk_at "exec For Name BinOp cons nil") => `(tactic| (k_here; (rename Fr _ _ _ _ => lF'); (with_unfolding_all refine' For_invVF lF' ?k1 ?k2 ?_; (case k1 => exact rfl); (case k2 => exact rfl); k_whole)))
local macro_rules | `(tactic| walk_at "binaryOp Sub int int") => `(tactic| (k_here; (show wpAny _ _ (binaryOp _ (Value.int 4 _) (Value.int (Int.fmod _ 4) _)) _ _ _); (refine sub_times ?_); intro T hT hT1 hT4))
local macro_rules | `(tactic| walk_at "KCtEl") => `(tactic| exact kct_el rfl (by with_unfolding_all rfl) (by with_unfolding_all rfl))

set_option maxHeartbeats 8000000 in
theorem holds1 : PySem.Challenge.rw_dm0092_01.Holds := hd (by
  w_strict (k_go0; (all_goals try k_fold); k_steps)
  -- text = ''.join([_law_sign(x) for x in script])
  refine Stop.mk ?_
  (with_reducible rename IntsAre _ (List.take 63 _) => hI)
  have h63 := take_len hI
  k_dflt (refine LCg.CompSrc.ledger (by rfl) (by k_asm) (by k_asm) (by k_mem) (by rw [List.size_toArray, IntsAre.length hI, sizeLine_eq]; omega) ?_)
  intro g'
  refine' kct_list signS hI (fun k' t' I' oI' C' oC' D' m' ys' h' tk' E' hk' hC' hx' F' N' off' ne' mk' => ?_) ?_
  · simp only [LCg.Off3, and_true] at off'
    k_fold
    k_steps
    refine Stop.mk ?_
    k_dflt (refine signC _ (by k_asm) (by k_asm) (by k_asm) (by k_asm) (by k_asm) (by exact rfl) trivial (by ktr_room) (by ktr_units) ?_)
    intro t9 h9 tk9 F9 N9
    k_steps
  k_steps
  refine Stop.mk ?_
  (with_reducible rename CarriedAll _ _ => hCar)
  refine join_text (News.isList (by k_asm) (by k_mem)) hCar h63 ?_
  intro tx htx htl t9 k9
  k_steps
  -- for step in range(times): told = quote_string(told)
  refine Stop.mk ?_
  (with_reducible rename (1 ≤ (_ : Int)) => hT1)
  (with_reducible rename ((_ : Int) ≤ 4) => hT4)
  (with_reducible rename (_ = 4 - Int.fmod _ 4) => hT)
  refine loop_iter (Str.ofString "told") quoteS rfl (by assumption) (small_one (by omega) (by omega) (by omega) (by omega)) (rangeSize_nat _ _) (by k_asm) (by k_asm) (by rfl) ?_ ?_
  · intro i k t tv h tk own hi ho F N
    k_fold
    k_steps
    refine Stop.mk ?_
    k_dflt (refine quoteC _ (by k_asm) (by k_asm) (by k_asm) (by k_asm) (by k_asm) (by exact rfl) (told_fits htl (by omega)) (by ktr_room) (by ktr_units) ?_)
    intro t9 h9 tk9 F9 N9
    k_steps
    exact IterEnd.intro (by assumption) (by assumption) rfl (fun z h1 h2 => by simp only [if_neg h1, if_neg h2])
  intro u tv h tk F N
  k_steps
  -- marks = [..]
  refine Stop.mk ?_
  k_dflt (refine LCg.CompSrc.range (by rfl) (by k_asm) (by k_asm) (by assumption) (small_one (by omega) (by omega) (by omega) (by omega)) (rangeSize_nat _ _) (by rw [sizeLine_eq]; omega) ?_)
  intro g'
  refine' kct_range markS (fun k' t' I' oI' C' oC' D' m' ys' h' tk' E' hlo' hhi' hC' hx' F' N' off' ne' mk' => ?_) ?_
  · simp only [LCg.Off3, and_true] at off'
    k_fold
    k_steps
    refine Stop.mk ?_
    refine SB.mul (mulOk_pow1 (by omega)) ?_
    intro t9 k9
    k_steps
    refine Stop.mk ?_
    refine add_str ?_ (by have h := mark_le (k := k') (by omega); unfold markS at h; rw [Str.length_append] at h; rw [sizeLine_eq]; omega)
    intro t9 k9
    k_steps
  k_steps
  refine Stop.mk ?_
  (with_reducible rename CarriedAll _ (List.map _ (rangeKs _ _)) => hMk)
  have hMs := CarriedAll.strsOf hMk
  refine join_some (m := 8) (n := 4) (News.isList (by k_asm) (by k_mem)) hMs (marks_len (by omega)) (by rw [List.length_map, rangeKs_length]; omega) (by decide) ?_
  intro mx hmx hml t9 k9
  k_steps
  refine Stop.mk ?_
  k_dflt (refine guardC _ (by k_asm) (by k_asm) (by k_asm) (by k_asm) (by k_asm) (by exact rfl) ⟨by omega, hT1, hT4⟩ (by ktr_room) (by ktr_units) ?_)
  intro t9 h9 tk9 F9 N9
  have hgl := guardS_le (v := tx) hT4
  k_steps
  refine Stop.mk ?_
  refine add_str ?_ (by rw [sizeLine_eq]; omega)
  intro t9 k9
  k_steps
  -- marks[::-1]
  refine Stop.mk ?_
  k_dflt (refine' krv_lit ?zzF ?zzN ?zzl ?zzk (rfl : _ = List.reverse _) ?_ ?zzs ?zzt ?zzz; (case zzF => k_asm); (case zzN => k_asm); (case zzl => kmk_list); (case zzk => exact IsPart.int _ _); (case zzs => with_unfolding_all rfl); (case zzt => kmk_pure); (case zzz => (rw [List.size_toArray, strs_len hMs, List.length_map, rangeKs_length, sizeLine_eq]; omega)))
  intro D' h' F' N' l1
  k_lt l1
  k_sweep
  k_steps
  refine Stop.mk ?_
  refine join_some (m := 8) (n := 4) (News.isList (by k_asm) (by k_mem)) (strs_rev hMs) (fun a ha => marks_len (by omega) a (List.mem_reverse.mp ha)) (by rw [List.length_reverse, List.length_map, rangeKs_length]; omega) (by decide) ?_
  intro rx hrx hrl t9 k9
  k_steps
  refine Stop.mk ?_
  refine add_str ?_ (by rw [sizeLine_eq, Str.length_append]; omega)
  intro t9 k9
  k_steps
  refine Stop.mk ?_
  refine ne_same (by rw [hmx, hrx]; exact told_law _ _) ?_
  k_steps
  -- the loop of the values
  refine Stop.mk ?_
  (with_reducible rename IntsAre _ (List.take 63 _ ++ [0, 1]) => hI2)
  refine' loop_two' (Str.ofString "values") (Str.ofString "shown") (Str.ofString "script") (Str.ofString "number") dV yS ?zzV ?zzS ?zzC rfl hI2 ?zzF ?zzN ?zmV ?zmS ?zmD ?zmC ?zeD ?zeC ?_ ?_
  case zzF => k_asm
  case zzN => k_asm
  case zzV => rfl
  case zzS => rfl
  case zzC => rfl
  case zmV => k_mem
  case zmS => k_mem
  case zmD => k_mem
  case zmC => k_mem
  case zeD => constructor <;> omega
  case zeC => constructor <;> omega
  · intro vs us jV jS n t u h tk R hn hvl hul hR F N
    k_fold
    k_steps
    refine Stop.mk ?_
    refine item_dV (n := n) (News.isList (by k_asm) (by k_mem)) ?_
    intro v hvc
    k_steps
    rw [List.length_append] at hvl hul
    simp only [List.length_cons, List.length_nil] at hvl hul
    refine Stop.mk ?_
    refine append_any (by k_asm) (by k_asm) (by k_mem) (fun p hp => List.mem_cons_of_mem _ (List.mem_cons_of_mem _ hp)) (List.forall_mem_cons.mpr ⟨by refine neN ?_; omega, fun p hp => (hR p hp).1⟩) (by rw [List.size_toArray, sizeLine_eq]; omega) ?_
    intro h9 F9 N9
    k_steps
    refine Stop.mk ?_
    refine item_yS (n := n) (News.isList (by k_asm) (by k_mem)) ?_
    intro t9
    k_steps
    refine Stop.mk ?_
    refine append_any (rest := (_, W.listOf (vs.toArray.push v) (jV + 1)) :: R) (by k_asm) (by k_asm) (by k_mem) (List.forall_mem_cons.mpr ⟨by k_mem, fun p hp => List.mem_cons_of_mem _ (List.mem_cons_of_mem _ (List.mem_cons_of_mem _ hp))⟩) (List.forall_mem_cons.mpr ⟨by refine neN ?_; dsimp only; omega, fun p hp => (hR p hp).2⟩) (by rw [List.size_toArray, sizeLine_eq]; omega) ?_
    intro h9 F9 N9
    k_steps
    exact TwoEnd.intro (by assumption) (by assumption) (by k_mem) (by k_mem) (fun p hp => List.mem_cons_of_mem _ (List.mem_cons_of_mem _ hp)) hvc (fun z h1 h2 => by simp only [if_neg h1, if_neg h2])
  intro vs us jV jS u2 h tk hcv hcs F N
  have h65 := add2_len h63
  k_steps
  refine Stop.mk ?_
  obtain ⟨p2, p3, p4, p5, p6⟩ := listPre hcv h65
  k_dflt (refine quoteCL _ (by k_asm) (by k_asm) (by k_asm) (by k_asm) (by k_asm) (by exact rfl) ⟨by exact rfl, ⟨_, by k_mem⟩, p2, p3, p4, p5, p6⟩ (by ktr_room) (by ktr_units) ?_)
  intro t9 h9 tk9 F9 N9
  k_steps
  refine Stop.mk ?_
  refine join_shown (News.isList (by k_asm) (by k_mem)) hcs h65 ?_
  intro jx hjx hjl t9 k9
  k_steps
  refine Stop.mk ?_
  refine add_str ?_ (by rw [sizeLine_eq, l_lb]; omega)
  intro t9 k9
  k_steps
  refine Stop.mk ?_
  refine add_str ?_ (by rw [sizeLine_eq, Str.length_append, l_lb, l_rb]; omega)
  intro t9 k9
  k_steps
  refine Stop.mk ?_
  have hbl : (Str.ofString "[" ++ jx ++ Str.ofString "]").length ≤ 652 := by rw [Str.length_append, Str.length_append, l_lb, l_rb]; omega
  k_dflt (refine guardC _ (by k_asm) (by k_asm) (by k_asm) (by k_asm) (by k_asm) (by exact rfl) ⟨by omega, by decide, by decide⟩ (by ktr_room) (by ktr_units) ?_)
  intro t9 h9 tk9 F9 N9
  have hg2 := guardS_le (v := Str.ofString "[" ++ jx ++ Str.ofString "]") (n := 1) (by decide)
  k_steps
  refine Stop.mk ?_
  refine add_str ?_ (by rw [sizeLine_eq, l_qm]; omega)
  intro t9 k9
  k_steps
  refine Stop.mk ?_
  refine add_str ?_ (by rw [sizeLine_eq, Str.length_append, l_qm]; omega)
  intro t9 k9
  k_steps
  refine Stop.mk ?_
  refine ne_same (by rw [hjx]; exact list_law _) ?_
  k_steps
  refine Stop.mk ?_
  k_dflt (refine quoteCI _ (by k_asm) (by k_asm) (by k_asm) (by k_asm) (by k_asm) (by exact rfl) ⟨by omega, by omega⟩ (by ktr_room) (by ktr_units) ?_)
  intro t9 h9 tk9 F9 N9
  k_steps
  have hnl := num_len h63
  refine Stop.mk ?_
  refine add_str ?_ (by rw [sizeLine_eq, l_qm]; omega)
  intro t9 k9
  k_steps
  refine Stop.mk ?_
  refine add_str ?_ (by rw [sizeLine_eq, Str.length_append, l_qm]; omega)
  intro t9 k9
  k_steps
  refine Stop.mk ?_
  refine eq_same (num_law (by omega)) ?_
  k_steps)
end Mine

theorem PySem.Challenge.cw_dm0092_01_holds : PySem.Challenge.rw_dm0092_01.Holds :=
  Mine.holds1
