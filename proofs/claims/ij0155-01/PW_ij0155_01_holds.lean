import PyProof.Rows.All
import Wide.All
import OpenK.AllK
import Wide.FinOn
import PySem.Challenge.RW_ij0155_01
set_option Elab.async false
set_option maxRecDepth 100000
set_option maxHeartbeats 8000000
set_option rowWalk.seconds 0
set_option linter.all false
namespace Mine
open PySem PySem.W PyProof.Rows PySem.Calls
open_top hd for PySem.Challenge.rw_ij0155_01
theorem fill0 : PySem.Challenge.rw_ij0155_01.Holds → hd.heap_39 = hd.heap_39 := by k_fill; intro _; rfl
local macro_rules | `(tactic| walk_at $s:str) => `(tactic| k_extra $s)
/-- what a call of the text's own def hands back, whoever calls -/
def Tells (lv : Nat) (w : World) (f : Addr) (vs : List Value) (need : List (Addr × Obj) → Prop) (Out : List (Addr × Obj) → Value → Prop) : Prop :=
  ∀ (p : Program) (loose : List Str) (mean : ExcName → Option Value) (mg mb : Str → Option Value) (dp un : Nat) (gd : Option (List Code)) (cn : Str) (cs : Scope) (a : Addr) (ccd : Value) (cl : List (Str × Addr)) (outer : List Env) (A₀ : Around) (base h₀ : Heap) (L : Addr) (m : Str → Option Value) (news : List (Addr × Obj)) (s : Shared) (Q E : Value → Shared → Prop),
    Below A₀ base outer h₀ → Fr h₀ L s.heap m → (hd.heap_39 w.params).In h₀ → News h₀ L s.heap news → Top p loose mean mg mb h₀ → cs.kind = .function → need news → dp + lv < recursionLimit → un + 10 * lv < cLine →
    (∀ r tl h' tk', Fr h₀ L h' m → News h₀ L h' (tl ++ news) → (∀ q ∈ news, ∀ p ∈ tl, q.1 < p.1) → Out tl r → Q r { s with heap := h', toks := tk' }) →
    wpAny (model PySem.Challenge.rw_ij0155_01.row.prog w) (ktrTop dp un gd cn cs L a ccd cl outer) (call (.ref f) vs) Q E s

/-- a call that leaves nothing and hands back the text r -/
abbrev TellsS (lv : Nat) (w : World) (f : Addr) (vs : List Value) (need : List (Addr × Obj) → Prop) (r : Str) : Prop :=
  Tells lv w f vs need (fun tl v => tl = [] ∧ ∃ t, v = .str r t)

theorem retS {h₀ h' : Heap} {L : Addr} {m : Str → Option Value} {news all : List (Addr × Obj)} {s : Shared} {Q : Value → Shared → Prop} {x y : Str} {t : Tok} {tk' : Nat}
    (hret : ∀ r tl h' tk', Fr h₀ L h' m → News h₀ L h' (tl ++ news) → (∀ q ∈ news, ∀ p ∈ tl, q.1 < p.1) → (tl = [] ∧ ∃ t, r = .str x t) → Q r { s with heap := h', toks := tk' })
    (F : Fr h₀ L h' m) (N : News h₀ L h' all) (hs : ∀ p ∈ news, p ∈ all) (e : y = x) : Q (.str y t) { s with heap := h', toks := tk' } := by
  subst e
  exact hret _ [] h' tk' F (fun p hp => N p (hs p hp)) (fun _ _ _ h => nomatch h) ⟨rfl, t, rfl⟩

theorem tells_use {lv : Nat} {w : World} {f : Addr} {vs : List Value} {need : List (Addr × Obj) → Prop} {Out : List (Addr × Obj) → Value → Prop} (C : Tells lv w f vs need Out)
    {p : Program} {loose : List Str} {mean : ExcName → Option Value} {mg mb : Str → Option Value} {dp un : Nat} {gd : Option (List Code)} {cn : Str} {cs : Scope} {a : Addr} {ccd : Value} {cl : List (Str × Addr)} {outer : List Env} {A₀ : Around} {base h₀ : Heap} {L : Addr} {m : Str → Option Value} {news : List (Addr × Obj)} {s : Shared} {Q E : Value → Shared → Prop}
    (B : Below A₀ base outer h₀) (F : Fr h₀ L s.heap m) (X : (hd.heap_39 w.params).In h₀) (N : News h₀ L s.heap news) (T : Top p loose mean mg mb h₀) (hk : cs.kind = .function) (hn : need news) (h1 : dp + lv < recursionLimit) (h2 : un + 10 * lv < cLine)
    (ret : ∀ r tl h' tk', Fr h₀ L h' m → News h₀ L h' (tl ++ news) → (∀ q ∈ news, ∀ p ∈ tl, q.1 < p.1) → Out tl r → Q r { s with heap := h', toks := tk' }) :
    wpAny (model PySem.Challenge.rw_ij0155_01.row.prog w) (ktrTop dp un gd cn cs L a ccd cl outer) (call (.ref f) vs) Q E s :=
  C p loose mean mg mb dp un gd cn cs a ccd cl outer A₀ base h₀ L m news s Q E B F X N T hk hn h1 h2 ret
theorem pos_add {a b : Nat} (h : 1 ≤ b) : 1 ≤ a + b := Nat.le_trans h (Nat.le_add_left b a)
theorem gentoks {α : Type} {M : Model} {A : Around} {t : Sem α} {Q : α → Shared → Prop} {E : Value → Shared → Prop} {h : Heap} {g : Array GenState} {d : Drawn} {X : Nat} {os : OsState} (n : Nat) (hX : n ≤ X)
    (H : ∀ tk, n ≤ tk → wpAny M A t Q E ⟨h, g, d, tk, os⟩) : wpAny M A t Q E ⟨h, g, d, X, os⟩ := H X hX
/-- a call that hands back one new object -/
abbrev TellsO (lv : Nat) (w : World) (f : Addr) (vs : List Value) (need : List (Addr × Obj) → Prop) (P : Obj → Prop) : Prop :=
  Tells lv w f vs need (fun tl v => ∃ D o, v = .ref D ∧ tl = [(D, o)] ∧ P o)

theorem retO {h₀ h' : Heap} {L : Addr} {m : Str → Option Value} {news all : List (Addr × Obj)} {s : Shared} {Q : Value → Shared → Prop} {D : Addr} {o : Obj} {P : Obj → Prop} {tk' : Nat}
    (hret : ∀ r tl h' tk', Fr h₀ L h' m → News h₀ L h' (tl ++ news) → (∀ q ∈ news, ∀ p ∈ tl, q.1 < p.1) → (∃ D o, r = .ref D ∧ tl = [(D, o)] ∧ P o) → Q r { s with heap := h', toks := tk' })
    (F : Fr h₀ L h' m) (N : News h₀ L h' all) (hm : (D, o) ∈ all) (hs : ∀ p ∈ news, p ∈ all) (hlt : ∀ q ∈ news, q.1 < D) (hP : P o) : Q (.ref D) { s with heap := h', toks := tk' } := by
  refine hret _ [(D, o)] h' tk' F (fun p hp => ?_) (fun q hq p hp => ?_) ⟨D, o, rfl, rfl, hP⟩
  · rcases List.mem_cons.mp hp with rfl | hp
    · exact N _ hm
    · exact N p (hs p hp)
  · rw [List.mem_singleton.mp hp]
    exact hlt q hq
theorem allLt_mem {d : Addr} {news : List (Addr × Obj)} (h : AllLt d news) : ∀ q ∈ news, q.1 < d := ktn_ltOf h

abbrev tick : Str := Str.ofString "'"
section
variable {prog : Program} {w : World} {A : Around} {E : Value → Shared → Prop} {s : Shared} {h₀ : Heap} {L : Addr} {m : Str → Option Value} {news : List (Addr × Obj)} {x y a b c : Str} {t u v : Tok} {Q : Value → Shared → Prop}
theorem split_le (hF : Fr h₀ L s.heap m) (hN : News h₀ L s.heap news) (hsp : (Txt.splitMax x tick 2).length ≤ 2) (hsz : x.length ≤ 1000000)
    (h : ∀ D vs h' k, vs.length ≤ 2 → Fr h₀ L h' m → News h₀ L h' ((D, listOf (List.toArray vs) 0) :: news) → (∀ p ∈ news, p.1 < D) → Q (.ref D) { s with heap := h', toks := k }) :
    wpAny (model prog w) A (call (.builtin "str.split") [.str x t, .str tick u, .int 2 v]) Q E s := by
  refine splitN2A hF hN (by decide +kernel) (by decide) (fun l h' tk hl _ _ _ hF' hN' => ?_) (by rw [sizeLine_eq]; omega)
  refine h _ (strValues l) h' tk ?_ hF' hN' (fun p hp => Heap.lt_size (hN p hp).1)
  have : (strValues l).length = (l.map (·.1)).length := by simp [strValues]
  rw [this, hl]
  exact hsp
theorem split_3 (hF : Fr h₀ L s.heap m) (hN : News h₀ L s.heap news) (hsp : Txt.splitMax x tick 2 = [a, b, c]) (hsz : x.length ≤ 1000000)
    (h : ∀ D t1 t2 t3 h' k, Fr h₀ L h' m → News h₀ L h' ((D, listOf #[.str a t1, .str b t2, .str c t3] 0) :: news) → (∀ p ∈ news, p.1 < D) → Q (.ref D) { s with heap := h', toks := k }) :
    wpAny (model prog w) A (call (.builtin "str.split") [.str x t, .str tick u, .int 2 v]) Q E s := by
  refine splitN2A hF hN (by decide +kernel) (by decide) (fun l h' tk hl _ _ _ hF' hN' => ?_) (by rw [sizeLine_eq]; omega)
  rw [hsp] at hl
  obtain ⟨t1, l1, rfl, e1⟩ := KSpl.cons_of hl
  obtain ⟨t2, l2, rfl, e2⟩ := KSpl.cons_of e1
  obtain ⟨t3, l3, rfl, e3⟩ := KSpl.cons_of e2
  have := KSpl.nil_of e3
  subst this
  exact h _ t1 t2 t3 h' tk hF' hN' (fun p hp => Heap.lt_size (hN p hp).1)
theorem len_le {l : Addr} {vs : List Value} (hN : News h₀ L s.heap news) (hm : (l, listOf (List.toArray vs) 0) ∈ news) (h2 : vs.length ≤ 2)
    (h : ∀ t' k, Q (.int vs.length t') { s with toks := k }) : wpAny (model prog w) A (call (.builtin "len") [.ref l]) Q E s := by
  refine len_list (News.isList hN hm) ?_ (h _ _)
  rw [List.size_toArray]
  omega
end


theorem all_ne_lt {L d : Addr} {news : List (Addr × Obj)} (h : ∀ p ∈ news, p.1 < L) (hd : L ≤ d) : ∀ p ∈ news, p.1 ≠ d := fun p hp e => by
  have := h p hp
  rw [e] at this
  exact absurd hd (Nat.not_le.mpr this)
local macro_rules | `(tactic| k_all) => `(tactic| exact all_ne_lt (by with_reducible assumption) (by first | exact Nat.le_succ _ | omega))
section
def S (l : List Nat) : Str := ⟨l.toArray⟩
theorem S_app (a b : List Nat) : S a ++ S b = S (a ++ b) := by
  apply Str.ext'
  rw [Str.cps_append]
  simp [S]
theorem S_len (a : List Nat) : (S a).length = a.length := by simp [S, Str.length]
theorem S_list (x : Str) : S x.cps.toList = x := by
  apply Str.ext'
  simp [S]
theorem S_inj {a b : List Nat} (h : S a = S b) : a = b := by
  have := congrArg (fun x : Str => x.cps.toList) h
  simpa [S] using this
theorem one_S (k : Nat) : (⟨#[k]⟩ : Str) = S [k] := rfl
theorem S_cps (a : List Nat) : (S a).cps.toList = a := by simp [S]
/-- the name of a mark -/
def nameOf (c : Nat) : List Nat := if c = 38 then [97,109,112,59] else if c = 60 then [108,116,59] else if c = 62 then [103,116,59] else if c = 39 then [97,112,111,115,59] else []
/-- what a sign comes to by n layers -/
def dp1 (n : Nat) (c : Nat) : List Nat := if n = 0 then [c] else if c = 38 ∨ c = 60 ∨ c = 62 ∨ c = 39 then [38] ++ (List.replicate (n-1) [97,109,112,59]).flatten ++ nameOf c else [c]
def dpAll (n : Nat) (l : List Nat) : List Nat := l.flatMap (dp1 n)

theorem dp1_len (n c : Nat) (hn : n ≤ 3) : (dp1 n c).length ≤ 14 := by
  unfold dp1 nameOf
  repeat' split
  all_goals simp
  all_goals omega

def DeepP (n : Nat) (pre : List Int) (told : Str) : Prop := told = S (dpAll n (pre.map Int.toNat)) ∧ told.length ≤ 14 * pre.length

theorem deep_nil (n : Nat) : DeepP n [] (Str.ofString "") := ⟨by rfl, by decide⟩
theorem deep_turn {n : Nat} {pre : List Int} {told y : Str} {k : Nat} (h : DeepP n pre told) (hn : n ≤ 3) (e : y = S (dp1 n k)) : DeepP n (pre ++ [(k : Int)]) (told ++ y) := by
  obtain ⟨h1, h2⟩ := h
  have e2 : y.length ≤ 14 := by rw [e, S_len]; exact dp1_len n k hn
  refine ⟨?_, ?_⟩
  · rw [h1, e, S_app]
    simp [dpAll, List.flatMap_append]
  · rw [Str.length_append, List.length_append]
    simp only [List.length_cons, List.length_nil]
    omega

def mulA (n : Nat) : Str := S ((List.replicate (n-1) [97,109,112,59]).flatten)
theorem mulA_len (n : Nat) (hn : n ≤ 3) : (mulA n).length ≤ 8 := by
  unfold mulA
  rw [S_len]
  simp
  omega
theorem lit_amp : Str.ofString "&" = S [38] := by decide +kernel
theorem lit_n38 : Str.ofString "amp;" = S [97,109,112,59] := by decide +kernel
theorem lit_n60 : Str.ofString "lt;" = S [108,116,59] := by decide +kernel
theorem lit_n62 : Str.ofString "gt;" = S [103,116,59] := by decide +kernel
theorem lit_n39 : Str.ofString "apos;" = S [97,112,111,115,59] := by decide +kernel
theorem eA38 {n : Nat} (h : 0 < (n : Int)) : Str.ofString "&" ++ mulA n ++ Str.ofString "amp;" = S (dp1 n 38) := by
  rw [lit_amp, lit_n38, mulA, S_app, S_app]
  congr 1
  have : n ≠ 0 := by omega
  simp [dp1, nameOf, this]
theorem eA60 {n : Nat} (h : 0 < (n : Int)) : Str.ofString "&" ++ mulA n ++ Str.ofString "lt;" = S (dp1 n 60) := by
  rw [lit_amp, lit_n60, mulA, S_app, S_app]
  congr 1
  have : n ≠ 0 := by omega
  simp [dp1, nameOf, this]
theorem eA62 {n : Nat} (h : 0 < (n : Int)) : Str.ofString "&" ++ mulA n ++ Str.ofString "gt;" = S (dp1 n 62) := by
  rw [lit_amp, lit_n62, mulA, S_app, S_app]
  congr 1
  have : n ≠ 0 := by omega
  simp [dp1, nameOf, this]
theorem eA39 {n : Nat} (h : 0 < (n : Int)) : Str.ofString "&" ++ mulA n ++ Str.ofString "apos;" = S (dp1 n 39) := by
  rw [lit_amp, lit_n39, mulA, S_app, S_app]
  congr 1
  have : n ≠ 0 := by omega
  simp [dp1, nameOf, this]
theorem eB {n : Nat} {k : Nat} (h : ¬ 0 < (n : Int)) : (⟨#[k]⟩ : Str) = S (dp1 n k) := by
  have : n = 0 := by omega
  subst this
  rfl
theorem eC {n : Nat} {k : Nat} (h : ¬ (k = 38 ∨ k = 60 ∨ k = 62 ∨ k = 39)) : (⟨#[k]⟩ : Str) = S (dp1 n k) := by
  unfold dp1
  rw [if_neg h]
  split <;> rfl

section
variable {t1 t2 t3 t4 t5 t6 t7 t8 : Tok}
theorem one_eq (k j : Nat) : ((⟨#[k]⟩ : Str) = ⟨#[j]⟩) ↔ k = j := by
  constructor
  · intro h
    have := congrArg (fun x : Str => x.cps.toList) h
    simpa using this
  · rintro rfl; rfl
theorem beq_one {x : Str} {j : Nat} (h : x = ⟨#[j]⟩) (k : Nat) : (x == (⟨#[k]⟩ : Str)) = decide (k = j) := by
  subst h
  by_cases e : k = j
  · subst e; simp
  · have : ¬ (⟨#[j]⟩ : Str) = ⟨#[k]⟩ := fun q => e ((one_eq j k).mp q).symm
    rw [decide_eq_false e]
    exact beq_false_of_ne this
theorem lookup_one {x : Str} {j : Nat} (h : x = ⟨#[j]⟩) (k : Nat) (b : PyData) (r : List (PyData × PyData)) :
    Spec.lookup (.str ⟨#[k]⟩) ((.str x, b) :: r) = if k = j then some b else Spec.lookup (.str ⟨#[k]⟩) r := by
  have e : Spec.same (.str x) (.str ⟨#[k]⟩) = decide (k = j) := beq_one h k
  unfold Spec.lookup
  by_cases q : k = j
  · rw [if_pos q, if_pos (by rw [e]; exact decide_eq_true q)]
  · rw [if_neg q, if_neg (by rw [e]; simp [q])]
    cases r <;> rfl
theorem lookup_nil (x : PyData) : Spec.lookup x [] = none := rfl
theorem strData_cons (x : Str) (t : Tok) (v : Value) (r : List (Value × Value)) : strData ((.str x t, v) :: r) = (.str x, (datumOf v).getD .none) :: strData r := rfl
theorem strData_nil : strData [] = [] := rfl
theorem mark4 (k : Nat) :
    (Spec.lookup (PyData.str ⟨#[k]⟩) (strData [(Value.str (Str.ofString "&") t1, Value.str (Str.ofString "amp;") t2), (Value.str (Str.ofString "<") t3, Value.str (Str.ofString "lt;") t4), (Value.str (Str.ofString ">") t5, Value.str (Str.ofString "gt;") t6), (Value.str (Str.ofString "'") t7, Value.str (Str.ofString "apos;") t8)])).isSome = true ↔
    (k = 38 ∨ k = 60 ∨ k = 62 ∨ k = 39) := by
  rw [strData_cons, strData_cons, strData_cons, strData_cons, strData_nil,
    lookup_one (show Str.ofString "&" = ⟨#[38]⟩ by decide +kernel), lookup_one (show Str.ofString "<" = ⟨#[60]⟩ by decide +kernel), lookup_one (show Str.ofString ">" = ⟨#[62]⟩ by decide +kernel), lookup_one (show Str.ofString "'" = ⟨#[39]⟩ by decide +kernel), lookup_nil]
  by_cases h1 : k = 38
  · simp [h1]
  · by_cases h2 : k = 60
    · simp [h2]
    · by_cases h3 : k = 62
      · simp [h3]
      · by_cases h4 : k = 39
        · simp [h4]
        · simp [h1, h2, h3, h4]
theorem not4 {k : Nat}
    (h : (Spec.lookup (PyData.str ⟨#[k]⟩) (strData [(Value.str (Str.ofString "&") t1, Value.str (Str.ofString "amp;") t2), (Value.str (Str.ofString "<") t3, Value.str (Str.ofString "lt;") t4), (Value.str (Str.ofString ">") t5, Value.str (Str.ofString "gt;") t6), (Value.str (Str.ofString "'") t7, Value.str (Str.ofString "apos;") t8)])).isSome = false) :
    ¬ (k = 38 ∨ k = 60 ∨ k = 62 ∨ k = 39) := fun q => by
  rw [(mark4 k).mpr q] at h
  cases h
theorem deep_done {n : Nat} {x told : Str} (h : DeepP n (KStt.codes x) told) : told = S (dpAll n x.cps.toList) := by
  rw [h.1]
  have e : (KStt.codes x).map Int.toNat = x.cps.toList := by
    unfold KStt.codes
    rw [List.map_map]
    exact (List.map_congr_left (g := _root_.id) fun c _ => Int.toNat_natCast c).trans (List.map_id _)
  rw [e]
end
end
section
theorem startDeep : True := by
  k_with_none
  w_top off
  k_with "m_sub" => (intro p9 hp9; repeat (first | exact hp9 | refine List.mem_cons_of_mem _ ?_))
  k_with "m_lt" => (first | with_reducible assumption | (apply allLt_mem; first | with_reducible assumption | exact And.right (by with_reducible assumption) | exact And.right (And.right (by with_reducible assumption)) | exact And.right (And.right (And.right (by with_reducible assumption)))))
  k_with "m_enter" => (k_dflt (refine' code_def ?z9k1 ?z9k2 ?z9k3 ?z9k4 ?z9k5 ?z9kA ?z9kF ?z9kK ?z9k6 ?z9k7 ?z9k8 ?z9k9 ?z9kB ?_ ?z9c2 ?z9c3 ?z9c4 ?z9c5; (case z9kA => exact rfl); (case z9kF => exact rfl); (case z9kK => assumption); (case z9k1 => k_asm); (case z9k2 => k_asm); (case z9k3 => k_asm); (case z9k4 => k_asm); (case z9k5 => k_asm); (case z9k6 => k_is); (case z9k7 => k_is); (case z9k8 => ktr_room); (case z9k9 => first | exact BindsTo.of_eq rfl | exact binds_K (by k_in) rfl (by k_is) rfl rfl rfl); (case z9c5 => decide); (case z9kB => exact locs rfl); (case z9c2 => exact rfl); (case z9c3 => exact rfl); (case z9c4 => exact rfl); k_whole; intro g' L' h' FG' F' N' B' X' T'; (try dsimp only); (try k_lift B'); (try k_fold)))
  k_with "m_enterC" => (k_dflt (refine' code_defC ?z9k1 ?z9k2 ?z9k3 ?z9k4 ?z9k5 ?z9kA ?z9kF ?z9kK ?z9k6 ?z9k7 ?z9k8 ?z9k9 ?z9kB ?z9kD ?_ ?z9c2 ?z9c3 ?z9c4; (case z9kA => exact rfl); (case z9kF => exact rfl); (case z9kK => assumption); (case z9k1 => k_asm); (case z9k2 => k_asm); (case z9k3 => k_asm); (case z9k4 => k_asm); (case z9k5 => k_asm); (case z9k6 => k_is); (case z9k7 => k_is); (case z9k8 => ktr_room); (case z9k9 => first | exact BindsTo.of_eq rfl | exact binds_K (by k_in) rfl (by k_is) rfl rfl rfl); (case z9kB => exact rfl); (case z9kD => decide +kernel); (case z9c2 => exact rfl); (case z9c3 => exact rfl); (case z9c4 => exact rfl); k_whole; intro g' L' h' tk' cells' FG' F' N' Y' B' X' T' l1; (try k_lt l1); k_cells Y'; (try simp only [List.cons_append, List.nil_append] at N'); (try dsimp only); (try k_lift B'); (try k_fold)))
  k_with "binaryOp Mult str int" => (k_here; (refine mul_rule (by with_reducible assumption) (by with_reducible assumption) ?_); intro _ _ _)
  k_with "getItem ref str" => (k_here; (have hh9 := (mark4 _).mp (by with_reducible assumption)); rcases hh9 with hh9 | hh9 | hh9 | hh9 <;> subst hh9)
  k_with "inplaceOp Add str str" => (k_here; (with_reducible rename DeepP _ _ _ => hP9); (refine SB.iadd ?_ (by have h9 := hP9.2; (have hm9 := mulA_len _ (by assumption)); kopn_len)); intro _ _)
  trivial
theorem mul_rule {prog : Program} {w : World} {A : Around} {E : Value → Shared → Prop} {s : Shared} {t u : Tok} {Q : Value → Shared → Prop} {n : Nat} (hn : n ≤ 3) (h0 : 0 < (n : Int)) (h : ∀ t' k, (mulA n).length ≤ 8 → Q (.str (mulA n) t') { s with toks := k }) :
    wpAny (model prog w) A (binaryOp .Mult (.str (Str.ofString "amp;") t) (.int ((n : Int) - 1) u)) Q E s := by
  have e : Txt.mul (Str.ofString "amp;") ((n : Int) - 1) = mulA n := by
    rcases (by omega : n = 1 ∨ n = 2 ∨ n = 3) with rfl | rfl | rfl <;> decide +kernel
  refine SB.mul ?_ fun t' k => e ▸ h t' k (mulA_len n hn)
  exact mulOk_of 4095 4095 (by decide +kernel) (by omega) (by omega) (by decide) (by decide)

theorem deep1 (w : World) (x : Str) (t : Tok) (n : Nat) (tn : Tok) (hn : n ≤ 3) (hx : x.length ≤ 1000) : TellsS 4 w 62 [.str x t, .int n tn] (fun _ => True) (S (dpAll n x.cps.toList)) := by
  unfold TellsS Tells
  intro p loose mean mg mb dp un gd cn cs a ccd cl outer A₀ base h₀ L m news s Q E B F X N T hk hneed hd hu hret
  refine wpAny_call ?_
  k_dflt cell_enter
  k_with "pyIter str" => k_state (fun pre told => DeepP n pre told) "told"
  k_with "state" => first | with_reducible exact deep_nil _ | ((with_reducible refine deep_turn ?h1 ?h2 ?h3); (case h1 => with_reducible assumption); (case h2 => with_reducible assumption); (case h3 => first | with_reducible exact eA38 (by with_reducible assumption) | with_reducible exact eA60 (by with_reducible assumption) | with_reducible exact eA62 (by with_reducible assumption) | with_reducible exact eA39 (by with_reducible assumption) | with_reducible exact eB (by with_reducible assumption) | with_reducible exact eC (not4 (by with_reducible assumption)))) | trace_state
  k_steps
  all_goals (refine' retS hret ?F ?N ?hs ?e; (case F => k_asm); (case N => k_asm); (case hs => exact fun p hp => List.mem_cons_of_mem _ hp); (case e => exact deep_done (by with_reducible assumption)))
end
section
theorem startDecode : True := by
  k_with_none
  w_top off
  k_with "m_sub" => (intro p9 hp9; repeat (first | exact hp9 | refine List.mem_cons_of_mem _ ?_))
  k_with "m_lt" => (first | with_reducible assumption | (apply allLt_mem; first | with_reducible assumption | exact And.right (by with_reducible assumption) | exact And.right (And.right (by with_reducible assumption)) | exact And.right (And.right (And.right (by with_reducible assumption)))))
  k_with "m_enter" => (k_dflt (refine' code_def ?z9k1 ?z9k2 ?z9k3 ?z9k4 ?z9k5 ?z9kA ?z9kF ?z9kK ?z9k6 ?z9k7 ?z9k8 ?z9k9 ?z9kB ?_ ?z9c2 ?z9c3 ?z9c4 ?z9c5; (case z9kA => exact rfl); (case z9kF => exact rfl); (case z9kK => assumption); (case z9k1 => k_asm); (case z9k2 => k_asm); (case z9k3 => k_asm); (case z9k4 => k_asm); (case z9k5 => k_asm); (case z9k6 => k_is); (case z9k7 => k_is); (case z9k8 => ktr_room); (case z9k9 => first | exact BindsTo.of_eq rfl | exact binds_K (by k_in) rfl (by k_is) rfl rfl rfl); (case z9c5 => decide); (case z9kB => exact locs rfl); (case z9c2 => exact rfl); (case z9c3 => exact rfl); (case z9c4 => exact rfl); k_whole; intro g' L' h' FG' F' N' B' X' T'; (try dsimp only); (try k_lift B'); (try k_fold)))
  k_with "m_enterC" => (k_dflt (refine' code_defC ?z9k1 ?z9k2 ?z9k3 ?z9k4 ?z9k5 ?z9kA ?z9kF ?z9kK ?z9k6 ?z9k7 ?z9k8 ?z9k9 ?z9kB ?z9kD ?_ ?z9c2 ?z9c3 ?z9c4; (case z9kA => exact rfl); (case z9kF => exact rfl); (case z9kK => assumption); (case z9k1 => k_asm); (case z9k2 => k_asm); (case z9k3 => k_asm); (case z9k4 => k_asm); (case z9k5 => k_asm); (case z9k6 => k_is); (case z9k7 => k_is); (case z9k8 => ktr_room); (case z9k9 => first | exact BindsTo.of_eq rfl | exact binds_K (by k_in) rfl (by k_is) rfl rfl rfl); (case z9kB => exact rfl); (case z9kD => decide +kernel); (case z9c2 => exact rfl); (case z9c3 => exact rfl); (case z9c4 => exact rfl); k_whole; intro g' L' h' tk' cells' FG' F' N' Y' B' X' T' l1; (try k_lt l1); k_cells Y'; (try simp only [List.cons_append, List.nil_append] at N'); (try dsimp only); (try k_lift B'); (try k_fold)))
  k_with "call builtin:str.split" => (k_here; (with_reducible show wpAny _ _ (call (Value.builtin "str.split") [Value.str _ _, Value.str _ _, Value.int 2 _]) _ _ _); first
      | (refine split_3 (by k_asm) (by k_asm) (by with_reducible assumption) (by with_reducible assumption) ?_; intro D' _ _ _ _ _ F' N' l1; (try k_lt l1))
      | (refine split_le (by k_asm) (by k_asm) (by with_reducible assumption) (by with_reducible assumption) ?_; intro D' _ _ _ _ F' N' l1; (try k_lt l1)))
  k_with "call builtin:len" => (k_here; (with_reducible show wpAny _ _ (call (Value.builtin "len") [Value.ref _]) _ _ _); refine len_le (by k_asm) (by k_mem) (by with_reducible assumption) ?_; intro _ _)
  trivial
theorem decode_no (w : World) (x : Str) (t : Tok) (hx : x.length ≤ 1000000) (hsp : (Txt.splitMax x tick 2).length ≤ 2) : TellsO 4 w 21 [.str x t] (fun _ => True) (fun o => ∃ t1, o = { cls := .type "tuple", data := .seq #[.none, .none, .str x t1] }) := by
  unfold TellsO Tells
  intro p loose mean mg mb dp un gd cn cs a ccd cl outer A₀ base h₀ L m news s Q E B F X N T hk hneed hd hu hret
  refine wpAny_call ?_
  k_dflt cell_enter
  k_steps
  all_goals (refine' retO hret ?F ?N ?hm ?hs ?hlt ?hP; (case F => k_asm); (case N => k_asm); (case hm => k_mem); (case hs => walk_at "m_sub"); (case hlt => walk_at "m_lt"); (case hP => exact ⟨_, rfl⟩))
theorem decode_yes (w : World) (x a b c : Str) (t : Tok) (hx : x.length ≤ 1000000) (hsp : Txt.splitMax x tick 2 = [a, b, c]) : TellsO 4 w 21 [.str x t] (fun _ => True) (fun o => ∃ t1 t2 t3, o = listOf #[.str a t1, .str b t2, .str c t3] 0) := by
  unfold TellsO Tells
  intro p loose mean mg mb dp un gd cn cs a ccd cl outer A₀ base h₀ L m news s Q E B F X N T hk hneed hd hu hret
  refine wpAny_call ?_
  k_dflt cell_enter
  k_steps
  all_goals (refine' retO hret ?F ?N ?hm ?hs ?hlt ?hP; (case F => k_asm); (case N => k_asm); (case hm => k_mem); (case hs => walk_at "m_sub"); (case hlt => walk_at "m_lt"); (case hP => exact ⟨_, _, _, rfl⟩))
end
section
/-- a dict's object with its keys' and values' very tokens: (text, token, value) -/
def cEnts (w : World) (l : List (Str × Tok × Value)) : List DictEntry := l.map fun e => ⟨hashStr w e.1, .str e.1 e.2.1, e.2.2⟩
def cDict (w : World) (l : List (Str × Tok × Value)) (n : Nat) : Obj := { cls := .type "dict", data := .dict (cEnts w l).toArray n }

section
variable {prog : Program} {w : World} {A : Around} {E : Value → Shared → Prop} {s : Shared} {d a : Addr} {l l2 : List (Str × Tok × Value)} {n n2 : Nat} {x : Str} {t : Tok} {v : Value}
theorem cEnts_app (l l2 : List (Str × Tok × Value)) : cEnts w (l ++ l2) = cEnts w l ++ cEnts w l2 := by simp [cEnts]
theorem cEnts_keys (l : List (Str × Tok × Value)) : KeysOf (PySem.strKind prog w) (cEnts w l).toArray := by
  intro e he
  have he' : e ∈ cEnts w l := by simpa using he
  obtain ⟨q, _, rfl⟩ := List.mem_map.mp he'
  exact ⟨q.1, by simp [PySem.strKind, Value.isStrOf], rfl⟩
theorem cEnts_find (hnot : x ∉ l.map (·.1)) : ((cEnts w l).toArray.findIdx? fun e => (PySem.strKind prog w).is x e.key) = none := by
  rw [List.findIdx?_toArray, List.findIdx?_eq_none_iff]
  intro e he
  obtain ⟨q, hq, rfl⟩ := List.mem_map.mp he
  have : q.1 ≠ x := fun h => hnot (List.mem_map.mpr ⟨q, hq, h⟩)
  simp [PySem.strKind, Value.isStrOf, this]
theorem cDict_push (h : Int) (hh : h = hashStr w x) : (cDict w l n).mapDictKeys (·.push ⟨h, .str x t, v⟩) = cDict w (l ++ [(x, t, v)]) (n + 1) := by
  subst hh
  simp [Obj.mapDictKeys, cDict, cEnts]
theorem dictPut_c {Q : Unit → Shared → Prop} (ho : s.heap.get? d = some (cDict w l n)) (hnot : x ∉ l.map (·.1)) (hl : l.length ≤ 100)
    (h : ∀ h', h'.get? d = some (cDict w (l ++ [(x, t, v)]) (n + 1)) → Heap.SameBut d s.heap h' → Q () { s with heap := h' }) :
    wpAny (model prog w) A (dictPut d (hashStr w x) (.str x t) v) Q E s := by
  unfold dictPut
  refine wpAny_bind (wpAny_dictFind_of (knd := PySem.strKind prog w) (k := x) (by simp [PySem.strKind, Value.isStrOf]) ho rfl (cEnts_keys l) ?_)
  rw [cEnts_find hnot]
  refine wpAny_updateDictKeys ho rfl (h _ ?_ (Heap.SameBut.update ..)) (by rw [sizeLine_eq]; simp [cEnts]; omega) (by grows_one)
  rw [Heap.get?_update_self _ ho rfl, cDict_push _ rfl]
theorem dictSet_c {Q : Unit → Shared → Prop} (ho : s.heap.get? d = some (cDict w l n)) (hnot : x ∉ l.map (·.1)) (hl : l.length ≤ 100)
    (h : ∀ h', h'.get? d = some (cDict w (l ++ [(x, t, v)]) (n + 1)) → Heap.SameBut d s.heap h' → Q () { s with heap := h', toks := s.toks + 1 }) :
    wpAny (model prog w) A (dictSet d (.str x t) v) Q E s := by
  unfold dictSet
  try with_reducible refine wpAny_holding ?_
  refine wpAny_bind (wpAny_pyHash_str ?_)
  unfold dictSetHashed
  try with_reducible refine wpAny_holding ?_
  refine wpAny_bind (wpAny_dictFind_of (s := { s with toks := s.toks + 1 }) (knd := PySem.strKind prog w) (k := x) (by simp [PySem.strKind, Value.isStrOf]) ho rfl (cEnts_keys l) ?_)
  rw [cEnts_find hnot]
  refine wpAny_bind (wpAny_rule (wpAny_updateDictKeys (s := { s with toks := s.toks + 1 }) ho rfl (h _ ?_ (Heap.SameBut.update ..)) (by rw [sizeLine_eq]; simp [cEnts]; omega) (by grows_one)))
  rw [Heap.get?_update_self _ ho rfl, cDict_push _ rfl]

theorem storeAll_c : ∀ (vs l : List (Str × Tok × Value)) (n : Nat) (s : Shared) (Q : PUnit → Shared → Prop), ((l ++ vs).map (·.1)).Nodup → l.length + vs.length ≤ 100 → s.heap.get? d = some (cDict w l n) →
    (∀ h', h'.get? d = some (cDict w (l ++ vs) (n + vs.length)) → Heap.SameBut d s.heap h' → Q PUnit.unit { s with heap := h', toks := s.toks + vs.length }) →
    wpAny (model prog w) A (forIn (vs.map fun e => (Value.str e.1 e.2.1, e.2.2)) PUnit.unit fun (x : Value × Value) (_ : PUnit) => (do dictSet d x.1 x.2; pure (ForInStep.yield PUnit.unit) : Sem (ForInStep PUnit))) Q E s
  | [], l, n, s, Q, _, _, ho, h => by
    rw [List.map_nil, List.forIn_nil]
    have := h s.heap (by simpa using ho) (Heap.SameBut.refl _ _)
    exact wpAny_pure this
  | e :: vs, l, n, s, Q, hn, hl, ho, h => by
    obtain ⟨x, t, v⟩ := e
    rw [List.map_cons, List.forIn_cons]
    have hnot : x ∉ l.map (·.1) := by
      intro hx
      rw [List.map_append, List.nodup_append] at hn
      exact hn.2.2 x hx x (by simp) rfl
    rw [List.length_cons] at hl
    refine wpAny_bind (wpAny_bind (dictSet_c ho hnot (by omega) fun h₁ ho₁ hs₁ => wpAny_pure ?_))
    refine storeAll_c vs (l ++ [(x, t, v)]) (n + 1) _ Q (by simpa using hn) (by simp; omega) ho₁ fun h' ho' hs' => ?_
    have := h h' (by simpa [Nat.add_assoc, Nat.add_comm 1] using ho') (hs₁.trans hs')
    simpa [Nat.add_assoc, Nat.add_comm 1] using this

theorem subDict_c {pairs : List (Sem Value × Sem Value)} {Q : Addr → Shared → Prop} (hlen : pairs.length ≤ 15)
    (h : wpAny (model prog w) A (evalPairs pairs) (fun vs s₁ => ∃ es : List (Str × Tok × Value), vs = es.map (fun e => (Value.str e.1 e.2.1, e.2.2)) ∧ (es.map (·.1)).Nodup ∧ es.length ≤ 50 ∧
      s₁.heap = s.heap.push { cls := .type "dict", data := .dict #[] } ∧
      ∀ h', h'.get? s.heap.objs.size = some (cDict w es es.length) → (∀ b o, s.heap.get? b = some o → h'.get? b = some o) → Q s.heap.objs.size { s₁ with heap := h', toks := s₁.toks + es.length }) E
      { s with heap := s.heap.push { cls := .type "dict", data := .dict #[] } }) :
    wpAny (model prog w) A (subDict pairs) Q E s := by
  unfold subDict
  refine wpAny_bind (wpAny_alloc ?_)
  refine wpAny_bind (wpAny_holding ?_)
  rw [if_pos hlen]
  refine wpAny_bind (wpAny_mono h (fun vs s₁ h₁ => ?_) fun _ _ e => e)
  obtain ⟨es, rfl, hn, hl, hh, hQ⟩ := h₁
  refine wpAny_holding ?_
  have ho : s₁.heap.get? s.heap.objs.size = some (cDict w [] 0) := by rw [hh]; exact Heap.get?_push_size _ rfl
  refine wpAny_bind (storeAll_c es [] 0 s₁ _ (by simpa using hn) (by simp; omega) ho fun h' ho' hs' => wpAny_pure (wpAny_pure ?_))
  refine hQ h' (by simpa using ho') fun b o hb => ?_
  refine hs'.extBut b o (Nat.ne_of_lt (Heap.lt_size hb)) ?_
  rw [hh]
  exact Heap.get?_push_of_some _ hb

theorem noRefs (xs : Array DictEntry) (hx : xs = (cEnts w l).toArray) : (forIn xs PUnit.unit fun e (_ : PUnit) => (do
      (match e.key with
       | .ref _ => do
          let r ← specialOf e.key "__eq__"
          if (r != some (.builtin "object.__eq__")) = true then
            if (xs.filter (·.hash == e.hash)).size > 1 then (do let _ ← (unsupported "dict.merge-into-an-empty-dict:keys-of-equal-hash" : Sem PUnit); pure (ForInStep.yield PUnit.unit)) else pure (ForInStep.yield PUnit.unit)
          else pure (ForInStep.yield PUnit.unit)
       | _ => pure (ForInStep.yield PUnit.unit)) : Sem (ForInStep PUnit))) = pure PUnit.unit := by
  rw [← Array.forIn_toList]
  refine forIn_yield_id _ fun e he c => ?_
  subst hx
  obtain ⟨q, _, rfl⟩ := List.mem_map.mp (by simpa using he : e ∈ cEnts w l)
  rfl

theorem merge_c {Q : Unit → Shared → Prop} (ho : s.heap.get? d = some (cDict w l n)) (ha : s.heap.get? a = some (cDict w l2 n2)) (hda : d ≠ a) (hS : (a == sysModules) = false)
    (hn : ((l ++ l2).map (·.1)).Nodup) (hl : l.length + l2.length ≤ 100)
    (h : ∀ h', h'.get? d = some (cDict w (l ++ l2) (n + l2.length)) → Heap.SameBut d s.heap h' → Q () { s with heap := h' }) :
    wpAny (model prog w) A (mergeMapping d (.ref a) false) Q E s := by
  have hT : s.TypeIs (.ref a) "dict" := ⟨_, ha, rfl⟩
  unfold mergeMapping
  refine wpAny_bind (wpAny_isInstance hT isSubtype_dict_dict ?_)
  simp only [if_true]
  refine wpAny_bind (wpAny_specialOf hT F.slot_dict_iter.lookup ?_)
  simp only [beq_self_eq_true]
  refine wpAny_bind (wpAny_pure ?_)
  dsimp only
  rw [if_neg (by rw [hS]; exact Bool.false_ne_true)]
  have loop : wpAny (model prog w) A (do
      let es ← dictEntries a
      let epoch ← dictEpoch a
      forIn (List.range es.size) PUnit.unit fun i (_ : PUnit) => (do
          let es' ← dictEntries a
          match es'[i]? with
          | some e => do
            holding [e.key, e.val] (dictPut d e.hash e.key e.val)
            let ep' ← dictEpoch a
            if (ep' != epoch) = true then do
              (unsupported "dict.changed-during-merge" : Sem PUnit)
              pure (ForInStep.yield PUnit.unit)
            else pure (ForInStep.yield PUnit.unit)
          | _ => do
            (unsupported "dict.changed-during-merge" : Sem PUnit)
            pure (ForInStep.yield PUnit.unit) : Sem (ForInStep PUnit))
      pure ()) Q E s := by
    refine wpAny_bind (wpAny_dictEntries ha rfl ?_)
    refine wpAny_bind (wpAny_dictEpoch ha rfl ?_)
    refine wpAny_bind ?_
    rw [List.range_eq_range']
    have hsz : (cEnts w l2).toArray.size = l2.length := by simp [cEnts]
    rw [hsz]
    refine wpAny_forIn_list _
      (fun rest _ s' => ∃ h' i, s' = { s with heap := h' } ∧ rest = List.range' i (l2.length - i) ∧ i ≤ l2.length ∧ h'.get? d = some (cDict w (l ++ l2.take i) (n + i)) ∧ h'.get? a = some (cDict w l2 n2) ∧ Heap.SameBut d s.heap h')
      _ ?_ ?_ _ _ ⟨s.heap, 0, rfl, by simp, Nat.zero_le _, by simpa using ho, ha, Heap.SameBut.refl _ _⟩
    · rintro x rest b s' ⟨h', i, rfl, hr, hi, hd', ha', hs'⟩
      have hlt : i < l2.length := by
        rcases Nat.lt_or_ge i l2.length with h | h
        · exact h
        · rw [Nat.sub_eq_zero_of_le h] at hr; simp at hr
      obtain ⟨rfl, hrest⟩ : x = i ∧ rest = List.range' (i + 1) (l2.length - (i + 1)) := by
        have e : l2.length - i = (l2.length - (i + 1)) + 1 := by omega
        rw [e, List.range'_succ] at hr
        injection hr with h1 h2
        exact ⟨h1, h2⟩
      refine wpAny_bind (wpAny_dictEntries ha' rfl ?_)
      have hx : (cEnts w l2).toArray[x]? = some ⟨hashStr w (l2[x]).1, .str (l2[x]).1 (l2[x]).2.1, (l2[x]).2.2⟩ := by
        simp [cEnts, hlt]
      rw [hx]
      have htake : l2.take (x + 1) = l2.take x ++ [((l2[x]).1, (l2[x]).2.1, (l2[x]).2.2)] := by
        rw [List.take_add_one, List.getElem?_eq_getElem hlt]; rfl
      have hnot : (l2[x]).1 ∉ (l ++ l2.take x).map (·.1) := by
        intro hm
        have h1 : ((l ++ l2.take (x + 1)).map (·.1)).Nodup := by
          refine List.Nodup.sublist ?_ hn
          exact List.Sublist.map _ (List.Sublist.append_left (List.take_sublist _ _) _)
        rw [htake, ← List.append_assoc, List.map_append, List.nodup_append] at h1
        exact h1.2.2 _ hm _ (by simp) rfl
      refine wpAny_bind (wpAny_holding (dictPut_c hd' hnot (by simp; omega) fun h'' hd'' hs'' => ?_))
      have ha'' : h''.get? a = some (cDict w l2 n2) := (hs''.2 a (Ne.symm hda)).trans ha'
      refine wpAny_bind (wpAny_dictEpoch ha'' rfl ?_)
      rw [if_neg (by simp)]
      exact wpAny_pure ⟨h'', x + 1, rfl, hrest, hlt, by rw [htake, ← List.append_assoc]; exact hd'', ha'', hs'.trans hs''⟩
    · rintro b s' ⟨h', i, rfl, hr, hi, hd', ha', hs'⟩
      have hin : i = l2.length := by
        rcases Nat.lt_or_ge i l2.length with h | h
        · have e : l2.length - i = (l2.length - (i + 1)) + 1 := by omega
          rw [e, List.range'_succ] at hr; exact nomatch hr
        · exact Nat.le_antisymm hi h
      refine wpAny_pure (h h' ?_ hs')
      rw [hin, List.take_length] at hd'; exact hd'
  refine wpAny_bind (wpAny_dictEntries ho rfl ?_)
  split
  · refine wpAny_bind (wpAny_dictEntries ha rfl ?_)
    refine wpAny_bind (wpAny_of_eq (noRefs (w := w) (l := l2) _ rfl) ?_)
    exact loop
  · exact loop
end
end
section
section
variable {prog : Program} {w : World} {A : Around} {E : Value → Shared → Prop} {s : Shared} {a L fa : Addr} {h₀ : Heap} {m : Str → Option Value} {news : List (Addr × Obj)} {l : List (Str × Tok × Value)} {n : Nat} {cn : Str} {cs : Scope} {ccd : Value}
  {k1 v1 k2 v2 k3 v3 : Str} {i1 i2 i3 j1 j2 j3 : Nat} {p0 p1 p2 p3 q1 q2 q3 pos : Pos} {Q : Value → Shared → Prop} {env : Env}

theorem pair1 {pos : Pos} {i j : Nat} {p q : Pos} {k v : Str} {rest : List (Sem Value × Sem Value)} {Q : List (Value × Value) → Shared → Prop}
    (h : wpAny (model prog w) A (evalPairs rest) (fun vs s₃ => Q ((.str k s.toks, .str v (s.toks + 1)) :: vs) s₃) E { s with toks := s.toks + 2 }) :
    wpAny (model prog w) A (evalPairs ((eval (.Constant (.str k) i p) env, (do let x ← eval (.Constant (.str v) j q) env; standAt pos; pure x)) :: rest)) Q E s := by
  refine evalPairs_cons (Constant_str (wpAny_bind (Constant_str (wpAny_bind (wpAny_standAt (wpAny_pure ?_))))))
  exact h

theorem one_zip (a b : Sem Value) : [(some a, b)] = [(a, b)].map (fun p : Sem Value × Sem Value => (some p.1, p.2)) := rfl
theorem oneDict (hbig : h₀.NoLimit) (F : Fr h₀ L s.heap m) (N : News h₀ L s.heap news)
    (h : ∀ D h', Fr h₀ L h' m → News h₀ L h' ((D, cDict w [(k1, s.toks, .str v1 (s.toks + 1))] 1) :: news) → (∀ p ∈ news, p.1 < D) → (D == sysModules) = false → Q (.ref D) { s with heap := h', toks := s.toks + 2 + 1 }) :
    wpAny (model prog w) A (eval (.Dict [some (.Constant (.str k1) i1 p1)] [.Constant (.str v1) j1 q1] pos) env) Q E s := by
  rw [arm_eval_Dict]
  refine wpAny_bind (wpAny_standAt ?_)
  simp only [evalEach, evalEachOpt, evalOpt, List.map_cons, List.map_nil, List.zip_cons_cons, List.zip_nil_left]
  rw [one_zip]
  rw [dictDisplay_pairs _ (by simp) (by simp)]
  refine wpAny_bind ?_
  refine subDict_c (by simp) ?_
  refine pair1 ?_
  refine evalPairs_nil ?_
  refine ⟨[(k1, s.toks, .str v1 (s.toks + 1))], rfl, by simp, by simp, rfl, ?_⟩
  intro h' ho hk
  refine wpAny_pure ?_
  exact h _ h' (F.kept hk) (News.kept_cons F N hk (Nat.le_refl _) ho) (fun p hp => Heap.lt_size (N p hp).1) (F.notModules (modules_low hbig))

theorem quoteDict {nm : Str} (hbig : h₀.NoLimit) (F : Fr h₀ L s.heap m) (N : News h₀ L s.heap news) (hv : m nm = some (.ref a)) (ha : s.heap.get? a = some (cDict w l n)) (hS : (a == sysModules) = false)
    (hn : (l.map (·.1) ++ [k1, k2, k3]).Nodup) (hl : l.length ≤ 20)
    (h : ∀ D h' tk, s.toks ≤ tk → Fr h₀ L h' m → News h₀ L h' ((D, cDict w (l ++ [(k1, tk, .str v1 (tk + 1)), (k2, tk + 2, .str v2 (tk + 2 + 1)), (k3, tk + 2 + 2, .str v3 (tk + 2 + 2 + 1))]) (l.length + 3)) :: news) → (∀ p ∈ news, p.1 < D) → (D == sysModules) = false →
      Q (.ref D) { s with heap := h', toks := tk + 2 + 2 + 2 + 3 })
    (hk : cs.kind = .function := by rfl) (hx : (envOf cn cs L fa ccd).kindOf nm = some .local := by rfl) (hd : (nm == ("__debug__" : Str)) = false := by decide) :
    wpAny (model prog w) A (eval (.Dict [none, some (.Constant (.str k1) i1 p1), some (.Constant (.str k2) i2 p2), some (.Constant (.str k3) i3 p3)] [.Name nm p0, .Constant (.str v1) j1 q1, .Constant (.str v2) j2 q2, .Constant (.str v3) j3 q3] pos) (envOf cn cs L fa ccd)) Q E s := by
  rw [arm_eval_Dict]
  refine wpAny_bind (wpAny_standAt ?_)
  simp only [evalEach, evalEachOpt, evalOpt, List.map_cons, List.map_nil, List.zip_cons_cons, List.zip_nil_left]
  unfold dictDisplay
  dsimp only
  simp only [List.forIn_cons, List.forIn_nil, List.isEmpty_nil, if_true, pure_bind]
  have F1 : Fr h₀ L (s.heap.push { cls := .type "dict", data := .dict #[] }) m := F.push _
  have hda : s.heap.objs.size ≠ a := fun e => absurd (Heap.lt_size ha) (by rw [← e]; exact Nat.lt_irrefl _)
  refine wpAny_bind (wpAny_bind ?_)
  refine wpAny_bind (wpAny_alloc ?_)
  refine wpAny_bind (wpAny_holding (wpAny_bind (ld F1 hv (wpAny_bind (wpAny_standAt (wpAny_pure ?_))) hk hx hd)))
  refine wpAny_bind ?_
  refine wpAny_onRaise (wpAny_tryCatch (wpAny_onRaise (wpAny_holding ?_)))
  refine merge_c (l := []) (n := 0) (Heap.get?_push_size _ rfl) (Heap.get?_push_of_some _ ha) hda hS (by
    rw [List.nil_append]
    rw [List.nodup_append] at hn
    exact hn.1) (by simp; omega) fun h1 ho1 hs1 => ?_
  refine wpAny_pure ?_
  simp only [List.nil_append]
  refine wpAny_bind ?_
  rw [if_neg (by simp)]
  refine wpAny_pure ?_
  simp only [List.cons_append, List.nil_append]
  refine wpAny_bind ?_
  rw [if_neg (by simp)]
  refine wpAny_pure ?_
  simp only [List.cons_append, List.nil_append]
  refine wpAny_bind ?_
  rw [if_neg (by simp)]
  refine wpAny_pure ?_
  refine wpAny_pure ?_
  simp only [List.isEmpty_cons, Bool.false_eq_true, if_false]
  simp only [List.nil_append, Nat.zero_add] at ho1
  have k1' : ∀ b o, s.heap.get? b = some o → h1.get? b = some o := fun b o hb =>
    hs1.extBut b o (Nat.ne_of_lt (Heap.lt_size hb)) (Heap.get?_push_of_some _ hb)
  have hsz1 : s.heap.objs.size < h1.objs.size := Heap.lt_size ho1
  have hnS : (h1.objs.size == sysModules) = false := (F.kept k1').notModules (modules_low hbig)
  refine wpAny_bind ?_
  refine wpAny_bind ?_
  refine wpAny_holding ?_
  refine subDict_c (by simp) ?_
  refine pair1 ?_
  refine pair1 ?_
  refine pair1 ?_
  refine evalPairs_nil ?_
  refine ⟨[(k1, s.toks, .str v1 (s.toks + 1)), (k2, s.toks + 2, .str v2 (s.toks + 2 + 1)), (k3, s.toks + 2 + 2, .str v3 (s.toks + 2 + 2 + 1))], ?_, ?_, ?_, ?_, ?_⟩
  · rfl
  · rw [List.nodup_append] at hn
    simpa using hn.2.1
  · simp
  · rfl
  · intro h2 ho2 hk2
    refine wpAny_bind ?_
    refine wpAny_onRaise ?_
    refine wpAny_holding ?_
    refine merge_c (l := l) (l2 := [(k1, s.toks, .str v1 (s.toks + 1)), (k2, s.toks + 2, .str v2 (s.toks + 2 + 1)), (k3, s.toks + 2 + 2, .str v3 (s.toks + 2 + 2 + 1))]) (n := l.length) (n2 := 3) (hk2 _ _ ho1) ho2 (Nat.ne_of_lt hsz1) hnS ?_ ?_ ?_
    · simpa using hn
    · simp; omega
    intro h3 ho3 hs3
    refine wpAny_pure ?_
    refine wpAny_pure ?_
    have hk3 : ∀ b o, s.heap.get? b = some o → h3.get? b = some o := fun b o hb =>
      hs3.extBut b o (Nat.ne_of_lt (Heap.lt_size hb)) (hk2 b o (k1' b o hb))
    have hfin := h _ h3 s.toks (Nat.le_refl _) (F.kept hk3) (News.kept_cons F N hk3 (Nat.le_refl _) (by simpa using ho3)) (fun p hp => Heap.lt_size (N p hp).1) (F.notModules (modules_low hbig))
    exact hfin
end
end
section
section
variable {prog : Program} {w : World} {A : Around} {E : Value → Shared → Prop} {s : Shared} {d it : Addr} {l : List (Str × Tok × Value)} {i ep : Nat} {ok ov : Value}

/-- the pair that a turn over a dict's items hands out, with its very tokens -/
def cPair (e : Str × Tok × Value) : Obj := { cls := .type "tuple", data := .seq #[.str e.1 e.2.1, e.2.2] }

/-- the owner of the pair makes a new one and keeps its address -/
theorem owner_c {key val : Value} {n : Nat} {Q : Value → Shared → Prop} (hit : IsItemIter s.heap it d i n ep ok ov)
    (hQ : ∀ h', IsItemIterOut h' it d i n ep key val s.heap.objs.size → h'.get? s.heap.objs.size = some { cls := .type "tuple", data := .seq #[key, val] } →
      (∀ b o, b ≠ it → s.heap.get? b = some o → h'.get? b = some o) → Q (.ref s.heap.objs.size) { s with heap := h' }) :
    wpAny (model prog w) A (Builtin.Dict_items.pairFromOwner (.ref it) 6 key val) Q E s := by
  have hne : it ≠ s.heap.objs.size := Nat.ne_of_lt (Heap.lt_size hit)
  unfold Builtin.Dict_items.pairFromOwner
  refine wpAny_bind (wpAny_newTuple ?_)
  have i0 : IsItemIter (s.heap.push { cls := .type "tuple", data := .seq #[key, val] }) it d i n ep ok ov := Heap.get?_push_of_some _ hit
  have t0 : (s.heap.push { cls := .type "tuple", data := .seq #[key, val] }).get? s.heap.objs.size = some { cls := .type "tuple", data := .seq #[key, val] } := Heap.get?_push_size _ rfl
  have o0 : ∀ b o, b ≠ it → s.heap.get? b = some o → (s.heap.push { cls := .type "tuple", data := .seq #[key, val] }).get? b = some o := fun b o _ hb => Heap.get?_push_of_some _ hb
  show wpAny (model prog w) A (Builtin.Dict_items.ownedTupleIsFree (.ref it) >>= _) Q E { s with heap := s.heap.push { cls := .type "tuple", data := .seq #[key, val] } }
  generalize s.heap.push { cls := .type "tuple", data := .seq #[key, val] } = g0 at i0 t0 o0
  refine wpAny_bind ?_
  unfold Builtin.Dict_items.ownedTupleIsFree
  refine wpAny_bind (wpAny_field i0 rfl (x := .none) rfl (wpAny_pure ?_))
  simp only [if_true]
  refine wpAny_bind (wpAny_field i0 rfl (x := ok) rfl ?_)
  refine wpAny_bind (wpAny_field i0 rfl (x := ov) rfl ?_)
  refine wpAny_bind (wpAny_setField_rec i0 (by simp) fun g1 i1 s1 => ?_)
  replace i1 : IsItemIter g1 it d i n ep key ov := i1
  refine wpAny_bind (wpAny_setField_rec i1 (by simp) fun g2 i2 s2 => ?_)
  replace i2 : IsItemIter g2 it d i n ep key val := i2
  refine wpAny_bind (wpAny_setField_rec i2 (by simp) fun g3 i3 s3 => ?_)
  replace i3 : IsItemIterOut g3 it d i n ep key val s.heap.objs.size := i3
  refine wpAny_bind (wpAny_setField_rec i3 (by simp) fun g4 i4 s4 => ?_)
  replace i4 : IsItemIterOut g4 it d i n ep key val s.heap.objs.size := i4
  refine wpAny_bind (wpAny_letGo (wpAny_pure ?_))
  have all : ∀ b o, b ≠ it → g0.get? b = some o → g4.get? b = some o := fun b o hb e => s4.extBut b o hb (s3.extBut b o hb (s2.extBut b o hb (s1.extBut b o hb e)))
  exact hQ g4 i4 (all _ _ (Ne.symm hne) t0) fun b o hb e => all b o hb (o0 b o hb e)

theorem item_c {Q : Option Value → Shared → Prop} (hit : IsItemIter s.heap it d i l.length ep ok ov) (hd : s.heap.get? d = some (cDict w l ep)) (e : Str × Tok × Value) (hx : l[i]? = some e)
    (hQ : ∀ h', IsItemIterOut h' it d (i + 1) l.length ep (.str e.1 e.2.1) e.2.2 s.heap.objs.size → h'.get? s.heap.objs.size = some (cPair e) →
      (∀ b o, b ≠ it → s.heap.get? b = some o → h'.get? b = some o) → Q (some (.ref s.heap.objs.size)) { s with heap := h' }) :
    wpAny (model prog w) A (pyNext (.ref it)) Q E s := by
  have hT : s.TypeIs (.ref it) "dict_itemiterator" := ⟨_, hit, rfl⟩
  have hlt : i < l.length := (List.getElem?_eq_some_iff.mp hx).1
  have hent : (cEnts w l).toArray[i]? = some ⟨hashStr w e.1, .str e.1 e.2.1, e.2.2⟩ := by simp [cEnts, hx]
  have hsz : (cEnts w l).toArray.size = l.length := by simp [cEnts]
  have hown : Builtin.Dict_items.ownsTuple "dict_itemiterator" = true := by decide
  unfold pyNext
  refine wpAny_bind (wpAny_attempt (wpAny_callSpecial?_slot (name := Str.ofString "__next__") hT F.slot_dict_itemiterator_next
    (wpAny_call_entry F.slot_dict_itemiterator_next hT F.entry_dict_itemiterator_next ?_ (F.args_dict_itemiterator_next_1 _))))
  refine wpAny_bind (wpAny_pure ?_)
  refine wpAny_bind ?_
  refine wpAny_bind (wpAny_bind (wpAny_typeNameOfWhole_itemiter hT (wpAny_pure ?_)))
  refine wpAny_bind (wpAny_fieldsOf hit rfl ?_)
  simp only [hown, if_true]
  show wpAny _ _ (if (Value.ref d == Value.none) = true then _ else _) _ _ s
  rw [if_neg (show ¬ ((Value.ref d == Value.none) = true) from Bool.false_ne_true)]
  refine wpAny_bind (wpAny_pure ?_)
  refine wpAny_bind (wpAny_dictEntries hd rfl ?_)
  rw [if_neg (by rw [hsz]; simp)]
  refine wpAny_bind (wpAny_pure ?_)
  refine wpAny_bind (wpAny_dictEpoch hd rfl ?_)
  rw [if_neg (by simp)]
  refine wpAny_pure ?_
  simp only [show ¬ ((i : Int) < 0) from by omega, if_false, Int.toNat_natCast, hent]
  refine wpAny_bind (wpAny_bind (wpAny_typeNameOfWhole_itemiter hT (wpAny_pure ?_)))
  refine wpAny_bind (wpAny_isOneOf_itemiter hT ?_)
  show wpAny _ _ (setField (.ref it) 3 (rawInt ((i : Int) + 1)) >>= _) _ _ s
  refine wpAny_bind (wpAny_setField_rec hit (by simp) fun g1 i1 s1 => ?_)
  replace s1 : Heap.SameBut it s.heap g1 := s1
  replace i1 : IsItemIter g1 it d (i + 1) l.length ep ok ov := by
    have q : ((i + 1 : Nat) : Int) = (i : Int) + 1 := by omega
    unfold IsItemIter; rw [q]; simpa [rawInt] using i1
  have T1 : Shared.TypeIs { s with heap := g1 } (.ref it) "dict_itemiterator" := ⟨_, i1, rfl⟩
  refine wpAny_bind (wpAny_holding ?_)
  refine wpAny_bind (wpAny_isOneOf_itemiter T1 ?_)
  refine wpAny_bind (wpAny_isOneOf_itemiter T1 ?_)
  show wpAny _ _ (Builtin.Dict_items.pairFromOwner (.ref it) 6 (.str e.1 e.2.1) e.2.2) _ _ { s with heap := g1 }
  have hz : g1.objs.size = s.heap.objs.size := s1.1
  refine owner_c i1 fun g2 i2 t2 o2 => ?_
  refine wpAny_pure ⟨_, rfl, wpAny_pure ?_⟩
  have t2' : g2.get? g1.objs.size = some (cPair e) := t2
  show Q (some (.ref g1.objs.size)) { s with heap := g2 }
  rw [hz] at i2 t2' ⊢
  exact hQ g2 i2 t2' fun b o hb q => o2 b o hb (s1.extBut b o hb q)

theorem cPairs : ∀ l : List (Str × Tok × Value), Pairs (PySem.strKind prog w) (cEnts w l) (l.map fun e => (e.1, e.2.2))
  | [] => Pairs.nil
  | e :: r => Pairs.cons (by simp [PySem.strKind, Value.isStrOf]) rfl (cPairs r)
theorem cDict_at (hd : s.heap.get? d = some (cDict w l ep)) (hn : (l.map (·.1)).Nodup) : s.heap.DictAt (PySem.strKind prog w) d (l.map fun e => (e.1, e.2.2)) ep := by
  refine ⟨_, _, hd, ⟨rfl, rfl, rfl⟩, rfl, cEnts_keys l, ?_, ?_⟩
  · simpa using cPairs l
  · rw [List.map_map]; exact hn

theorem turns_c {elts : List Expr} {kk : Nat} {pos : Pos} {I : Addr} (hh : A.handled = none) (hne : d ≠ I) (hn : (l.map (·.1)).Nodup) :
    KTurns prog w A (.Tuple elts kk pos) I [I, d] [I] l.length
      (fun i v h => ∃ T e, v = .ref T ∧ l[i]? = some e ∧ h.get? T = some (cPair e))
      (fun i v h => ∃ T e, v = .ref T ∧ l[i]? = some e ∧ h.get? T = some (cPair e) ∧ (∃ ok ov, IsItemIterOut h I d (i + 1) l.length ep ok ov T) ∧ h.get? d = some (cDict w l ep) ∧ T ≠ I)
      (fun i h => (∃ ok ov, IsItemIter h I d i l.length ep ok ov) ∧ h.get? d = some (cDict w l ep)) where
  sub := fun b hb => by rw [List.mem_singleton.mp hb]; exact List.mem_cons_self ..
  frame := fun i h h' st hk => by
    obtain ⟨⟨ok, ov, he⟩, hm⟩ := st
    exact ⟨⟨ok, ov, hk I (List.mem_cons_self ..) _ he⟩, hk d (List.mem_cons_of_mem _ (List.mem_singleton.mpr rfl)) _ hm⟩
  item := fun i s Q E hi st hQ => by
    obtain ⟨⟨ok, ov, he⟩, hm⟩ := st
    refine item_c he hm l[i] (List.getElem?_eq_getElem hi) fun h' ho hT hk => ?_
    exact hQ (.ref s.heap.objs.size) h' s.toks ⟨_, _, rfl, List.getElem?_eq_getElem hi, hT, ⟨_, _, ho⟩, hk d _ hne hm, Nat.ne_of_gt (Heap.lt_size he)⟩ fun b o hb e => hk b o (fun q => hb (List.mem_singleton.mpr q)) e
  go := fun i v s Q E hm hQ => by
    obtain ⟨T, e, rfl, hx, hT, ⟨ok, ov, ho⟩, hd, hTI⟩ := hm
    refine wpAny_letOwnedTupleGo_items ho fun h' he hs => ?_
    exact hQ h' ⟨T, e, rfl, hx, hs.extBut T _ hTI hT⟩ ⟨⟨ok, ov, he⟩, hs.extBut d _ hne hd⟩ fun b o hb q => hs.extBut b o (fun x => hb (List.mem_singleton.mpr x)) q
  done := fun s Q E st hQ => by
    obtain ⟨⟨ok, ov, he⟩, hm⟩ := st
    have hlen : l.length = (l.map fun e => (e.1, e.2.2)).length := by simp
    have hD := cDict_at (prog := prog) hm hn
    rw [hlen] at he
    exact wpAny_pyNext_items_end hh he hD (by simp) fun h' hx => hQ h' s.toks fun b o hb e => hx b o (fun q => hb (List.mem_singleton.mpr q)) e

variable {h₀ : Heap} {L : Addr} {m : Str → Option Value} {news : List (Addr × Obj)}
theorem method_c {name : Str} {id : String} {pl : Sem Bool} {Q : Value × List Value → Shared → Prop} (slot : Slot "dict" name id) (hty : typeOf (.builtin id) = pure (.type "method_descriptor"))
    (hd : s.heap.get? d = some (cDict w l ep)) (hn : (l.map (·.1)).Nodup) (h : Q (.builtin id, [.ref d]) s) : wpAny (model prog w) A (getMethod (.ref d) name pl) Q E s :=
  have hD := (cDict_at (prog := prog) hd hn).dictOf
  getMethod_builtin hD.typeIs PySem.F.plainAttrs_dict slot hty hD.mapOf.noDict h
theorem items_c {Q : Value → Shared → Prop} (hd : s.heap.get? d = some (cDict w l ep)) (hn : (l.map (·.1)).Nodup) (hS : (d == sysModules) = false)
    (h : Q (.ref s.heap.objs.size) { s with heap := s.heap.push { cls := .type "dict_items", data := .fields #[.ref d] } }) :
    wpAny (model prog w) A (call (.builtin "dict.items") [.ref d]) Q E s :=
  have hD := (cDict_at (prog := prog) hd hn).dictOf
  call_meetsIn PySem.F.slot_dict_items hD.typeIs PySem.F.entry_dict_items (PySem.F.args_dict_items_1 _) (meets_dict_items (PySem.strKind prog w) d hS) ⟨⟨_, hD⟩, h⟩
end
end
section
section
variable {prog : Program} {w : World} {A : Around} {E : Value → Shared → Prop} {s : Shared} {d it L fa : Addr} {l : List (Str × Tok × Value)} {i ep : Nat} {ok ov : Value} {h₀ : Heap} {m : Str → Option Value} {news : List (Addr × Obj)}
  {cn : Str} {cs : Scope} {ccd : Value}

def ForEnd (h₀ : Heap) (L : Addr) (all : List (Addr × Obj)) (J : (Str → Option Value) → Prop) (s₁ : Shared) (f : Flow) (s₂ : Shared) : Prop :=
  f = .next ∧ ∃ h' tk m₂, s₂ = { s₁ with heap := h', toks := tk } ∧ Fr h₀ L h' m₂ ∧ News h₀ L h' all ∧ J m₂
theorem ForEnd.intro {h' : Heap} {all : List (Addr × Obj)} {J : (Str → Option Value) → Prop} {s₁ : Shared} {tk : Nat} {m₂ : Str → Option Value} (F : Fr h₀ L h' m₂) (N : News h₀ L h' all) (j : J m₂) :
    ForEnd h₀ L all J s₁ .next { s₁ with heap := h', toks := tk } := ⟨rfl, h', tk, m₂, rfl, F, N, j⟩

theorem forItems_c {elts : List Expr} {kk : Nat} {tp p1 p2 p3 pos : Pos} {nm : Str} {body : List Stmt} {pl : Sem Bool} {Q : Flow → Shared → Prop} (J : Nat → (Str → Option Value) → Prop)
    (hh : A.handled = none) (F : Fr h₀ L s.heap m) (N : News h₀ L s.heap news) (hv : m nm = some (.ref d)) (hm : (d, cDict w l ep) ∈ news) (hn : (l.map (·.1)).Nodup) (hS : (d == sysModules) = false) (h0 : J 0 m)
    (turn : ∀ i e T m₁ h₁ tk₁ own, l[i]? = some e → IsTup h₁ T #[.str e.1 e.2.1, e.2.2] → J i m₁ → Fr h₀ L h₁ m₁ → News h₀ L h₁ (own ++ news) →
      wpAny (model prog w) A (assign (.Tuple elts kk tp) (envOf cn cs L fa ccd) (.ref T)) (fun _ s₃ => wpAny (model prog w) A (execs body (envOf cn cs L fa ccd))
        (ForEnd h₀ L (own ++ news) (J (i + 1)) { s with heap := h₁, toks := tk₁ }) E s₃) E { s with heap := h₁, toks := tk₁ })
    (done : ∀ h' tk m', Fr h₀ L h' m' → News h₀ L h' news → J l.length m' → Q .next { s with heap := h', toks := tk })
    (hk : cs.kind = .function := by rfl) (hx : (envOf cn cs L fa ccd).kindOf nm = some .local := by rfl) (hd : (nm == ("__debug__" : Str)) = false := by decide)
    (hE : PassesOwn (model prog w) A (envOf cn cs L fa ccd) E := by passes_own)
    (he : eval (.Call (.Attribute (.Name nm p1) (Str.ofString "items") p2) [] [] p3) (envOf cn cs L fa ccd) = (do
      let ov ← eval (.Name nm p1) (envOf cn cs L fa ccd)
      standAt p2.atName
      let (f, first) ← holding [ov] (getMethod ov (Str.ofString "items") pl)
      callWith p3 f first (backTo p3 (starEach [] (envOf cn cs L fa ccd))) []) := by rfl) :
    wpAny (model prog w) A (exec (.For (.Tuple elts kk tp) (.Call (.Attribute (.Name nm p1) (Str.ofString "items") p2) [] [] p3) body [] pos) (envOf cn cs L fa ccd)) Q E s := by
  have hdN := N _ hm
  have hdL : d ≠ L := hdN.2.1
  have hd0 : h₀.get? d = none := hdN.2.2
  refine For_turns (env := envOf cn cs L fa ccd) F ?_ (hE := hE)
  refine MethodCall_ (pl := pl) ?_ (he := he)
  refine ld F hv ?_ hk hx hd
  refine method_c PySem.F.slot_dict_items PySem.F.type_dict_items hdN.1 hn ?_
  refine callWith_method0 ?_
  refine items_c hdN.1 hn hS ?_
  have hdlt : d < s.heap.objs.size := Heap.lt_size hdN.1
  have hD1 := cDict_at (prog := prog) (s := { s with heap := s.heap.push { cls := .type "dict_items", data := .fields #[.ref d] } }) (Heap.get?_push_of_some _ hdN.1) hn
  refine wpAny_pyIter_items ⟨_, Heap.get?_push_size _ rfl, rfl, rfl⟩ hD1 ?_
  generalize hg : (s.heap.push { cls := .type "dict_items", data := .fields #[.ref d] }) = g at hD1
  have Fg : Fr h₀ L g m := by rw [← hg]; exact F.push _
  have Ng : News h₀ L g news := fun p hp => by rw [← hg]; exact ⟨Heap.get?_push_of_some _ (N p hp).1, (N p hp).2⟩
  have hlen : (l.map fun e => (e.1, e.2.2)).length = l.length := by simp
  have hne : d ≠ g.objs.size := Nat.ne_of_lt (Heap.lt_size (Ng _ hm).1)
  have hIL : L ≠ g.objs.size := Nat.ne_of_lt Fg.ns.lt
  have hI0 : h₀.get? g.objs.size = none := next_is_new Fg
  show TurnsAt prog w A h₀ (envOf cn cs L fa ccd) _ body Q E _ _
  refine ⟨g.objs.size, [g.objs.size, d], [g.objs.size], l.length, _, _, _, m, news, (fun i m' n' => n' = news ∧ J i m'), rfl, turns_c (ep := ep) hh hne hn, ?_, ?_, ?_, ?_, ?_, ?_, ?_, ?_, ?_⟩
  · intro hL
    simp only [List.mem_cons, List.not_mem_nil, or_false] at hL
    rcases hL with e | e
    · exact hIL e
    · exact hdL e.symm
  · intro b hb
    rw [List.mem_singleton.mp hb]; exact hI0
  · intro p hp hI
    exact absurd (Heap.lt_size (Ng p hp).1) ((List.mem_singleton.mp hI) ▸ Nat.lt_irrefl _)
  · refine ⟨⟨.none, .none, ?_⟩, Heap.get?_push_of_some _ (Ng _ hm).1⟩
    rw [← hlen]
    exact Heap.get?_push_size _ rfl
  · exact Fg.push _
  · exact fun p hp => ⟨Heap.get?_push_of_some _ (Ng p hp).1, (Ng p hp).2⟩
  · exact ⟨rfl, h0⟩
  · rintro i v m₁ news₁ h₁ tk₁ own hi ⟨T, e, rfl, hx', hT⟩ ⟨rfl, hJ⟩ hnw _ _ _ _ F₁ N₁
    refine wpAny_mono (turn i e T m₁ h₁ tk₁ own hx' ⟨_, hT, rfl, _, rfl⟩ hJ F₁ N₁) (fun _ s₃ q => wpAny_mono q (fun f s₄ r => ?_) fun _ _ x => x) fun _ _ x => x
    obtain ⟨rfl, h', tk, m₂, rfl, F₂, N₂, j⟩ := r
    exact ⟨rfl, h', tk, m₂, news₁, rfl, F₂, N₂, hnw, rfl, j⟩
  · rintro h' tk m' news' F' N' _ ⟨rfl, j⟩
    exact done h' tk m' F' N' j
end
end
section
theorem startRepl : True := by
  k_with_none
  w_top off
  k_with "m_sub" => (intro p9 hp9; repeat (first | exact hp9 | refine List.mem_cons_of_mem _ ?_))
  k_with "m_lt" => (first | with_reducible assumption | (apply allLt_mem; first | with_reducible assumption | exact And.right (by with_reducible assumption) | exact And.right (And.right (by with_reducible assumption)) | exact And.right (And.right (And.right (by with_reducible assumption)))))
  k_with "m_enter" => (k_dflt (refine' code_def ?z9k1 ?z9k2 ?z9k3 ?z9k4 ?z9k5 ?z9kA ?z9kF ?z9kK ?z9k6 ?z9k7 ?z9k8 ?z9k9 ?z9kB ?_ ?z9c2 ?z9c3 ?z9c4 ?z9c5; (case z9kA => exact rfl); (case z9kF => exact rfl); (case z9kK => assumption); (case z9k1 => k_asm); (case z9k2 => k_asm); (case z9k3 => k_asm); (case z9k4 => k_asm); (case z9k5 => k_asm); (case z9k6 => k_is); (case z9k7 => k_is); (case z9k8 => ktr_room); (case z9k9 => first | exact BindsTo.of_eq rfl | exact binds_K (by k_in) rfl (by k_is) rfl rfl rfl); (case z9c5 => decide); (case z9kB => exact locs rfl); (case z9c2 => exact rfl); (case z9c3 => exact rfl); (case z9c4 => exact rfl); k_whole; intro g' L' h' FG' F' N' B' X' T'; (try dsimp only); (try k_lift B'); (try k_fold)))
  k_with "m_enterC" => (k_dflt (refine' code_defC ?z9k1 ?z9k2 ?z9k3 ?z9k4 ?z9k5 ?z9kA ?z9kF ?z9kK ?z9k6 ?z9k7 ?z9k8 ?z9k9 ?z9kB ?z9kD ?_ ?z9c2 ?z9c3 ?z9c4; (case z9kA => exact rfl); (case z9kF => exact rfl); (case z9kK => assumption); (case z9k1 => k_asm); (case z9k2 => k_asm); (case z9k3 => k_asm); (case z9k4 => k_asm); (case z9k5 => k_asm); (case z9k6 => k_is); (case z9k7 => k_is); (case z9k8 => ktr_room); (case z9k9 => first | exact BindsTo.of_eq rfl | exact binds_K (by k_in) rfl (by k_is) rfl rfl rfl); (case z9kB => exact rfl); (case z9kD => decide +kernel); (case z9c2 => exact rfl); (case z9c3 => exact rfl); (case z9c4 => exact rfl); k_whole; intro g' L' h' tk' cells' FG' F' N' Y' B' X' T' l1; (try k_lt l1); k_cells Y'; (try simp only [List.cons_append, List.nil_append] at N'); (try dsimp only); (try k_lift B'); (try k_fold)))
  k_with "call builtin:str.replace" => (k_here; (with_reducible show wpAny _ _ (call (Value.builtin "str.replace") [Value.str _ _, Value.str _ _, Value.str _ _]) _ _ _); (refine SC.replace (by with_reducible assumption) (by with_reducible assumption) (by with_reducible assumption) (by with_reducible assumption) (by with_reducible assumption) ?_); intro _ _)
  trivial
/-- a dict of texts: key, its token, value, its token -/
abbrev L4 := List (Str × Tok × Str × Tok)
def toC (l : L4) : List (Str × Tok × Value) := l.map fun e => (e.1, e.2.1, .str e.2.2.1 e.2.2.2)
def replF (x : Str) (l : L4) : Str := l.foldl (fun y e => Txt.replace y e.1 e.2.2.1) x
structure Good4 (x : Str) (l : L4) : Prop where
  nodup : ((toC l).map (·.1)).Nodup
  toks : ∀ e ∈ l, e.2.1 ≠ 0 ∧ e.2.2.2 ≠ 0 ∧ e.2.1 ≠ e.2.2.2 ∧ (e.1 == e.2.2.1) = false
  size : ∀ i e, l[i]? = some e → (replF x (l.take i)).length + ((replF x (l.take i)).length + 1) * e.2.2.1.length ≤ 16777216

def ReplJ (x : Str) (l : L4) (i : Nat) (m : Str → Option Value) : Prop := ∃ (U : Str → Option Value) (u : Tok), m = fun y => if y = Str.ofString "s" then some (.str (replF x (l.take i)) u) else U y
theorem split_at {m : Str → Option Value} {k : Str} {v : Value} (h : m k = some v) : m = fun y => if y = k then some v else m y := by
  funext y
  by_cases e : y = k
  · rw [if_pos e, e, h]
  · rw [if_neg e]
theorem replJ_of {x y : Str} {l : L4} {i : Nat} {U : Str → Option Value} {u : Tok} (h : y = replF x (l.take i)) : ReplJ x l i (fun z => if z = Str.ofString "s" then some (.str y u) else U z) := ⟨U, u, by rw [h]⟩
theorem toC_get {l : L4} {i : Nat} {e : Str × Tok × Value} (h : (toC l)[i]? = some e) : ∃ q : Str × Tok × Str × Tok, l[i]? = some q ∧ e = (q.1, q.2.1, .str q.2.2.1 q.2.2.2) := by
  unfold toC at h
  rw [List.getElem?_map] at h
  obtain ⟨q, hq, rfl⟩ := Option.map_eq_some_iff.mp h
  exact ⟨q, hq, rfl⟩
theorem replF_snoc {x : Str} {l : L4} {i : Nat} {q : Str × Tok × Str × Tok} (h : l[i]? = some q) : Txt.replace (replF x (l.take i)) q.1 q.2.2.1 = replF x (l.take (i + 1)) := by
  rw [List.take_add_one, h]
  simp [replF, List.foldl_append]
theorem toC_len (l : L4) : (toC l).length = l.length := by simp [toC]

theorem replace_all (w : World) (x : Str) (t : Tok) (d : Addr) (l : L4) (n : Nat) (G : Good4 x l) (hS : (d == sysModules) = false) :
    TellsS 4 w 28 [.str x t, .ref d] (fun news => (d, cDict w (toC l) n) ∈ news) (replF x l) := by
  unfold TellsS Tells
  intro p loose mean mg mb dp un gd cn cs a ccd cl outer A₀ base h₀ L m news s Q E B F X N T hk hneed hd hu hret
  refine wpAny_call ?_
  k_dflt cell_enter
  k_steps
  refine forItems_c (ReplJ x l) rfl (by k_asm) (by k_asm) rfl hneed G.nodup hS ⟨_, t, split_at rfl⟩ ?_ ?_
  · intro i e T m₁ h₁ tk₁ own hx hT hJ F₁ N₁
    obtain ⟨q, hq, rfl⟩ := toC_get hx
    obtain ⟨U, u, rfl⟩ := hJ
    have g1 := G.toks q (List.mem_of_getElem? hq)
    have g2 := G.size i q hq
    obtain ⟨g3, g4, g5, g6⟩ := g1
    dsimp only at hT
    k_steps
    refine' ForEnd.intro ?F ?N ?j
    case F => k_asm
    case N => k_asm
    case j => exact replJ_of (replF_snoc hq)
  · intro h' tk m' F' N' hJ
    obtain ⟨U, u, rfl⟩ := hJ
    rw [toC_len, List.take_length] at F'
    k_steps
    refine' retS hret ?F ?N ?hs ?e
    case F => k_asm
    case N => k_asm
    case hs => exact fun p hp => hp
    case e => rfl
end
section
local macro_rules | `(tactic| k_mem) => `(tactic| with_reducible assumption)
theorem startEsc : True := by
  k_with_none
  w_top off
  k_with "m_sub" => (intro p9 hp9; repeat (first | exact hp9 | refine List.mem_cons_of_mem _ ?_))
  k_with "m_lt" => (first | with_reducible assumption | (apply allLt_mem; first | with_reducible assumption | exact And.right (by with_reducible assumption) | exact And.right (And.right (by with_reducible assumption)) | exact And.right (And.right (And.right (by with_reducible assumption)))))
  k_with "m_enter" => (k_dflt (refine' code_def ?z9k1 ?z9k2 ?z9k3 ?z9k4 ?z9k5 ?z9kA ?z9kF ?z9kK ?z9k6 ?z9k7 ?z9k8 ?z9k9 ?z9kB ?_ ?z9c2 ?z9c3 ?z9c4 ?z9c5; (case z9kA => exact rfl); (case z9kF => exact rfl); (case z9kK => assumption); (case z9k1 => k_asm); (case z9k2 => k_asm); (case z9k3 => k_asm); (case z9k4 => k_asm); (case z9k5 => k_asm); (case z9k6 => k_is); (case z9k7 => k_is); (case z9k8 => ktr_room); (case z9k9 => first | exact BindsTo.of_eq rfl | exact binds_K (by k_in) rfl (by k_is) rfl rfl rfl); (case z9c5 => decide); (case z9kB => exact locs rfl); (case z9c2 => exact rfl); (case z9c3 => exact rfl); (case z9c4 => exact rfl); k_whole; intro g' L' h' FG' F' N' B' X' T'; (try dsimp only); (try k_lift B'); (try k_fold)))
  k_with "m_enterC" => (k_dflt (refine' code_defC ?z9k1 ?z9k2 ?z9k3 ?z9k4 ?z9k5 ?z9kA ?z9kF ?z9kK ?z9k6 ?z9k7 ?z9k8 ?z9k9 ?z9kB ?z9kD ?_ ?z9c2 ?z9c3 ?z9c4; (case z9kA => exact rfl); (case z9kF => exact rfl); (case z9kK => assumption); (case z9k1 => k_asm); (case z9k2 => k_asm); (case z9k3 => k_asm); (case z9k4 => k_asm); (case z9k5 => k_asm); (case z9k6 => k_is); (case z9k7 => k_is); (case z9k8 => ktr_room); (case z9k9 => first | exact BindsTo.of_eq rfl | exact binds_K (by k_in) rfl (by k_is) rfl rfl rfl); (case z9kB => exact rfl); (case z9kD => decide +kernel); (case z9c2 => exact rfl); (case z9c3 => exact rfl); (case z9c4 => exact rfl); k_whole; intro g' L' h' tk' cells' FG' F' N' Y' B' X' T' l1; (try k_lt l1); k_cells Y'; (try simp only [List.cons_append, List.nil_append] at N'); (try dsimp only); (try k_lift B'); (try k_fold)))
  k_with "call builtin:str.replace" => (k_here; (with_reducible show wpAny _ _ (call (Value.builtin "str.replace") [Value.str _ _, Value.str _ _, Value.str _ _]) _ _ _); (refine SC.replace (by with_reducible assumption) (by with_reducible assumption) (by with_reducible assumption) (by with_reducible assumption) (by with_reducible assumption) ?_); intro _ _)
  k_with "execs cons" => (k_here; (with_reducible show wpAny _ _ (execs _ _) _ _ (Shared.mk _ _ _ (_ + _) _)); (refine gentoks 1 (by first | omega | exact pos_add (Nat.le_of_ble_eq_true rfl)) ?_); intro tk9 htk9)
  k_with "execs nil" => (k_here; (with_reducible show wpAny _ _ (execs _ _) _ _ (Shared.mk _ _ _ (_ + _) _)); (refine gentoks 1 (by first | omega | exact pos_add (Nat.le_of_ble_eq_true rfl)) ?_); intro tk9 htk9)
  k_with "call builtin:str.replace" => (k_here; (with_reducible show wpAny _ _ (call (Value.builtin "str.replace") [Value.str _ _, Value.str _ _, Value.str _ _]) _ _ _); (refine SC.replace (by (show @Ne Nat _ _); omega) (by (show @Ne Nat _ _); omega) (by (show @Ne Nat _ _); omega) (by decide +kernel) (by with_reducible assumption) ?_); intro _ _)
  k_with "truthy ref" => (k_here; (refine truthy_c (News.get (by k_asm) (by k_mem)) (by with_reducible assumption) (by with_reducible assumption) (by with_reducible assumption) (by with_reducible assumption) ?_); intro _)
  k_with "call ref" => (k_here; (with_reducible show wpAny _ _ (call (Value.ref 28) [Value.str _ _, Value.ref _]) _ _ _); (refine' tells_use (replace_all _ _ _ _ _ _ ?z9G ?z9S) ?z9B ?z9F ?z9X ?z9N ?z9T ?z9hk ?z9hn ?z9h1 ?z9h2 ?_; (case z9G => with_reducible assumption); (case z9S => with_reducible assumption); (case z9B => k_asm); (case z9F => k_asm); (case z9X => k_asm); (case z9N => k_asm); (case z9T => k_asm); (case z9hk => first | exact rfl | assumption); (case z9hn => k_mem); (case z9h1 => ktr_room); (case z9h2 => ktr_units)); intro r9 tl9 h' tk9 F' N' l9 ho9; obtain ⟨ho9, t9, hr9⟩ := ho9; subst ho9; subst hr9; (try simp only [List.nil_append] at N'))
  trivial
section
variable {prog : Program} {w : World} {A : Around} {E : Value → Shared → Prop} {s : Shared} {d : Addr} {l : List (Str × Tok × Value)} {n : Nat}
theorem truthy_c {Q : Bool → Shared → Prop} (hd : s.heap.get? d = some (cDict w l n)) (hn : (l.map (·.1)).Nodup) (hS : (d == sysModules) = false) (hl : l.length ≤ 100) (hne : l.isEmpty = false)
    (h : ∀ k, Q true { s with toks := k }) : wpAny (model prog w) A (truthy (.ref d)) Q E s := by
  have hD := (cDict_at (prog := prog) hd hn).dictOf
  refine wpAny_truthy_dict hS hD (by rw [List.length_map]; omega) ?_
  have e : (l.map fun e => (e.1, e.2.2)).isEmpty = l.isEmpty := by cases l <;> rfl
  rw [e, hne]; exact h _
end
/-- the three first changes of escape -/
abbrev esc3 (x : Str) : Str := Txt.replace (Txt.replace (Txt.replace x (Str.ofString "&") (Str.ofString "&amp;")) (Str.ofString ">") (Str.ofString "&gt;")) (Str.ofString "<") (Str.ofString "&lt;")
structure Esc3Ok (x : Str) : Prop where
  s1 : x.length + (x.length + 1) * (Str.ofString "&amp;").length ≤ 16777216
  s2 : (Txt.replace x (Str.ofString "&") (Str.ofString "&amp;")).length + ((Txt.replace x (Str.ofString "&") (Str.ofString "&amp;")).length + 1) * (Str.ofString "&gt;").length ≤ 16777216
  s3 : (Txt.replace (Txt.replace x (Str.ofString "&") (Str.ofString "&amp;")) (Str.ofString ">") (Str.ofString "&gt;")).length + ((Txt.replace (Txt.replace x (Str.ofString "&") (Str.ofString "&amp;")) (Str.ofString ">") (Str.ofString "&gt;")).length + 1) * (Str.ofString "&lt;").length ≤ 16777216


theorem escape_c (w : World) (x : Str) (t : Tok) (d : Addr) (l : L4) (n : Nat) (K : Esc3Ok x) (G : Good4 (esc3 x) l) (hl : l.length ≤ 10) (hne : (toC l).isEmpty = false) (hS : (d == sysModules) = false) :
    TellsS 8 w 37 [.str x t, .ref d] (fun news => (d, cDict w (toC l) n) ∈ news) (replF (esc3 x) l) := by
  unfold TellsS Tells
  intro p loose mean mg mb dp un gd cn cs a ccd cl outer A₀ base h₀ L m news s Q E B F X N T hk hneed hd hu hret
  have c1 := K.s1
  have c2 := K.s2
  have c3 := K.s3
  have c4 := G.nodup
  have c5 : (toC l).length ≤ 100 := by rw [toC_len]; omega
  refine wpAny_call ?_
  walk_at "m_enter"
  k_steps
  all_goals (refine' retS hret ?F ?N ?hs ?e; (case F => k_asm); (case N => k_asm); (case hs => walk_at "m_sub"); (case e => rfl))
end
section
local macro_rules | `(tactic| k_mem) => `(tactic| with_reducible assumption)
theorem startUne : True := by
  k_with_none
  w_top off
  k_with "m_sub" => (intro p9 hp9; repeat (first | exact hp9 | refine List.mem_cons_of_mem _ ?_))
  k_with "m_lt" => (first | with_reducible assumption | (apply allLt_mem; first | with_reducible assumption | exact And.right (by with_reducible assumption) | exact And.right (And.right (by with_reducible assumption)) | exact And.right (And.right (And.right (by with_reducible assumption)))))
  k_with "m_enter" => (k_dflt (refine' code_def ?z9k1 ?z9k2 ?z9k3 ?z9k4 ?z9k5 ?z9kA ?z9kF ?z9kK ?z9k6 ?z9k7 ?z9k8 ?z9k9 ?z9kB ?_ ?z9c2 ?z9c3 ?z9c4 ?z9c5; (case z9kA => exact rfl); (case z9kF => exact rfl); (case z9kK => assumption); (case z9k1 => k_asm); (case z9k2 => k_asm); (case z9k3 => k_asm); (case z9k4 => k_asm); (case z9k5 => k_asm); (case z9k6 => k_is); (case z9k7 => k_is); (case z9k8 => ktr_room); (case z9k9 => first | exact BindsTo.of_eq rfl | exact binds_K (by k_in) rfl (by k_is) rfl rfl rfl); (case z9c5 => decide); (case z9kB => exact locs rfl); (case z9c2 => exact rfl); (case z9c3 => exact rfl); (case z9c4 => exact rfl); k_whole; intro g' L' h' FG' F' N' B' X' T'; (try dsimp only); (try k_lift B'); (try k_fold)))
  k_with "m_enterC" => (k_dflt (refine' code_defC ?z9k1 ?z9k2 ?z9k3 ?z9k4 ?z9k5 ?z9kA ?z9kF ?z9kK ?z9k6 ?z9k7 ?z9k8 ?z9k9 ?z9kB ?z9kD ?_ ?z9c2 ?z9c3 ?z9c4; (case z9kA => exact rfl); (case z9kF => exact rfl); (case z9kK => assumption); (case z9k1 => k_asm); (case z9k2 => k_asm); (case z9k3 => k_asm); (case z9k4 => k_asm); (case z9k5 => k_asm); (case z9k6 => k_is); (case z9k7 => k_is); (case z9k8 => ktr_room); (case z9k9 => first | exact BindsTo.of_eq rfl | exact binds_K (by k_in) rfl (by k_is) rfl rfl rfl); (case z9kB => exact rfl); (case z9kD => decide +kernel); (case z9c2 => exact rfl); (case z9c3 => exact rfl); (case z9c4 => exact rfl); k_whole; intro g' L' h' tk' cells' FG' F' N' Y' B' X' T' l1; (try k_lt l1); k_cells Y'; (try simp only [List.cons_append, List.nil_append] at N'); (try dsimp only); (try k_lift B'); (try k_fold)))
  k_with "call builtin:str.replace" => (k_here; (with_reducible show wpAny _ _ (call (Value.builtin "str.replace") [Value.str _ _, Value.str _ _, Value.str _ _]) _ _ _); (refine SC.replace (by with_reducible assumption) (by with_reducible assumption) (by with_reducible assumption) (by with_reducible assumption) (by with_reducible assumption) ?_); intro _ _)
  k_with "execs cons" => (k_here; (with_reducible show wpAny _ _ (execs _ _) _ _ (Shared.mk _ _ _ (_ + _) _)); (refine gentoks 1 (by first | omega | exact pos_add (Nat.le_of_ble_eq_true rfl)) ?_); intro tk9 htk9)
  k_with "execs nil" => (k_here; (with_reducible show wpAny _ _ (execs _ _) _ _ (Shared.mk _ _ _ (_ + _) _)); (refine gentoks 1 (by first | omega | exact pos_add (Nat.le_of_ble_eq_true rfl)) ?_); intro tk9 htk9)
  k_with "call builtin:str.replace" => (k_here; (with_reducible show wpAny _ _ (call (Value.builtin "str.replace") [Value.str _ _, Value.str _ _, Value.str _ _]) _ _ _); (refine SC.replace (by (show @Ne Nat _ _); omega) (by (show @Ne Nat _ _); omega) (by (show @Ne Nat _ _); omega) (by decide +kernel) (by with_reducible assumption) ?_); intro _ _)
  k_with "truthy ref" => (k_here; (refine truthy_c (News.get (by k_asm) (by k_mem)) (by with_reducible assumption) (by with_reducible assumption) (by with_reducible assumption) (by with_reducible assumption) ?_); intro _)
  k_with "call ref" => (k_here; (with_reducible show wpAny _ _ (call (Value.ref 28) [Value.str _ _, Value.ref _]) _ _ _); (refine' tells_use (replace_all _ _ _ _ _ _ ?z9G ?z9S) ?z9B ?z9F ?z9X ?z9N ?z9T ?z9hk ?z9hn ?z9h1 ?z9h2 ?_; (case z9G => with_reducible assumption); (case z9S => with_reducible assumption); (case z9B => k_asm); (case z9F => k_asm); (case z9X => k_asm); (case z9N => k_asm); (case z9T => k_asm); (case z9hk => first | exact rfl | assumption); (case z9hn => k_mem); (case z9h1 => ktr_room); (case z9h2 => ktr_units)); intro r9 tl9 h' tk9 F' N' l9 ho9; obtain ⟨ho9, t9, hr9⟩ := ho9; subst ho9; subst hr9; (try simp only [List.nil_append] at N'))
  trivial
abbrev une2 (x : Str) : Str := Txt.replace (Txt.replace x (Str.ofString "&lt;") (Str.ofString "<")) (Str.ofString "&gt;") (Str.ofString ">")
abbrev une (x : Str) (l : L4) : Str := Txt.replace (replF (une2 x) l) (Str.ofString "&amp;") (Str.ofString "&")
structure UneOk (x : Str) (l : L4) : Prop where
  s1 : x.length + (x.length + 1) * (Str.ofString "<").length ≤ 16777216
  s2 : (Txt.replace x (Str.ofString "&lt;") (Str.ofString "<")).length + ((Txt.replace x (Str.ofString "&lt;") (Str.ofString "<")).length + 1) * (Str.ofString ">").length ≤ 16777216
  s3 : (replF (une2 x) l).length + ((replF (une2 x) l).length + 1) * (Str.ofString "&").length ≤ 16777216
theorem unescape_c (w : World) (x : Str) (t : Tok) (d : Addr) (l : L4) (n : Nat) (K : UneOk x l) (G : Good4 (une2 x) l) (hl : l.length ≤ 10) (hne : (toC l).isEmpty = false) (hS : (d == sysModules) = false) :
    TellsS 8 w 46 [.str x t, .ref d] (fun news => (d, cDict w (toC l) n) ∈ news) (une x l) := by
  unfold TellsS Tells
  intro p loose mean mg mb dp un gd cn cs a ccd cl outer A₀ base h₀ L m news s Q E B F X N T hk hneed hd hu hret
  have c1 := K.s1
  have c2 := K.s2
  have c3 := K.s3
  have c4 := G.nodup
  have c5 : (toC l).length ≤ 100 := by rw [toC_len]; omega
  refine wpAny_call ?_
  walk_at "m_enter"
  k_steps
  all_goals (refine' retS hret ?F ?N ?hs ?e; (case F => k_asm); (case N => k_asm); (case hs => walk_at "m_sub"); (case e => rfl))
end
section
local macro_rules | `(tactic| k_mem) => `(tactic| with_reducible assumption)
theorem startQuote : True := by
  k_with_none
  w_top off
  k_with "m_sub" => (intro p9 hp9; repeat (first | exact hp9 | refine List.mem_cons_of_mem _ ?_))
  k_with "m_lt" => (first | with_reducible assumption | (apply allLt_mem; first | with_reducible assumption | exact And.right (by with_reducible assumption) | exact And.right (And.right (by with_reducible assumption)) | exact And.right (And.right (And.right (by with_reducible assumption)))))
  k_with "m_enter" => (k_dflt (refine' code_def ?z9k1 ?z9k2 ?z9k3 ?z9k4 ?z9k5 ?z9kA ?z9kF ?z9kK ?z9k6 ?z9k7 ?z9k8 ?z9k9 ?z9kB ?_ ?z9c2 ?z9c3 ?z9c4 ?z9c5; (case z9kA => exact rfl); (case z9kF => exact rfl); (case z9kK => assumption); (case z9k1 => k_asm); (case z9k2 => k_asm); (case z9k3 => k_asm); (case z9k4 => k_asm); (case z9k5 => k_asm); (case z9k6 => k_is); (case z9k7 => k_is); (case z9k8 => ktr_room); (case z9k9 => first | exact BindsTo.of_eq rfl | exact binds_K (by k_in) rfl (by k_is) rfl rfl rfl); (case z9c5 => decide); (case z9kB => exact locs rfl); (case z9c2 => exact rfl); (case z9c3 => exact rfl); (case z9c4 => exact rfl); k_whole; intro g' L' h' FG' F' N' B' X' T'; (try dsimp only); (try k_lift B'); (try k_fold)))
  k_with "m_enterC" => (k_dflt (refine' code_defC ?z9k1 ?z9k2 ?z9k3 ?z9k4 ?z9k5 ?z9kA ?z9kF ?z9kK ?z9k6 ?z9k7 ?z9k8 ?z9k9 ?z9kB ?z9kD ?_ ?z9c2 ?z9c3 ?z9c4; (case z9kA => exact rfl); (case z9kF => exact rfl); (case z9kK => assumption); (case z9k1 => k_asm); (case z9k2 => k_asm); (case z9k3 => k_asm); (case z9k4 => k_asm); (case z9k5 => k_asm); (case z9k6 => k_is); (case z9k7 => k_is); (case z9k8 => ktr_room); (case z9k9 => first | exact BindsTo.of_eq rfl | exact binds_K (by k_in) rfl (by k_is) rfl rfl rfl); (case z9kB => exact rfl); (case z9kD => decide +kernel); (case z9c2 => exact rfl); (case z9c3 => exact rfl); (case z9c4 => exact rfl); k_whole; intro g' L' h' tk' cells' FG' F' N' Y' B' X' T' l1; (try k_lt l1); k_cells Y'; (try simp only [List.cons_append, List.nil_append] at N'); (try dsimp only); (try k_lift B'); (try k_fold)))
  k_with "call builtin:str.replace" => (k_here; (with_reducible show wpAny _ _ (call (Value.builtin "str.replace") [Value.str _ _, Value.str _ _, Value.str _ _]) _ _ _); (refine SC.replace (by with_reducible assumption) (by with_reducible assumption) (by with_reducible assumption) (by with_reducible assumption) (by with_reducible assumption) ?_); intro _ _)
  k_with "execs cons" => (k_here; (with_reducible show wpAny _ _ (execs _ _) _ _ (Shared.mk _ _ _ (_ + _) _)); (refine gentoks 1 (by first | omega | exact pos_add (Nat.le_of_ble_eq_true rfl)) ?_); intro tk9 htk9)
  k_with "execs nil" => (k_here; (with_reducible show wpAny _ _ (execs _ _) _ _ (Shared.mk _ _ _ (_ + _) _)); (refine gentoks 1 (by first | omega | exact pos_add (Nat.le_of_ble_eq_true rfl)) ?_); intro tk9 htk9)
  k_with "call builtin:str.replace" => (k_here; (with_reducible show wpAny _ _ (call (Value.builtin "str.replace") [Value.str _ _, Value.str _ _, Value.str _ _]) _ _ _); (refine SC.replace (by (show @Ne Nat _ _); omega) (by (show @Ne Nat _ _); omega) (by (show @Ne Nat _ _); omega) (by decide +kernel) (by with_reducible assumption) ?_); intro _ _)
  k_with "truthy ref" => (k_here; (refine truthy_c (News.get (by k_asm) (by k_mem)) (by with_reducible assumption) (by with_reducible assumption) (by with_reducible assumption) (by with_reducible assumption) ?_); intro _)
  k_with "call ref" => (k_here; (with_reducible show wpAny _ _ (call (Value.ref 28) [Value.str _ _, Value.ref _]) _ _ _); (refine' tells_use (replace_all _ _ _ _ _ _ ?z9G ?z9S) ?z9B ?z9F ?z9X ?z9N ?z9T ?z9hk ?z9hn ?z9h1 ?z9h2 ?_; (case z9G => with_reducible assumption); (case z9S => with_reducible assumption); (case z9B => k_asm); (case z9F => k_asm); (case z9X => k_asm); (case z9N => k_asm); (case z9T => k_asm); (case z9hk => first | exact rfl | assumption); (case z9hn => k_mem); (case z9h1 => ktr_room); (case z9h2 => ktr_units)); intro r9 tl9 h' tk9 F' N' l9 ho9; obtain ⟨ho9, t9, hr9⟩ := ho9; subst ho9; subst hr9; (try simp only [List.nil_append] at N'))
  trivial
def l3 (tk : Tok) : L4 := [(Str.ofString "\n", tk, Str.ofString "&#10;", tk + 1), (Str.ofString "\r", tk + 2, Str.ofString "&#13;", tk + 2 + 1), (Str.ofString "\t", tk + 2 + 2, Str.ofString "&#9;", tk + 2 + 2 + 1)]
def l1t (t1 t2 : Tok) : L4 := [(Str.ofString "'", t1, Str.ofString "&apos;", t2)]
def q3 (x : Str) : Str := replF (esc3 x) (l3 1)
def q4 (x : Str) : Str := replF (esc3 x) (l1t 1 2 ++ l3 1)
theorem q3_eq (x : Str) (tk : Tok) : replF (esc3 x) (l3 tk) = q3 x := rfl
theorem q4_eq (x : Str) (t1 t2 tk : Tok) : replF (esc3 x) (l1t t1 t2 ++ l3 tk) = q4 x := rfl
abbrev dq : Str := Str.ofString "\""
abbrev tickS : Str := Str.ofString "'"
abbrev qref : Str := Str.ofString "&quot;"
def quoteV (y : Str) : Str := if (Builtin.Str.occurrences y dq 0 y.length 1).isEmpty = true then dq ++ y ++ dq else
  if (Builtin.Str.occurrences y tickS 0 y.length 1).isEmpty = true then tickS ++ y ++ tickS else dq ++ Txt.replace y dq qref ++ dq
theorem quoteV_no {y : Str} (h : (Builtin.Str.occurrences y dq 0 y.length 1).isEmpty = true) : dq ++ y ++ dq = quoteV y := by unfold quoteV; rw [if_pos h]
theorem quoteV_one {y : Str} (h : (Builtin.Str.occurrences y dq 0 y.length 1).isEmpty = false) (h2 : (Builtin.Str.occurrences y tickS 0 y.length 1).isEmpty = true) : tickS ++ y ++ tickS = quoteV y := by unfold quoteV; rw [if_neg (by rw [h]; exact Bool.false_ne_true), if_pos h2]
theorem quoteV_both {y : Str} (h : (Builtin.Str.occurrences y dq 0 y.length 1).isEmpty = false) (h2 : (Builtin.Str.occurrences y tickS 0 y.length 1).isEmpty = false) : dq ++ Txt.replace y dq qref ++ dq = quoteV y := by
  unfold quoteV; rw [if_neg (by rw [h]; exact Bool.false_ne_true), if_neg (by rw [h2]; exact Bool.false_ne_true)]
structure QuoteOk (y : Str) : Prop where
  s1 : y.length ≤ 1000000
  s2 : y.length + (y.length + 1) * qref.length ≤ 16777216
  s3 : (Txt.replace y dq qref).length ≤ 1000000

theorem quote_a (w : World) (x : Str) (t : Tok) (K : Esc3Ok x) (G : ∀ tk, 1 ≤ tk → Good4 (esc3 x) (l3 tk)) (Z : QuoteOk (q3 x)) :
    TellsS 12 w 55 [.str x t] (fun _ => True) (quoteV (q3 x)) := by
  unfold TellsS Tells
  intro p loose mean mg mb dp un gd cn cs a ccd cl outer A₀ base h₀ L m news s Q E B F X N T hk hneed hd hu hret
  have z1 := Z.s1
  have z2 := Z.s2
  have z3 := Z.s3
  refine wpAny_call ?_
  walk_at "m_enter"
  k_steps
  refine quoteDict (l := []) (n := 0) (Top.nolimit (by k_asm)) (by k_asm) (by k_asm) (by rfl) ?ha (by decide +kernel) (by decide +kernel) (by decide) ?_
  case ha =>
    refine (Frag.In.keeps (by k_asm) (Fr.keep (by k_asm))) _ _ ?_
    k_is
  intro D h' tk htk F' N' l1 hDS
  have htk1 : 1 ≤ tk := by first | omega | (dsimp only at htk; omega)
  (try k_lt l1)
  replace N' : News _ _ h' ((D, cDict w (toC (l3 tk)) 3) :: news) := N'
  have C : TellsS 8 w 37 [.str x t, .ref D] (fun news => (D, cDict w (toC (l3 tk)) 3) ∈ news) (q3 x) := escape_c w x t D (l3 tk) 3 K (G tk htk1) (Nat.le_of_ble_eq_true rfl) rfl hDS
  dsimp only
  k_steps
  refine' tells_use C ?B ?F ?X ?N ?T ?hk ?hn ?h1 ?h2 ?_
  case B => k_asm
  case F => k_asm
  case X => k_asm
  case N => k_asm
  case T => k_asm
  case hk => exact rfl
  case hn => exact List.Mem.head _
  case h1 => ktr_room
  case h2 => ktr_units
  rintro r9 tl9 h9 tk9 F9 N9 l9 ⟨rfl, t9, rfl⟩
  simp only [List.nil_append] at N9
  dsimp only
  k_steps
  all_goals ((refine' retS hret ?rF ?rN ?rs ?re; (case rF => k_asm); (case rN => k_asm); (case rs => walk_at "m_sub"); (case re => first | exact quoteV_no (by with_reducible assumption) | exact quoteV_one (by with_reducible assumption) (by with_reducible assumption) | exact quoteV_both (by with_reducible assumption) (by with_reducible assumption))))
theorem quote_b (w : World) (x : Str) (t : Tok) (d : Addr) (t1 t2 : Tok) (n : Nat) (K : Esc3Ok x) (G : ∀ tk, 1 ≤ tk → Good4 (esc3 x) (l1t t1 t2 ++ l3 tk)) (Z : QuoteOk (q4 x)) (hS : (d == sysModules) = false) :
    TellsS 12 w 55 [.str x t, .ref d] (fun news => (d, cDict w (toC (l1t t1 t2)) n) ∈ news) (quoteV (q4 x)) := by
  unfold TellsS Tells
  intro p loose mean mg mb dp un gd cn cs a ccd cl outer A₀ base h₀ L m news s Q E B F X N T hk hneed hd hu hret
  have z1 := Z.s1
  have z2 := Z.s2
  have z3 := Z.s3
  refine wpAny_call ?_
  walk_at "m_enter"
  k_steps
  refine quoteDict (l := toC (l1t t1 t2)) (n := n) (Top.nolimit (by k_asm)) (by k_asm) (by k_asm) (by rfl) ?ha hS (by show [Str.ofString "'", Str.ofString "\n", Str.ofString "\r", Str.ofString "\t"].Nodup; decide +kernel) (Nat.le_of_ble_eq_true rfl) ?_
  case ha => exact News.get (by k_asm) hneed
  intro D h' tk htk F' N' l1 hDS
  have htk1 : 1 ≤ tk := by first | omega | (dsimp only at htk; omega)
  (try k_lt l1)
  replace N' : News _ _ h' ((D, cDict w (toC (l1t t1 t2 ++ l3 tk)) 4) :: news) := N'
  have C : TellsS 8 w 37 [.str x t, .ref D] (fun news => (D, cDict w (toC (l1t t1 t2 ++ l3 tk)) 4) ∈ news) (q4 x) := escape_c w x t D (l1t t1 t2 ++ l3 tk) 4 K (G tk htk1) (Nat.le_of_ble_eq_true rfl) rfl hDS
  dsimp only
  k_steps
  refine' tells_use C ?B ?F ?X ?N ?T ?hk ?hn ?h1 ?h2 ?_
  case B => k_asm
  case F => k_asm
  case X => k_asm
  case N => k_asm
  case T => k_asm
  case hk => exact rfl
  case hn => exact List.Mem.head _
  case h1 => ktr_room
  case h2 => ktr_units
  rintro r9 tl9 h9 tk9 F9 N9 l9 ⟨rfl, t9, rfl⟩
  simp only [List.nil_append] at N9
  dsimp only
  k_steps
  all_goals (refine' retS hret ?rF ?rN ?rs ?re; (case rF => k_asm); (case rN => k_asm); (case rs => walk_at "m_sub"); (case re => first | exact quoteV_no (by with_reducible assumption) | exact quoteV_one (by with_reducible assumption) (by with_reducible assumption) | exact quoteV_both (by with_reducible assumption) (by with_reducible assumption)))
end
section
/-- what quoteattr's writing makes of a sign -/
def val1 (tb mk : Bool) (c : Nat) : List Nat :=
  if c = 38 then [38, 97, 109, 112, 59] else if c = 60 then [38, 108, 116, 59] else if c = 62 then [38, 103, 116, 59] else if c = 10 then [38, 35, 49, 48, 59] else
  if c = 13 then [38, 35, 49, 51, 59] else if c = 9 then [38, 35, 57, 59] else if tb = true ∧ c = 39 then [38, 97, 112, 111, 115, 59] else if mk = true ∧ c = 34 then [38, 113, 117, 111, 116, 59] else [c]
def valAll (tb mk : Bool) (l : List Nat) : List Nat := l.flatMap (val1 tb mk)
/-- the table that _law_value writes -/
def dD (tb mk : Bool) : List (PyData × PyData) :=
  [(.str (Str.ofString "&"), .str (Str.ofString "&amp;")), (.str (Str.ofString "<"), .str (Str.ofString "&lt;")), (.str (Str.ofString ">"), .str (Str.ofString "&gt;")), (.str (Str.ofString "\n"), .str (Str.ofString "&#10;")), (.str (Str.ofString "\r"), .str (Str.ofString "&#13;")), (.str (Str.ofString "\t"), .str (Str.ofString "&#9;"))] ++
  ((if tb = true then [(.str (Str.ofString "'"), .str (Str.ofString "&apos;"))] else []) ++ (if mk = true then [(.str (Str.ofString "\""), .str (Str.ofString "&quot;"))] else []))
theorem v38 : Str.ofString "&amp;" = S [38, 97, 109, 112, 59] := by decide +kernel
theorem v60 : Str.ofString "&lt;" = S [38, 108, 116, 59] := by decide +kernel
theorem v62 : Str.ofString "&gt;" = S [38, 103, 116, 59] := by decide +kernel
theorem v10 : Str.ofString "&#10;" = S [38, 35, 49, 48, 59] := by decide +kernel
theorem v13 : Str.ofString "&#13;" = S [38, 35, 49, 51, 59] := by decide +kernel
theorem v9 : Str.ofString "&#9;" = S [38, 35, 57, 59] := by decide +kernel
theorem v39 : Str.ofString "&apos;" = S [38, 97, 112, 111, 115, 59] := by decide +kernel
theorem v34 : Str.ofString "&quot;" = S [38, 113, 117, 111, 116, 59] := by decide +kernel
theorem k38 : Str.ofString "&" = ⟨#[38]⟩ := by decide +kernel
theorem k60 : Str.ofString "<" = ⟨#[60]⟩ := by decide +kernel
theorem k62 : Str.ofString ">" = ⟨#[62]⟩ := by decide +kernel
theorem k10 : Str.ofString "\n" = ⟨#[10]⟩ := by decide +kernel
theorem k13 : Str.ofString "\r" = ⟨#[13]⟩ := by decide +kernel
theorem k9 : Str.ofString "\t" = ⟨#[9]⟩ := by decide +kernel
theorem k39 : Str.ofString "'" = ⟨#[39]⟩ := by decide +kernel
theorem k34 : Str.ofString "\"" = ⟨#[34]⟩ := by decide +kernel
theorem lookupD (tb mk : Bool) (c : Nat) : (Spec.lookup (.str ⟨#[c]⟩) (dD tb mk)).getD (.str ⟨#[c]⟩) = .str (S (val1 tb mk c)) := by
  unfold dD
  rw [List.cons_append, List.cons_append, List.cons_append, List.cons_append, List.cons_append, List.cons_append, List.nil_append,
    lookup_one k38, lookup_one k60, lookup_one k62, lookup_one k10, lookup_one k13, lookup_one k9]
  unfold val1
  split
  · simp [v38]
  split
  · simp [v60]
  split
  · simp [v62]
  split
  · simp [v10]
  split
  · simp [v13]
  split
  · simp [v9]
  cases tb <;> cases mk <;> simp only [Bool.false_eq_true, if_false, if_true, List.nil_append, List.cons_append, List.append_nil, false_and, true_and, lookup_nil, lookup_one k39, lookup_one k34]
  · rfl
  · split
    · simp [v34]
    · rfl
  · split
    · simp [v39]
    · rfl
  · split
    · simp [v39]
    · split
      · simp [v34]
      · rfl
section
variable {t1 t2 t3 t4 t5 t6 t7 t8 t9 t10 t11 t12 : Tok}
abbrev dPairs (t1 t2 t3 t4 t5 t6 t7 t8 t9 t10 t11 t12 : Tok) : List (Value × Value) := [(.str (Str.ofString "&") t1, .str (Str.ofString "&amp;") t2), (.str (Str.ofString "<") t3, .str (Str.ofString "&lt;") t4), (.str (Str.ofString ">") t5, .str (Str.ofString "&gt;") t6), (.str (Str.ofString "\n") t7, .str (Str.ofString "&#10;") t8), (.str (Str.ofString "\r") t9, .str (Str.ofString "&#13;") t10), (.str (Str.ofString "\t") t11, .str (Str.ofString "&#9;") t12)]
theorem dD_ff : strData (dPairs t1 t2 t3 t4 t5 t6 t7 t8 t9 t10 t11 t12) = dD false false := rfl
theorem dD_tf : PyProof.V.putD (.str (Str.ofString "'")) (.str (Str.ofString "&apos;")) (dD false false) = dD true false := by kernel_rfl
theorem dD_ft : PyProof.V.putD (.str (Str.ofString "\"")) (.str (Str.ofString "&quot;")) (dD false false) = dD false true := by kernel_rfl
theorem dD_tt : PyProof.V.putD (.str (Str.ofString "\"")) (.str (Str.ofString "&quot;")) (dD true false) = dD true true := by kernel_rfl
theorem got_ff {c : Nat} {v : Value} (h : PyProof.V.Flat v ((Spec.lookup (.str ⟨#[c]⟩) (strData (dPairs t1 t2 t3 t4 t5 t6 t7 t8 t9 t10 t11 t12))).getD (.str ⟨#[c]⟩))) : ∃ u, v = .str (S (val1 false false c)) u := by
  rw [dD_ff, lookupD] at h; have q := h {}; cases q; exact ⟨_, rfl⟩
theorem got_tf {c : Nat} {v : Value} (h : PyProof.V.Flat v ((Spec.lookup (.str ⟨#[c]⟩) (PyProof.V.putD (.str (Str.ofString "'")) (.str (Str.ofString "&apos;")) (strData (dPairs t1 t2 t3 t4 t5 t6 t7 t8 t9 t10 t11 t12)))).getD (.str ⟨#[c]⟩))) : ∃ u, v = .str (S (val1 true false c)) u := by
  rw [dD_ff, dD_tf, lookupD] at h; have q := h {}; cases q; exact ⟨_, rfl⟩
theorem got_ft {c : Nat} {v : Value} (h : PyProof.V.Flat v ((Spec.lookup (.str ⟨#[c]⟩) (PyProof.V.putD (.str (Str.ofString "\"")) (.str (Str.ofString "&quot;")) (strData (dPairs t1 t2 t3 t4 t5 t6 t7 t8 t9 t10 t11 t12)))).getD (.str ⟨#[c]⟩))) : ∃ u, v = .str (S (val1 false true c)) u := by
  rw [dD_ff, dD_ft, lookupD] at h; have q := h {}; cases q; exact ⟨_, rfl⟩
theorem got_tt {c : Nat} {v : Value} (h : PyProof.V.Flat v ((Spec.lookup (.str ⟨#[c]⟩) (PyProof.V.putD (.str (Str.ofString "\"")) (.str (Str.ofString "&quot;")) (PyProof.V.putD (.str (Str.ofString "'")) (.str (Str.ofString "&apos;")) (strData (dPairs t1 t2 t3 t4 t5 t6 t7 t8 t9 t10 t11 t12))))).getD (.str ⟨#[c]⟩))) : ∃ u, v = .str (S (val1 true true c)) u := by
  rw [dD_ff, dD_tf, dD_tt, lookupD] at h; have q := h {}; cases q; exact ⟨_, rfl⟩
end
theorem val1_len (tb mk : Bool) (c : Nat) : (val1 tb mk c).length ≤ 6 := by
  unfold val1
  repeat' split
  all_goals simp
theorem join_empty : ∀ l : List Str, Txt.join (Str.ofString "") l = S (l.flatMap fun x => x.cps.toList)
  | [] => by rw [Txt.join, StrLaws.glued_eq_join]; rfl
  | [a] => by
    rw [Txt.join, StrLaws.glued_eq_join]
    show a = _
    simp [S_list]
  | a :: b :: r => by
    have ih := join_empty (b :: r)
    rw [Txt.join, StrLaws.glued_eq_join] at ih ⊢
    show a ++ Str.ofString "" ++ Str.join (Str.ofString "") (b :: r) = _
    rw [ih, List.flatMap_cons (x := a) (xs := b :: r), ← S_app, S_list]
    have e : a ++ Str.ofString "" = a := by
      apply Str.ext'
      rw [Str.cps_append]
      show a.cps ++ (Str.ofString "").cps = a.cps
      have : (Str.ofString "").cps = #[] := by decide +kernel
      rw [this, Array.append_empty]
    rw [e]
theorem val_join (tb mk : Bool) (l : List Nat) : Txt.join (Str.ofString "") (l.map fun c => S (val1 tb mk c)) = S (valAll tb mk l) := by
  rw [join_empty, List.flatMap_map]
  have e : (fun a => (S (val1 tb mk a)).cps.toList) = val1 tb mk := by
    funext c
    exact S_cps _
  rw [e]
  rfl
theorem sum_le : ∀ (l : List Nat) (f : Nat → Str) (b : Nat), (∀ c, (f c).length ≤ b) → ((l.map f).map (·.length)).sum ≤ b * l.length
  | [], _, _, _ => by simp
  | c :: r, f, b, h => by
    have ih := sum_le r f b h
    have hc := h c
    simp only [List.map_cons, List.sum_cons, List.length_cons, Nat.mul_add, Nat.mul_one]
    omega
theorem val_size (tb mk : Bool) (x : Str) (hx : x.length ≤ 1000) : ((x.cps.toList.map fun c => S (val1 tb mk c)).map (·.length)).sum + (x.cps.toList.map fun c => S (val1 tb mk c)).length * (Str.ofString "").length ≤ 16777216 := by
  have h1 := sum_le x.cps.toList (fun c => S (val1 tb mk c)) 6 (fun c => by rw [S_len]; exact val1_len tb mk c)
  have h2 : (Str.ofString "").length = 0 := by decide +kernel
  have h3 : x.cps.toList.length = x.length := by simp [Str.length]
  rw [h2, Nat.mul_zero]
  omega
theorem valAll_len (tb mk : Bool) (x : Str) (hx : x.length ≤ 1000) : (S (valAll tb mk x.cps.toList)).length ≤ 6000 := by
  rw [S_len]
  have h : ∀ l : List Nat, (valAll tb mk l).length ≤ 6 * l.length := by
    intro l
    induction l with
    | nil => simp [valAll]
    | cons c r ih =>
      have := val1_len tb mk c
      have e : valAll tb mk (c :: r) = val1 tb mk c ++ valAll tb mk r := rfl
      rw [e, List.length_append, List.length_cons]
      omega
  have := h x.cps.toList
  have h3 : x.cps.toList.length = x.length := by simp [Str.length]
  omega
end
section
open PyProof.Rows.LCg
section
variable {prog : Program} {w : World} {A : Around} {E : Value → Shared → Prop} {s : Shared} {h₀ : Heap} {L : Addr} {m : Str → Option Value} {env : Env}
def StrSrc (prog : Program) (w : World) (A : Around) (h₀ : Heap) (L : Addr) (m : Str → Option Value) (env : Env) (elt : Expr) (x : Str) (scope : Scope) (cl : List (Str × Addr)) (Q : Value → Shared → Prop) (xv : Value) (s₁ : Shared) : Prop :=
  ∃ xt tx news, xv = .str xt tx ∧ A.handled = none ∧ Fr h₀ L s₁.heap m ∧ News h₀ L s₁.heap news ∧ xt.cps.size ≤ sizeLine ∧
    ∀ g : Heap, CompRest prog w A h₀ L m env elt x scope cl { s₁ with heap := g } (fun _ => True) (SignAt xt) (FinE h₀ L m { s₁ with heap := g } Q) xt.cps.size 0 [] news

theorem iter_st {I : Addr} {T : String} {xt : Str} {tx : Tok} : ∀ i (h h' : Heap) (o : Obj) (nw : List (Addr × Obj)), h.IsStrIter I T xt tx i → h.get? I = some o → h'.get? I = some o → (∀ b o, h₀.get? b = some o → h'.get? b = some o) → News h₀ L h' nw → True → h'.IsStrIter I T xt tx i :=
  fun i h h' o nw st e e' _ _ _ => by
    obtain ⟨o', q, r⟩ := st
    rw [e] at q; cases q
    exact ⟨o, e', r⟩

theorem listComp_str {elt iter : Expr} {x : Str} {px : Pos} {scope : Scope} {cl : List (Str × Addr)} {pos : Pos} {Q : Value → Shared → Prop} (F₀ : Fr h₀ L s.heap m)
    (hclos : closureFor scope env = pure cl) (hcell : ∀ y ∈ scope.names, y.2 ≠ .cell) (hkind : scope.kind = .function)
    (hnames : ∀ y ∈ scope.names, y.2 = .local → scope.names.lookup y.1 = some .local) (hx : scope.names.lookup x = some .local)
    (h : wpAny (model prog w) A (eval iter env) (StrSrc prog w A h₀ L m env elt x scope cl Q) E s)
    (hs : ∀ x, foldedSetIterable iter env x = pure x := by intro _; rfl) :
    wpAny (model prog w) A (eval (.ListComp elt [⟨.Name x px, iter, [], 0⟩] scope pos) env) Q E s := by
  rw [eval_ListComp]
  refine wpAny_comprehension_free (use := none) rfl hs hclos hkind hnames (wpAny_mono h (fun xv s₁ h₁ => ?_) fun _ _ e => e)
  obtain ⟨xt, tx, news, rfl, hh, F, N, hsz, R⟩ := h₁
  have up : ∀ (o' : Obj) b o, s₁.heap.get? b = some o → (s₁.heap.push o').get? b = some o := fun _ b o e => Heap.get?_push_of_some _ e
  cases ha : xt.cps.all (· < 128)
  · refine wpAny_pyIter_wide ha ?_
    refine block_U (Walks.strWide hh s₁.heap.objs.size xt tx) hsz (fun i h st => by obtain ⟨o, e, _⟩ := st; exact ⟨o, e⟩) iter_st hcell hkind hx ⟨_, Heap.get?_push_size _ rfl, rfl, rfl⟩ (fun b hb => ?_)
      (F.keeps (up _)) (N.grown (up _)) (Nat.ne_of_lt F.ns.lt) (next_is_new F) (fun p hp => Nat.ne_of_lt (Heap.lt_size (N p hp).1)) trivial (R _) ?_
    · show b < (s₁.heap.push _).objs.size
      rw [Heap.size_push, List.mem_singleton.mp hb]
      exact Nat.lt_succ_self _
    · intro D C h tk m' ys news' F' N' o1 hn hC₀ hD₀ hCL hDL hCD offC fin
      refine ⟨m', hn, fun h'' hs'' => fin D h'' tk (F'.change hs'' hCL hC₀) (fun p hp => ?_) o1⟩
      refine ⟨hs''.extBut _ _ ?_ (N' p hp).1, (N' p hp).2⟩
      rcases List.mem_cons.mp hp with rfl | hp
      · exact Ne.symm hCD
      · exact offC p hp
  · refine wpAny_pyIter_ascii ha ?_
    refine block_U (Walks.strAscii hh s₁.heap.objs.size xt tx) hsz (fun i h st => by obtain ⟨o, e, _⟩ := st; exact ⟨o, e⟩) iter_st hcell hkind hx ⟨_, Heap.get?_push_size _ rfl, rfl, rfl⟩ (fun b hb => ?_)
      (F.keeps (up _)) (N.grown (up _)) (Nat.ne_of_lt F.ns.lt) (next_is_new F) (fun p hp => Nat.ne_of_lt (Heap.lt_size (N p hp).1)) trivial (R _) ?_
    · show b < (s₁.heap.push _).objs.size
      rw [Heap.size_push, List.mem_singleton.mp hb]
      exact Nat.lt_succ_self _
    · intro D C h tk m' ys news' F' N' o1 hn hC₀ hD₀ hCL hDL hCD offC fin
      refine ⟨m', hn, fun h'' hs'' => fin D h'' tk (F'.change hs'' hCL hC₀) (fun p hp => ?_) o1⟩
      refine ⟨hs''.extBut _ _ ?_ (N' p hp).1, (N' p hp).2⟩
      rcases List.mem_cons.mp hp with rfl | hp
      · exact Ne.symm hCD
      · exact offC p hp

/-- one turn: the sign c gives the text f c, the ledger stands -/
def TurnEnd (h₀ : Heap) (L : Addr) (m : Str → Option Value) (s₁ : Shared) (all : List (Addr × Obj)) (r : Str) (y : Value) (s₂ : Shared) : Prop :=
  ∃ h' tk u, y = .str r u ∧ s₂ = { s₁ with heap := h', toks := tk } ∧ Fr h₀ L h' m ∧ News h₀ L h' all
theorem TurnEnd.intro {h' : Heap} {all : List (Addr × Obj)} {s₁ : Shared} {tk : Nat} {r y : Str} {u : Tok} (F : Fr h₀ L h' m) (N : News h₀ L h' all) (e : y = r) : TurnEnd h₀ L m s₁ all r (.str y u) { s₁ with heap := h', toks := tk } :=
  ⟨h', tk, u, by rw [e], rfl, F, N⟩
theorem rest_str {elt : Expr} {x : Str} {scope : Scope} {cl : List (Str × Addr)} {Fin : List Value → List (Addr × Obj) → Prop} {xt : Str} {news : List (Addr × Obj)} (f : Nat → Str)
    (turn : ∀ c u (ys : List Value) I oI C oC D m₂ h tk (E' : Value → Shared → Prop), c ∈ xt.cps.toList → NsObj oC m₂ → m₂ x = some (.str ⟨#[c]⟩ u) → Fr h₀ L h m → News h₀ L h ((I, oI) :: (C, oC) :: (D, lst ys) :: news) →
      wpAny (model prog w) A (eval elt (compEnvC scope cl C env)) (TurnEnd h₀ L m { s with heap := h, toks := tk } ((I, oI) :: (C, oC) :: (D, lst ys) :: news) (f c)) E' { s with heap := h, toks := tk })
    (fin : ∀ ys, StrsAre ys (xt.cps.toList.map f) → Fin ys news) :
    ∀ k i ys, i + k = xt.cps.size → StrsAre ys ((xt.cps.toList.take i).map f) → CompRest prog w A h₀ L m env elt x scope cl s (fun _ => True) (SignAt xt) Fin k i ys news
  | 0, i, ys, hk, hy => by
    refine CompRest.zero (fin ys ?_)
    have : xt.cps.toList.take i = xt.cps.toList := List.take_of_length_le (by simp; omega)
    rwa [this] at hy
  | k + 1, i, ys, hk, hy => by
    refine CompRest.succ ?_
    rintro v I oI C oC D m₂ h tk E' ⟨c, u, hc, rfl⟩ hC hx F N off ne
    have hc' : xt.cps.toList[i]? = some c := by rw [Array.getElem?_toList]; exact hc
    refine wpAny_mono (turn c u ys I oI C oC D m₂ h tk E' (List.mem_of_getElem? hc') hC hx F N) (fun y s₂ q => ?_) fun _ _ e => e
    obtain ⟨h', tk', u', rfl, rfl, F', N'⟩ := q
    refine CompEnd.intro F' N' news (fun p hp => hp) off trivial ?_
    refine rest_str f turn fin k (i + 1) _ (by omega) ?_
    have e : (xt.cps.toList.take (i + 1)).map f = (xt.cps.toList.take i).map f ++ [f c] := by
      rw [List.take_add_one, hc']; simp
    rw [e]
    exact hy.append' (.cons _ _ .nil)
end
end
section
open PyProof.Rows.LCg
theorem startValue : True := by
  k_with_none
  w_top off
  k_with "m_sub" => (intro p9 hp9; repeat (first | exact hp9 | refine List.mem_cons_of_mem _ ?_))
  k_with "m_lt" => (first | with_reducible assumption | (apply allLt_mem; first | with_reducible assumption | exact And.right (by with_reducible assumption) | exact And.right (And.right (by with_reducible assumption)) | exact And.right (And.right (And.right (by with_reducible assumption)))))
  k_with "m_enter" => (k_dflt (refine' code_def ?z9k1 ?z9k2 ?z9k3 ?z9k4 ?z9k5 ?z9kA ?z9kF ?z9kK ?z9k6 ?z9k7 ?z9k8 ?z9k9 ?z9kB ?_ ?z9c2 ?z9c3 ?z9c4 ?z9c5; (case z9kA => exact rfl); (case z9kF => exact rfl); (case z9kK => assumption); (case z9k1 => k_asm); (case z9k2 => k_asm); (case z9k3 => k_asm); (case z9k4 => k_asm); (case z9k5 => k_asm); (case z9k6 => k_is); (case z9k7 => k_is); (case z9k8 => ktr_room); (case z9k9 => first | exact BindsTo.of_eq rfl | exact binds_K (by k_in) rfl (by k_is) rfl rfl rfl); (case z9c5 => decide); (case z9kB => exact locs rfl); (case z9c2 => exact rfl); (case z9c3 => exact rfl); (case z9c4 => exact rfl); k_whole; intro g' L' h' FG' F' N' B' X' T'; (try dsimp only); (try k_lift B'); (try k_fold)))
  k_with "m_enterC" => (k_dflt (refine' code_defC ?z9k1 ?z9k2 ?z9k3 ?z9k4 ?z9k5 ?z9kA ?z9kF ?z9kK ?z9k6 ?z9k7 ?z9k8 ?z9k9 ?z9kB ?z9kD ?_ ?z9c2 ?z9c3 ?z9c4; (case z9kA => exact rfl); (case z9kF => exact rfl); (case z9kK => assumption); (case z9k1 => k_asm); (case z9k2 => k_asm); (case z9k3 => k_asm); (case z9k4 => k_asm); (case z9k5 => k_asm); (case z9k6 => k_is); (case z9k7 => k_is); (case z9k8 => ktr_room); (case z9k9 => first | exact BindsTo.of_eq rfl | exact binds_K (by k_in) rfl (by k_is) rfl rfl rfl); (case z9kB => exact rfl); (case z9kD => decide +kernel); (case z9c2 => exact rfl); (case z9c3 => exact rfl); (case z9c4 => exact rfl); k_whole; intro g' L' h' tk' cells' FG' F' N' Y' B' X' T' l1; (try k_lt l1); k_cells Y'; (try simp only [List.cons_append, List.nil_append] at N'); (try dsimp only); (try k_lift B'); (try k_fold)))
  k_with "eval ListComp" => (k_here; lcf_look; k_dflt (refine listComp_str (F₀ := by k_asm) (by with_unfolding_all rfl) (by decide) (by rfl) (by decide) (by rfl) ?_))
  trivial
theorem value_ff (w : World) (x : Str) (t : Tok) (hx : x.length ≤ 1000) :
    TellsS 4 w 67 [.str x t, .bool false, .bool false] (fun _ => True) (S (valAll false false x.cps.toList)) := by
  unfold TellsS Tells
  intro p loose mean mg mb dp un gd cn cs a ccd cl outer A₀ base h₀ L m news s Q E B F X N T hk hneed hd hu hret
  refine wpAny_call ?_
  walk_at "m_enterC"
  k_steps
  refine ⟨_, _, _, rfl, rfl, by k_asm, by k_asm, ?hsz, fun g9 => rest_str (fun c => S (val1 false false c)) ?turn ?fin _ 0 [] (Nat.zero_add _) .nil⟩
  case hsz => rw [sizeLine_eq]; have : x.cps.size = x.length := rfl; omega
  case turn =>
    intro c u ys I oI C oC D m₂ h9 tk9 E' hc9 hC9 hx9 F9 N9
    refine MethodCall_ ?_
    walk1
    walk1
    walk1
    walk1
    walk1
    walk1
    walk1
    walk1
    refine call_get2_strTab (by k_tabat) (by exact PyProof.V.Flat.str _ _) ?_
    intro v9 hv9
    obtain ⟨u9, rfl⟩ := got_ff hv9
    exact TurnEnd.intro F9 N9 rfl
  case fin =>
    intro ys hys
    unfold FinE
    intro D9 h9 tk9 F9 N9 o9
    walk1
    refine join_list (News.isList N9 (.head _)) (by simpa using hys) (val_size false false x hx) ?_
    intro _ _
    k_steps
    all_goals (refine' retS hret ?rF ?rN ?rs ?re; (case rF => k_asm); (case rN => k_asm); (case rs => walk_at "m_sub"); (case re => exact val_join false false _))
theorem value_ft (w : World) (x : Str) (t : Tok) (hx : x.length ≤ 1000) :
    TellsS 4 w 67 [.str x t, .bool false, .bool true] (fun _ => True) (S (valAll false true x.cps.toList)) := by
  unfold TellsS Tells
  intro p loose mean mg mb dp un gd cn cs a ccd cl outer A₀ base h₀ L m news s Q E B F X N T hk hneed hd hu hret
  refine wpAny_call ?_
  walk_at "m_enterC"
  k_steps
  refine ⟨_, _, _, rfl, rfl, by k_asm, by k_asm, ?hsz, fun g9 => rest_str (fun c => S (val1 false true c)) ?turn ?fin _ 0 [] (Nat.zero_add _) .nil⟩
  case hsz => rw [sizeLine_eq]; have : x.cps.size = x.length := rfl; omega
  case turn =>
    intro c u ys I oI C oC D m₂ h9 tk9 E' hc9 hC9 hx9 F9 N9
    refine MethodCall_ ?_
    walk1
    walk1
    walk1
    walk1
    walk1
    walk1
    walk1
    walk1
    refine call_get2_strTab (by k_tabat) (by exact PyProof.V.Flat.str _ _) ?_
    intro v9 hv9
    obtain ⟨u9, rfl⟩ := got_ft hv9
    exact TurnEnd.intro F9 N9 rfl
  case fin =>
    intro ys hys
    unfold FinE
    intro D9 h9 tk9 F9 N9 o9
    walk1
    refine join_list (News.isList N9 (.head _)) (by simpa using hys) (val_size false true x hx) ?_
    intro _ _
    k_steps
    all_goals (refine' retS hret ?rF ?rN ?rs ?re; (case rF => k_asm); (case rN => k_asm); (case rs => walk_at "m_sub"); (case re => exact val_join false true _))
theorem value_tf (w : World) (x : Str) (t : Tok) (hx : x.length ≤ 1000) :
    TellsS 4 w 67 [.str x t, .bool true, .bool false] (fun _ => True) (S (valAll true false x.cps.toList)) := by
  unfold TellsS Tells
  intro p loose mean mg mb dp un gd cn cs a ccd cl outer A₀ base h₀ L m news s Q E B F X N T hk hneed hd hu hret
  refine wpAny_call ?_
  walk_at "m_enterC"
  k_steps
  refine ⟨_, _, _, rfl, rfl, by k_asm, by k_asm, ?hsz, fun g9 => rest_str (fun c => S (val1 true false c)) ?turn ?fin _ 0 [] (Nat.zero_add _) .nil⟩
  case hsz => rw [sizeLine_eq]; have : x.cps.size = x.length := rfl; omega
  case turn =>
    intro c u ys I oI C oC D m₂ h9 tk9 E' hc9 hC9 hx9 F9 N9
    refine MethodCall_ ?_
    walk1
    walk1
    walk1
    walk1
    walk1
    walk1
    walk1
    walk1
    refine call_get2_strTab (by k_tabat) (by exact PyProof.V.Flat.str _ _) ?_
    intro v9 hv9
    obtain ⟨u9, rfl⟩ := got_tf hv9
    exact TurnEnd.intro F9 N9 rfl
  case fin =>
    intro ys hys
    unfold FinE
    intro D9 h9 tk9 F9 N9 o9
    walk1
    refine join_list (News.isList N9 (.head _)) (by simpa using hys) (val_size true false x hx) ?_
    intro _ _
    k_steps
    all_goals (refine' retS hret ?rF ?rN ?rs ?re; (case rF => k_asm); (case rN => k_asm); (case rs => walk_at "m_sub"); (case re => exact val_join true false _))
theorem value_tt (w : World) (x : Str) (t : Tok) (hx : x.length ≤ 1000) :
    TellsS 4 w 67 [.str x t, .bool true, .bool true] (fun _ => True) (S (valAll true true x.cps.toList)) := by
  unfold TellsS Tells
  intro p loose mean mg mb dp un gd cn cs a ccd cl outer A₀ base h₀ L m news s Q E B F X N T hk hneed hd hu hret
  refine wpAny_call ?_
  walk_at "m_enterC"
  k_steps
  refine ⟨_, _, _, rfl, rfl, by k_asm, by k_asm, ?hsz, fun g9 => rest_str (fun c => S (val1 true true c)) ?turn ?fin _ 0 [] (Nat.zero_add _) .nil⟩
  case hsz => rw [sizeLine_eq]; have : x.cps.size = x.length := rfl; omega
  case turn =>
    intro c u ys I oI C oC D m₂ h9 tk9 E' hc9 hC9 hx9 F9 N9
    refine MethodCall_ ?_
    walk1
    walk1
    walk1
    walk1
    walk1
    walk1
    walk1
    walk1
    refine call_get2_strTab (by k_tabat) (by exact PyProof.V.Flat.str _ _) ?_
    intro v9 hv9
    obtain ⟨u9, rfl⟩ := got_tt hv9
    exact TurnEnd.intro F9 N9 rfl
  case fin =>
    intro ys hys
    unfold FinE
    intro D9 h9 tk9 F9 N9 o9
    walk1
    refine join_list (News.isList N9 (.head _)) (by simpa using hys) (val_size true true x hx) ?_
    intro _ _
    k_steps
    all_goals (refine' retS hret ?rF ?rN ?rs ?re; (case rF => k_asm); (case rN => k_asm); (case rs => walk_at "m_sub"); (case re => exact val_join true true _))
end
section
theorem startParted : True := by
  k_with_none
  w_top off
  k_with "m_sub" => (intro p9 hp9; repeat (first | exact hp9 | refine List.mem_cons_of_mem _ ?_))
  k_with "m_lt" => (first | with_reducible assumption | (apply allLt_mem; first | with_reducible assumption | exact And.right (by with_reducible assumption) | exact And.right (And.right (by with_reducible assumption)) | exact And.right (And.right (And.right (by with_reducible assumption)))))
  k_with "m_enter" => (k_dflt (refine' code_def ?z9k1 ?z9k2 ?z9k3 ?z9k4 ?z9k5 ?z9kA ?z9kF ?z9kK ?z9k6 ?z9k7 ?z9k8 ?z9k9 ?z9kB ?_ ?z9c2 ?z9c3 ?z9c4 ?z9c5; (case z9kA => exact rfl); (case z9kF => exact rfl); (case z9kK => assumption); (case z9k1 => k_asm); (case z9k2 => k_asm); (case z9k3 => k_asm); (case z9k4 => k_asm); (case z9k5 => k_asm); (case z9k6 => k_is); (case z9k7 => k_is); (case z9k8 => ktr_room); (case z9k9 => first | exact BindsTo.of_eq rfl | exact binds_K (by k_in) rfl (by k_is) rfl rfl rfl); (case z9c5 => decide); (case z9kB => exact locs rfl); (case z9c2 => exact rfl); (case z9c3 => exact rfl); (case z9c4 => exact rfl); k_whole; intro g' L' h' FG' F' N' B' X' T'; (try dsimp only); (try k_lift B'); (try k_fold)))
  k_with "m_enterC" => (k_dflt (refine' code_defC ?z9k1 ?z9k2 ?z9k3 ?z9k4 ?z9k5 ?z9kA ?z9kF ?z9kK ?z9k6 ?z9k7 ?z9k8 ?z9k9 ?z9kB ?z9kD ?_ ?z9c2 ?z9c3 ?z9c4; (case z9kA => exact rfl); (case z9kF => exact rfl); (case z9kK => assumption); (case z9k1 => k_asm); (case z9k2 => k_asm); (case z9k3 => k_asm); (case z9k4 => k_asm); (case z9k5 => k_asm); (case z9k6 => k_is); (case z9k7 => k_is); (case z9k8 => ktr_room); (case z9k9 => first | exact BindsTo.of_eq rfl | exact binds_K (by k_in) rfl (by k_is) rfl rfl rfl); (case z9kB => exact rfl); (case z9kD => decide +kernel); (case z9c2 => exact rfl); (case z9c3 => exact rfl); (case z9c4 => exact rfl); k_whole; intro g' L' h' tk' cells' FG' F' N' Y' B' X' T' l1; (try k_lt l1); k_cells Y'; (try simp only [List.cons_append, List.nil_append] at N'); (try dsimp only); (try k_lift B'); (try k_fold)))
  k_with "call builtin:str.split" => (k_here; (with_reducible show wpAny _ _ (call (Value.builtin "str.split") [Value.str _ _, Value.str _ _]) _ _ _); first | (refine split1_3 (by k_asm) (by k_asm) (by with_reducible assumption) (by with_reducible assumption) ?_; intro D' _ _ _ _ _ _ F' N' l1; (try k_lt l1)) | (refine split1_le (by k_asm) (by k_asm) (by with_reducible assumption) (by with_reducible assumption) ?_; intro D' _ _ _ _ F' N' l1; (try k_lt l1)))
  k_with "call builtin:len" => (k_here; (with_reducible show wpAny _ _ (call (Value.builtin "len") [Value.ref _]) _ _ _); first | (refine len_3 (by k_asm) (by k_mem) (by with_reducible assumption) (by with_reducible assumption) (by with_reducible assumption) ?_; intro _ _ _ _) | (refine len_le (by k_asm) (by k_mem) (by with_reducible assumption) ?_; intro _ _))
  k_with "binaryOp Add str str" => (k_here; (refine SB.add ?_ (by kopn_len)); intro _ _)
  k_with "compareOp In str str" => (k_here; first | refine in_yes (by with_reducible assumption) ?_ | refine in_no (by with_reducible assumption) ?_)
  k_with "compareOp NotIn str str" => (k_here; first | refine notin_yes (by with_reducible assumption) ?_ | refine notin_no (by with_reducible assumption) ?_)
  k_with "call ref" => (k_here; (with_reducible show wpAny _ _ (call (Value.ref 67) [Value.str _ _, Value.bool _, Value.bool _]) _ _ _); (first | refine' tells_use (value_ff _ _ _ ?z9G) ?z9B ?z9F ?z9X ?z9N ?z9T ?z9hk ?z9hn ?z9h1 ?z9h2 ?_ | refine' tells_use (value_ft _ _ _ ?z9G) ?z9B ?z9F ?z9X ?z9N ?z9T ?z9hk ?z9hn ?z9h1 ?z9h2 ?_ | refine' tells_use (value_tf _ _ _ ?z9G) ?z9B ?z9F ?z9X ?z9N ?z9T ?z9hk ?z9hn ?z9h1 ?z9h2 ?_ | refine' tells_use (value_tt _ _ _ ?z9G) ?z9B ?z9F ?z9X ?z9N ?z9T ?z9hk ?z9hn ?z9h1 ?z9h2 ?_); (case z9G => with_reducible assumption); (case z9B => k_asm); (case z9F => k_asm); (case z9X => k_asm); (case z9N => k_asm); (case z9T => k_asm); (case z9hk => first | exact rfl | assumption); (case z9hn => trivial); (case z9h1 => ktr_room); (case z9h2 => ktr_units); intro r9 tl9 h' tk9 F' N' l9 ho9; obtain ⟨ho9, t9, hr9⟩ := ho9; subst ho9; subst hr9; (try simp only [List.nil_append] at N'))
  trivial
section
variable {prog : Program} {w : World} {A : Around} {E : Value → Shared → Prop} {s : Shared} {h₀ : Heap} {L : Addr} {m : Str → Option Value} {news : List (Addr × Obj)} {x y a b : Str} {r : List Str} {t u v : Tok} {Q : Value → Shared → Prop}
abbrev inS (y x : Str) : Bool := !(Builtin.Str.occurrences x y 0 x.length 1).isEmpty
theorem in_yes (h : inS y x = true) (hq : Q (.bool true) s) : wpAny (model prog w) A (compareOp .In (.str y u) (.str x t)) Q E s := in_str (by show Q (.bool (inS y x)) s; rw [h]; exact hq)
theorem in_no (h : inS y x = false) (hq : Q (.bool false) s) : wpAny (model prog w) A (compareOp .In (.str y u) (.str x t)) Q E s := in_str (by show Q (.bool (inS y x)) s; rw [h]; exact hq)
theorem notin_yes (h : inS y x = true) (hq : Q (.bool false) s) : wpAny (model prog w) A (compareOp .NotIn (.str y u) (.str x t)) Q E s := notIn_str (by show Q (.bool (!inS y x)) s; rw [h]; exact hq)
theorem notin_no (h : inS y x = false) (hq : Q (.bool true) s) : wpAny (model prog w) A (compareOp .NotIn (.str y u) (.str x t)) Q E s := notIn_str (by show Q (.bool (!inS y x)) s; rw [h]; exact hq)
theorem split1_le (hF : Fr h₀ L s.heap m) (hN : News h₀ L s.heap news) (hsp : (Txt.split x (Str.ofString "'")).length ≤ 2) (hsz : x.length ≤ 1000)
    (h : ∀ D vs h' k, vs.length ≤ 2 → Fr h₀ L h' m → News h₀ L h' ((D, listOf (List.toArray vs) 0) :: news) → (∀ p ∈ news, p.1 < D) → Q (.ref D) { s with heap := h', toks := k }) :
    wpAny (model prog w) A (call (.builtin "str.split") [.str x t, .str (Str.ofString "'") u]) Q E s := by
  refine KSpl.split1 hF hN (by decide +kernel) (fun D l h' k hl hi hF' hN' hlt => ?_) (by rw [sizeLine_eq]; omega)
  refine h D (strValues l) h' k ?_ hF' hN' hlt
  have : (strValues l).length = (l.map (·.1)).length := by simp [strValues]
  rw [this, hl]
  exact hsp
theorem split1_3 (hF : Fr h₀ L s.heap m) (hN : News h₀ L s.heap news) (hsp : Txt.split x (Str.ofString "'") = a :: b :: r) (hsz : x.length ≤ 1000)
    (h : ∀ D t1 t2 rest h' k, StrsAre rest r → Fr h₀ L h' m → News h₀ L h' ((D, listOf (List.toArray (.str a t1 :: .str b t2 :: rest)) 0) :: news) → (∀ p ∈ news, p.1 < D) → Q (.ref D) { s with heap := h', toks := k }) :
    wpAny (model prog w) A (call (.builtin "str.split") [.str x t, .str (Str.ofString "'") u]) Q E s := by
  refine KSpl.split1 hF hN (by decide +kernel) (fun D l h' k hl hi hF' hN' hlt => ?_) (by rw [sizeLine_eq]; omega)
  rw [hsp] at hl
  obtain ⟨t1, l1, rfl, e1⟩ := KSpl.cons_of hl
  obtain ⟨t2, l2, rfl, e2⟩ := KSpl.cons_of e1
  exact h D t1 t2 (strValues l2) h' k (e2 ▸ strsAre_of_values l2) hF' hN' hlt
theorem len_3 {l : Addr} {rest : List Value} {v1 v2 : Value} (hN : News h₀ L s.heap news) (hm : (l, listOf (List.toArray (v1 :: v2 :: rest)) 0) ∈ news) (hr : StrsAre rest r) (h1 : 1 ≤ r.length) (h2 : r.length ≤ 2000)
    (h : ∀ (n : Nat) t' k, 3 ≤ n → Q (.int n t') { s with toks := k }) : wpAny (model prog w) A (call (.builtin "len") [.ref l]) Q E s := by
  have e := hr.length
  refine len_list (News.isList hN hm) ?_ (h _ _ _ ?_)
  · rw [List.size_toArray]
    simp only [List.length_cons]
    omega
  · rw [List.size_toArray]
    simp only [List.length_cons]
    omega
end
theorem parted_t1 (w : World) (x : Str) (t : Tok) (hx : x.length ≤ 1000) (h1 : inS (Str.ofString "\"") x = true) :
    TellsO 8 w 74 [.str x t, .bool true] (fun _ => True) (fun o => ∃ u1 u2 u3, o = listOf #[.str (Str.ofString "") u1, .str (S (valAll true false x.cps.toList)) u2, .str (Str.ofString "") u3] 0) := by
  unfold TellsO Tells
  intro p loose mean mg mb dp un gd cn cs a ccd cl outer A₀ base h₀ L m news s Q E B F X N T hk hneed hd hu hret
  refine wpAny_call ?_
  walk_at "m_enter"
  k_steps
  all_goals (refine' retO hret ?rF ?rN ?rm ?rs ?rl ?rP; (case rF => k_asm); (case rN => k_asm); (case rm => k_mem); (case rs => walk_at "m_sub"); (case rl => walk_at "m_lt"); (case rP => exact ⟨_, _, _, rfl⟩))
theorem parted_f1 (w : World) (x : Str) (t : Tok) (hx : x.length ≤ 1000) (h1 : inS (Str.ofString "\"") x = true) (h2 : inS (Str.ofString "'") x = false) :
    TellsO 8 w 74 [.str x t, .bool false] (fun _ => True) (fun o => ∃ u1 u2 u3, o = listOf #[.str (Str.ofString "") u1, .str (S (valAll false false x.cps.toList)) u2, .str (Str.ofString "") u3] 0) := by
  unfold TellsO Tells
  intro p loose mean mg mb dp un gd cn cs a ccd cl outer A₀ base h₀ L m news s Q E B F X N T hk hneed hd hu hret
  refine wpAny_call ?_
  walk_at "m_enter"
  k_steps
  all_goals (refine' retO hret ?rF ?rN ?rm ?rs ?rl ?rP; (case rF => k_asm); (case rN => k_asm); (case rm => k_mem); (case rs => walk_at "m_sub"); (case rl => walk_at "m_lt"); (case rP => exact ⟨_, _, _, rfl⟩))
theorem parted_t2 (w : World) (x : Str) (t : Tok) (hx : x.length ≤ 1000) (h1 : inS (Str.ofString "\"") x = false) :
    TellsO 8 w 74 [.str x t, .bool true] (fun _ => True) (fun o => ∃ u, o = { cls := .type "tuple", data := .seq #[.none, .none, .str (Str.ofString "\"" ++ S (valAll true true x.cps.toList) ++ Str.ofString "\"") u] }) := by
  unfold TellsO Tells
  intro p loose mean mg mb dp un gd cn cs a ccd cl outer A₀ base h₀ L m news s Q E B F X N T hk hneed hd hu hret
  have hv1 := valAll_len true true x hx
  refine wpAny_call ?_
  walk_at "m_enter"
  k_steps
  all_goals (refine' retO hret ?rF ?rN ?rm ?rs ?rl ?rP; (case rF => k_asm); (case rN => k_asm); (case rm => k_mem); (case rs => walk_at "m_sub"); (case rl => walk_at "m_lt"); (case rP => exact ⟨_, rfl⟩))
theorem parted_f2 (w : World) (x : Str) (t : Tok) (b1 b2 : Bool) (hx : x.length ≤ 1000) (h1 : inS (Str.ofString "\"") x = b1) (h2 : inS (Str.ofString "'") x = b2) (h3 : (b1 && !b2) = false) (h4 : (Txt.split x (Str.ofString "'")).length ≤ 2) :
    TellsO 8 w 74 [.str x t, .bool false] (fun _ => True) (fun o => ∃ u, o = { cls := .type "tuple", data := .seq #[.none, .none, .str (Str.ofString "\"" ++ S (valAll false true x.cps.toList) ++ Str.ofString "\"") u] }) := by
  unfold TellsO Tells
  intro p loose mean mg mb dp un gd cn cs a ccd cl outer A₀ base h₀ L m news s Q E B F X N T hk hneed hd hu hret
  have hv1 := valAll_len false true x hx
  cases b1 <;> cases b2 <;> first | (exact absurd h3 (by decide)) | skip
  all_goals (
    refine wpAny_call ?_
    walk_at "m_enter"
    k_steps
    all_goals (refine' retO hret ?rF ?rN ?rm ?rs ?rl ?rP; (case rF => k_asm); (case rN => k_asm); (case rm => k_mem); (case rs => walk_at "m_sub"); (case rl => walk_at "m_lt"); (case rP => exact ⟨_, rfl⟩)))
end
section
theorem startParted3 : True := by
  k_with_none
  w_top off
  k_with "m_sub" => (intro p9 hp9; repeat (first | exact hp9 | refine List.mem_cons_of_mem _ ?_))
  k_with "m_lt" => (first | with_reducible assumption | (apply allLt_mem; first | with_reducible assumption | exact And.right (by with_reducible assumption) | exact And.right (And.right (by with_reducible assumption)) | exact And.right (And.right (And.right (by with_reducible assumption)))))
  k_with "m_enter" => (k_dflt (refine' code_def ?z9k1 ?z9k2 ?z9k3 ?z9k4 ?z9k5 ?z9kA ?z9kF ?z9kK ?z9k6 ?z9k7 ?z9k8 ?z9k9 ?z9kB ?_ ?z9c2 ?z9c3 ?z9c4 ?z9c5; (case z9kA => exact rfl); (case z9kF => exact rfl); (case z9kK => assumption); (case z9k1 => k_asm); (case z9k2 => k_asm); (case z9k3 => k_asm); (case z9k4 => k_asm); (case z9k5 => k_asm); (case z9k6 => k_is); (case z9k7 => k_is); (case z9k8 => ktr_room); (case z9k9 => first | exact BindsTo.of_eq rfl | exact binds_K (by k_in) rfl (by k_is) rfl rfl rfl); (case z9c5 => decide); (case z9kB => exact locs rfl); (case z9c2 => exact rfl); (case z9c3 => exact rfl); (case z9c4 => exact rfl); k_whole; intro g' L' h' FG' F' N' B' X' T'; (try dsimp only); (try k_lift B'); (try k_fold)))
  k_with "m_enterC" => (k_dflt (refine' code_defC ?z9k1 ?z9k2 ?z9k3 ?z9k4 ?z9k5 ?z9kA ?z9kF ?z9kK ?z9k6 ?z9k7 ?z9k8 ?z9k9 ?z9kB ?z9kD ?_ ?z9c2 ?z9c3 ?z9c4; (case z9kA => exact rfl); (case z9kF => exact rfl); (case z9kK => assumption); (case z9k1 => k_asm); (case z9k2 => k_asm); (case z9k3 => k_asm); (case z9k4 => k_asm); (case z9k5 => k_asm); (case z9k6 => k_is); (case z9k7 => k_is); (case z9k8 => ktr_room); (case z9k9 => first | exact BindsTo.of_eq rfl | exact binds_K (by k_in) rfl (by k_is) rfl rfl rfl); (case z9kB => exact rfl); (case z9kD => decide +kernel); (case z9c2 => exact rfl); (case z9c3 => exact rfl); (case z9c4 => exact rfl); k_whole; intro g' L' h' tk' cells' FG' F' N' Y' B' X' T' l1; (try k_lt l1); k_cells Y'; (try simp only [List.cons_append, List.nil_append] at N'); (try dsimp only); (try k_lift B'); (try k_fold)))
  k_with "call builtin:str.split" => (k_here; (with_reducible show wpAny _ _ (call (Value.builtin "str.split") [Value.str _ _, Value.str _ _]) _ _ _); first | (refine split1_3 (by k_asm) (by k_asm) (by with_reducible assumption) (by with_reducible assumption) ?_; intro D' _ _ _ _ _ _ F' N' l1; (try k_lt l1)) | (refine split1_le (by k_asm) (by k_asm) (by with_reducible assumption) (by with_reducible assumption) ?_; intro D' _ _ _ _ F' N' l1; (try k_lt l1)))
  k_with "call builtin:len" => (k_here; (with_reducible show wpAny _ _ (call (Value.builtin "len") [Value.ref _]) _ _ _); first | (refine len_3 (by k_asm) (by k_mem) (by with_reducible assumption) (by with_reducible assumption) (by with_reducible assumption) ?_; intro _ _ _ _) | (refine len_le (by k_asm) (by k_mem) (by with_reducible assumption) ?_; intro _ _))
  k_with "binaryOp Add str str" => (k_here; (refine SB.add ?_ (by kopn_len)); intro _ _)
  k_with "compareOp In str str" => (k_here; first | refine in_yes (by with_reducible assumption) ?_ | refine in_no (by with_reducible assumption) ?_)
  k_with "compareOp NotIn str str" => (k_here; first | refine notin_yes (by with_reducible assumption) ?_ | refine notin_no (by with_reducible assumption) ?_)
  k_with "call ref" => (k_here; (with_reducible show wpAny _ _ (call (Value.ref 67) [Value.str _ _, Value.bool _, Value.bool _]) _ _ _); (first | refine' tells_use (value_ff _ _ _ ?z9G) ?z9B ?z9F ?z9X ?z9N ?z9T ?z9hk ?z9hn ?z9h1 ?z9h2 ?_ | refine' tells_use (value_ft _ _ _ ?z9G) ?z9B ?z9F ?z9X ?z9N ?z9T ?z9hk ?z9hn ?z9h1 ?z9h2 ?_ | refine' tells_use (value_tf _ _ _ ?z9G) ?z9B ?z9F ?z9X ?z9N ?z9T ?z9hk ?z9hn ?z9h1 ?z9h2 ?_ | refine' tells_use (value_tt _ _ _ ?z9G) ?z9B ?z9F ?z9X ?z9N ?z9T ?z9hk ?z9hn ?z9h1 ?z9h2 ?_); (case z9G => with_reducible assumption); (case z9B => k_asm); (case z9F => k_asm); (case z9X => k_asm); (case z9N => k_asm); (case z9T => k_asm); (case z9hk => first | exact rfl | assumption); (case z9hn => trivial); (case z9h1 => ktr_room); (case z9h2 => ktr_units); intro r9 tl9 h' tk9 F' N' l9 ho9; obtain ⟨ho9, t9, hr9⟩ := ho9; subst ho9; subst hr9; (try simp only [List.nil_append] at N'))
  k_with "subscriptTail Name Slice ref ref" => (k_here; (with_reducible show wpAny _ _ (subscriptTail _ (PySem.Expr.Slice _ _ none _) (Value.ref _) (Value.ref _)) _ _ _); k_dflt (refine' kmk_slice_lit ?z9F ?z9N ?z9l ?z9p ?z9q (pick2 _ _ _) ?_ ?z9s ?z9t ?z9z; (case z9F => k_asm); (case z9N => k_asm); (case z9l => exact News.isList (by k_asm) (by k_mem)); (case z9p => exact IsPart.int _ _); (case z9q => exact IsPart.none); (case z9s => with_unfolding_all rfl); (case z9t => intro _; with_unfolding_all rfl); (case z9z => exact sz3 (by with_reducible assumption) (by with_reducible assumption))); intro D' h' F' N' l1; (try k_lt l1))
  k_with "subscriptTail" => (k_here; (with_reducible show wpAny _ _ (subscriptTail _ _ (Value.ref _) (Value.int _ _)) _ _ _); (with_unfolding_all refine' item_at ?z9k1 ?z9k2 ?z9k3 ?z9k4 ?_ ?z9k6; (case z9k1 => exact News.isList (by k_asm) (by k_mem)); (case z9k2 => decide); (case z9k3 => decide); (case z9k4 => rfl); (case z9k6 => with_unfolding_all rfl); k_whole))
  k_with "call builtin:str.join" => (k_here; (refine join_list (News.isList (by k_asm) (by k_mem)) (by first | with_reducible assumption | assumption) (by with_reducible assumption) ?_); intro _ _)
  trivial
section
variable {prog : Program} {w : World} {A : Around} {E : Value → Shared → Prop} {s : Shared} {h₀ : Heap} {L : Addr} {m : Str → Option Value} {news : List (Addr × Obj)} {x y a b : Str} {r : List Str} {t u v : Tok} {Q : Value → Shared → Prop}
theorem pick2 (v1 v2 : Value) (rest : List Value) : (slicePick (v1 :: v2 :: rest).toArray (some 2) none none).toList = rest := by
  have e : sliceBounds (some 2) none none (v1 :: v2 :: rest).toArray.size = (((2 : Nat) : Int), (((v1 :: v2 :: rest).toArray.size : Nat) : Int), 1) := by
    simp only [sliceBounds, Option.getD_none, show (1 : Int) > 0 by decide, if_true, if_neg (show ¬ ((2 : Int) < 0) by decide), List.size_toArray, List.length_cons]
    congr 1
    omega
  rw [kmk_pick_nat _ e]
  simp
theorem sz3 {v1 v2 : Value} {rest : List Value} (hr : StrsAre rest r) (h : r.length ≤ 2000) : (v1 :: v2 :: rest).toArray.size ≤ sizeLine := by
  rw [sizeLine_eq, List.size_toArray, List.length_cons, List.length_cons, hr.length]
  omega
theorem item_at {value slice : PySem.Expr} {l : Addr} {vs : List Value} {k : Int} {u : Tok} {v : Value} (hl : s.heap.IsList l vs.toArray) (h0 : 0 ≤ k) (h1 : k < 2 ^ 63) (hx : vs[k.toNat]? = some v) (h : Q v s)
    (hs : subscripted slice false (.ref l) (.int k u) = operate [.ref l, .int k u] (getItem (.ref l) (.int k u)) := by with_unfolding_all rfl) :
    wpAny (model prog w) A (subscriptTail value slice (.ref l) (.int k u)) Q E s :=
  tail_any hl.typeIs slot_list_getitem.lookup (wpAny_getItem_list hl h0 h1 (by simpa using hx) h) hs
end
theorem parted_f3 (w : World) (x : Str) (t : Tok) (b1 b2 : Bool) (a b : Str) (r : List Str) (hx : x.length ≤ 1000) (h1 : inS (Str.ofString "\"") x = b1) (h2 : inS (Str.ofString "'") x = b2) (h3 : (b1 && !b2) = false) (h4 : Txt.split x (Str.ofString "'") = a :: b :: r) (h5 : 1 ≤ r.length) (h6 : r.length ≤ 2000) (ha : a.length ≤ 1000) (hb : b.length ≤ 1000) (hr : (Txt.join (Str.ofString "'") r).length ≤ 1000)
    (h7 : (r.map (·.length)).sum + r.length * (Str.ofString "'").length ≤ 16777216) :
    TellsO 8 w 74 [.str x t, .bool false] (fun _ => True) (fun o => ∃ u1 u2 u3, o = listOf #[.str (Str.ofString "\"" ++ S (valAll false true a.cps.toList)) u1, .str (S (valAll false true b.cps.toList)) u2, .str (S (valAll false true (Txt.join (Str.ofString "'") r).cps.toList) ++ Str.ofString "\"") u3] 0) := by
  unfold TellsO Tells
  intro p loose mean mg mb dp un gd cn cs a0 ccd cl outer A₀ base h₀ L m news s Q E B F X N T hk hneed hd hu hret
  have hv1 := valAll_len false true a ha
  have hv2 := valAll_len false true b hb
  have hv3 := valAll_len false true _ hr
  cases b1 <;> cases b2 <;> first | (exact absurd h3 (by decide)) | skip
  all_goals (
    refine wpAny_call ?_
    walk_at "m_enter"
    k_steps)
  all_goals (refine' retO hret ?rF ?rN ?rm ?rs ?rl ?rP; (case rF => k_asm); (case rN => k_asm); (case rm => k_mem); (case rs => walk_at "m_sub"); (case rl => walk_at "m_lt"); (case rP => exact ⟨_, _, _, rfl⟩))
end
section
section
variable {prog : Program} {w : World} {A : Around} {E : Value → Shared → Prop} {s : Shared} {D row L fa : Addr} {ws : List Value} {n : Nat} {h₀ : Heap} {m : Str → Option Value} {news : List (Addr × Obj)} {o0 : Obj}
  {cn : Str} {cs : Scope} {ccd : Value}
def ListEnd (h₀ : Heap) (L D : Addr) (it : Addr × Obj) (news : List (Addr × Obj)) (J : (Str → Option Value) → Obj → Prop) (s₁ : Shared) (f : Flow) (s₂ : Shared) : Prop :=
  f = .next ∧ ∃ h' tk m₂ o₂, s₂ = { s₁ with heap := h', toks := tk } ∧ 1 ≤ tk ∧ Fr h₀ L h' m₂ ∧ News h₀ L h' (it :: (D, o₂) :: news) ∧ J m₂ o₂
theorem ListEnd.intro {it : Addr × Obj} {h' : Heap} {J : (Str → Option Value) → Obj → Prop} {s₁ : Shared} {tk : Nat} {m₂ : Str → Option Value} {o₂ : Obj} (ht : 1 ≤ tk) (F : Fr h₀ L h' m₂) (N : News h₀ L h' (it :: (D, o₂) :: news)) (j : J m₂ o₂) :
    ListEnd h₀ L D it news J s₁ .next { s₁ with heap := h', toks := tk } := ⟨rfl, h', tk, m₂, o₂, rfl, ht, F, N, j⟩

/-- a loop over a made list; one object of the call's own changes -/
theorem forList_t {x nm : Str} {px pi pos : Pos} {body : List Stmt} {Q : Flow → Shared → Prop} (J : Nat → (Str → Option Value) → Obj → Prop)
    (hh : A.handled = none) (F : Fr h₀ L s.heap m) (N : News h₀ L s.heap ((D, o0) :: news)) (hv : m nm = some (.ref row)) (hm : (row, listOf ws.toArray n) ∈ news) (hD : D ≠ row) (h0 : J 0 m o0) (ht : 1 ≤ s.toks)
    (turn : ∀ i v I oI m₁ o₁ h₁ tk₁, ws[i]? = some v → (@Ne Nat I D) → 1 ≤ tk₁ → J i m₁ o₁ → Fr h₀ L h₁ m₁ → News h₀ L h₁ ((I, oI) :: (D, o₁) :: news) →
      wpAny (model prog w) A (assign (.Name x px) (envOf cn cs L fa ccd) v) (fun _ s₃ => wpAny (model prog w) A (execs body (envOf cn cs L fa ccd))
        (ListEnd h₀ L D (I, oI) news (J (i + 1)) { s with heap := h₁, toks := tk₁ }) E s₃) E { s with heap := h₁, toks := tk₁ })
    (done : ∀ h' tk m' o', 1 ≤ tk → Fr h₀ L h' m' → News h₀ L h' ((D, o') :: news) → J ws.length m' o' → Q .next { s with heap := h', toks := tk })
    (hk : cs.kind = .function := by rfl) (hx : (envOf cn cs L fa ccd).kindOf nm = some .local := by rfl) (hd : (nm == ("__debug__" : Str)) = false := by decide)
    (hE : PassesOwn (model prog w) A (envOf cn cs L fa ccd) E := by passes_own) :
    wpAny (model prog w) A (exec (.For (.Name x px) (.Name nm pi) body [] pos) (envOf cn cs L fa ccd)) Q E s := by
  have hrN := N _ (List.mem_cons_of_mem _ hm)
  have hDN := N _ (List.mem_cons_self ..)
  refine wpAny_For ?_
  refine ld F hv ?_ hk hx hd
  have hls : s.heap.IsList row ws.toArray := ⟨_, hrN.1, rfl, _, rfl⟩
  have hne : row ≠ s.heap.objs.size := Nat.ne_of_lt (Heap.lt_size hrN.1)
  have hDI : D ≠ s.heap.objs.size := Nat.ne_of_lt (Heap.lt_size hDN.1)
  have hIL : L ≠ s.heap.objs.size := Nat.ne_of_lt F.ns.lt
  have hI0 : h₀.get? s.heap.objs.size = none := next_is_new F
  refine wpAny_pyIter_list hls ?_
  generalize hI : s.heap.objs.size = I at hne hDI hIL hI0
  have hn : ∀ p ∈ (D, o0) :: news, p.1 ≠ I := fun p hp => by rw [← hI]; exact Nat.ne_of_lt (Heap.lt_size (N p hp).1)
  refine codeAny_forLoop_any
    (fun k s' => ∃ h' tk m' o' i, s' = { s with heap := h', toks := tk } ∧ 1 ≤ tk ∧ h'.IsListIter I row i ∧ Fr h₀ L h' m' ∧ News h₀ L h' ((D, o') :: news) ∧ J i m' o' ∧ i ≤ ws.length ∧ k = ws.length + 1 - i) ?_ (ws.length + 1)
    ⟨_, s.toks, m, o0, 0, rfl, ht, ⟨_, by rw [← hI]; exact Heap.get?_push_size _ rfl, rfl, rfl⟩, F.push _, fun p hp => ⟨Heap.get?_push_of_some _ (N p hp).1, (N p hp).2⟩, h0, Nat.zero_le _, rfl⟩
  rintro k s' ⟨h', tk, m', o', i, rfl, htk, hit, F', N', hJ, hi, rfl⟩
  have hr' : h'.IsList row ws.toArray := ⟨_, (N' _ (List.mem_cons_of_mem _ hm)).1, rfl, _, rfl⟩
  have hn' : ∀ p ∈ (D, o') :: news, p.1 ≠ I := fun p hp => by
    rcases List.mem_cons.mp hp with rfl | hp
    · exact hDI
    · exact hn p (List.mem_cons_of_mem _ hp)
  have next : ∀ h₁ : Heap, (∀ b o, b ≠ I → h'.get? b = some o → h₁.get? b = some o) → Fr h₀ L h₁ m' ∧ News h₀ L h₁ ((D, o') :: news) := fun h₁ hk₁ =>
    ⟨⟨F'.ns.at' fun o e => hk₁ _ o hIL e, fun b o e => hk₁ b o (fun q => by rw [q, hI0] at e; cases e) (F'.keep b o e), F'.above⟩, fun p hp => ⟨hk₁ _ _ (hn' p hp) (N' p hp).1, (N' p hp).2⟩⟩
  by_cases hlt : i < ws.length
  · refine wpAny_pyNext_list_item hit hr' (x := ws[i]) (by simp [hlt]) fun h₁ hit' hs' => ?_
    refine wpAny_pure ?_
    obtain ⟨F₁, N₁⟩ := next h₁ fun b o hb e => hs'.extBut b o hb e
    obtain ⟨oI, hoI, hc, hdat⟩ := hit'
    have N₂ : News h₀ L h₁ ((I, oI) :: (D, o') :: news) := fun p hp => by
      rcases List.mem_cons.mp hp with rfl | hp
      · exact ⟨hoI, Ne.symm hIL, hI0⟩
      · exact N₁ p hp
    refine wpAny_passesOwn hE (wpAny_mono (turn i ws[i] I oI m' o' h₁ tk (List.getElem?_eq_getElem hlt) (Ne.symm hDI) htk hJ F₁ N₂) (fun _ s₂ h₂ => wpAny_passesOwn hE (wpAny_mono h₂ (fun f s₃ h₃ => ?_) fun _ _ e => e)) fun _ _ e => e)
    obtain ⟨rfl, h₃', tk₃, m₂, o₂, rfl, ht₃, F₃, N₃, j⟩ := h₃
    refine ⟨ws.length + 1 - (i + 1), by omega, h₃', tk₃, m₂, o₂, i + 1, rfl, ht₃, ⟨oI, (N₃ _ (List.mem_cons_self ..)).1, hc, hdat⟩, F₃, fun p hp => N₃ p (List.mem_cons_of_mem _ hp), j, hlt, rfl⟩
  · have hin : i = ws.length := by omega
    subst hin
    refine wpAny_pyNext_list_end hh hit hr' (by simp) fun h₁ he => wpAny_execs_nil ?_
    obtain ⟨F₁, N₁⟩ := next h₁ he
    exact done h₁ tk m' o' htk F₁ N₁ hJ
end
end
section
def lob (vs : List Value) (k : Nat) : Obj := { cls := .type "list", data := .seq vs.toArray k }
def DealJ (c : Nat) (base : Str → Option Value) (i : Nat) (m : Str → Option Value) (o : Obj) : Prop :=
  ∃ (ux : Option Value) (p : Int) (tp : Tok) (vs : List Value) (ss : List Str) (k : Nat), m = (fun y => if y = Str.ofString "place" then some (.int p tp) else if y = Str.ofString "x" then ux else base y) ∧
    o = lob vs k ∧ StrsAre vs ss ∧ ss.length = c ∧ 0 ≤ p ∧ p < (c : Int) ∧ ∀ x ∈ ss, x.length ≤ 6 * i
theorem start_map {base : Str → Option Value} {v : Value} : (fun y => if y = Str.ofString "place" then some v else base y) = (fun y => if y = Str.ofString "place" then some v else if y = Str.ofString "x" then base (Str.ofString "x") else base y) := by
  funext y
  by_cases h : y = Str.ofString "x"
  · subst h; rfl
  · rw [if_neg h]
theorem compEnd_all {h₀ : Heap} {L I C D : Addr} {m : Str → Option Value} {s₁ : Shared} {oI oC oD : Obj} {S : List (Addr × Obj) → Prop} {rest : Value → List (Addr × Obj) → Prop} {y : Value} {h' : Heap} {tk : Nat} {news' : List (Addr × Obj)}
    (F : Fr h₀ L h' m) (N : News h₀ L h' ((I, oI) :: (C, oC) :: (D, oD) :: news')) (off : LCg.Off3 I C D news') (hS : S news') (r : rest y news') :
    LCg.CompEnd h₀ L m s₁ I oI C oC D oD S rest y { s₁ with heap := h', toks := tk } := LCg.CompEnd.intro F N news' (fun _ hp => hp) off hS r
def StopHere (P : Prop) : Prop := P
theorem stopHere {P : Prop} (h : StopHere P) : P := h
theorem off1_mem {D : Addr} : ∀ {l : List (Addr × Obj)}, LCg.Off1 D l → ∀ p ∈ l, p.1 ≠ D
  | [], _, _, h => nomatch h
  | _ :: _, x, p, h => by
    rcases List.mem_cons.mp h with rfl | h
    · exact x.1
    · exact off1_mem x.2 p h
theorem int_at {ws : List Value} {ms : List Int} (hi : IntsAre ws ms) {i : Nat} {v : Value} (h : ws[i]? = some v) : ∃ n t, v = .int n t := by
  induction hi generalizing i with
  | nil => simp at h
  | cons n t _ ih =>
    cases i with
    | zero => simp at h; exact ⟨n, t, h.symm⟩
    | succ j => simp at h; exact ih h
section
variable {prog : Program} {w : World} {A : Around} {E : Value → Shared → Prop} {s : Shared} {h₀ : Heap} {L D I T : Addr} {m : Str → Option Value} {news rest : List (Addr × Obj)} {vs : List Value} {ss : List Str} {k : Nat} {oI : Obj} {p : Int} {tp : Tok} {b : Nat}
theorem str_at : ∀ {vs : List Value} {ss : List Str}, StrsAre vs ss → ∀ {j : Nat}, j < ss.length → ∃ x t, vs[j]? = some (.str x t) ∧ x ∈ ss
  | _, _, .nil, _, h => absurd h (Nat.not_lt_zero _)
  | _, _, .cons x t _, 0, _ => ⟨x, t, rfl, List.mem_cons_self ..⟩
  | _, _, .cons _ _ r, j + 1, h => by
    obtain ⟨x, t, h1, h2⟩ := str_at r (Nat.lt_of_succ_lt_succ h)
    exact ⟨x, t, by simpa using h1, List.mem_cons_of_mem _ h2⟩
theorem strs_set {x : Str} {u : Tok} : ∀ {vs : List Value} {ss : List Str}, StrsAre vs ss → ∀ j : Nat, StrsAre (vs.set j (.str x u)) (ss.set j x)
  | _, _, .nil, _ => .nil
  | _, _, .cons _ _ h, 0 => .cons x u h
  | _, _, .cons y t h, j + 1 => .cons y t (strs_set h j)
theorem getPart {Q : Value → Shared → Prop} (N : News h₀ L s.heap news) (hm : (D, lob vs k) ∈ news) (hi : StrsAre vs ss) (h0 : 0 ≤ p) (h1 : p < (ss.length : Int)) (h63 : ss.length ≤ 100) (hb : ∀ x ∈ ss, x.length ≤ b)
    (h : ∀ x t, x.length ≤ b → Q (.str x t) s) : wpAny (model prog w) A (getItem (.ref D) (.int p tp)) Q E s := by
  obtain ⟨x, t, h2, h3⟩ := str_at hi (j := p.toNat) (by omega)
  exact wpAny_getItem_list (News.isList N hm) h0 (by omega) (by simpa using h2) (h x t (hb x h3))
theorem setPart {v : Value} {Q : Unit → Shared → Prop} (F : Fr h₀ L s.heap m) (N : News h₀ L s.heap ((I, oI) :: (D, lob vs k) :: rest)) (hID : (@Ne Nat I D)) (hr : ∀ p ∈ rest, p.1 ≠ D) (hi : StrsAre vs ss) (h0 : 0 ≤ p) (h1 : p < (ss.length : Int)) (h63 : ss.length ≤ 100)
    (h : ∀ h', Fr h₀ L h' m → News h₀ L h' ((I, oI) :: (D, lob (vs.set p.toNat v) k) :: rest) → Q () { s with heap := h' }) :
    wpAny (model prog w) A (setItem (.ref D) (.int p tp) v) Q E s := by
  have z := N (D, lob vs k) (List.mem_cons_of_mem _ (List.mem_cons_self ..))
  have hl : vs.length = ss.length := hi.length
  have hs : vs.toArray.size = ss.length := by rw [List.size_toArray]; exact hl
  refine ki_setAt z.1 h0 (by omega) (by rw [hs]; exact h1) (h _ (F.change (Heap.SameBut.update ..) z.2.1 z.2.2) (ki_turn (pre := [(I, oI)]) _ N ?_ hr ?_ ?_))
  · intro q hq
    rw [List.mem_singleton.mp hq]
    exact hID
  · show vs.toArray.setIfInBounds p.toNat v = (vs.set p.toNat v).toArray
    apply Array.toList_inj.mp
    simp
  · simp
theorem piece_at {t0 t1 t2 t3 t4 t5 t6 t7 : Tok} {j : Nat} (h : j < 8) : ∃ y t, ([.str (Str.ofString "'") t0, .str (Str.ofString "&") t1, .str (Str.ofString "<") t2, .str (Str.ofString "\"") t3, .str (Str.ofString "a") t4, .str (Str.ofString "&apos;") t5, .str (Str.ofString ">") t6, .str (Str.ofString "\t") t7] : List Value)[j]? = some (.str y t) ∧ y.length ≤ 6 := by
  match j, h with
  | 0, _ => exact ⟨_, _, rfl, by decide +kernel⟩
  | 1, _ => exact ⟨_, _, rfl, by decide +kernel⟩
  | 2, _ => exact ⟨_, _, rfl, by decide +kernel⟩
  | 3, _ => exact ⟨_, _, rfl, by decide +kernel⟩
  | 4, _ => exact ⟨_, _, rfl, by decide +kernel⟩
  | 5, _ => exact ⟨_, _, rfl, by decide +kernel⟩
  | 6, _ => exact ⟨_, _, rfl, by decide +kernel⟩
  | 7, _ => exact ⟨_, _, rfl, by decide +kernel⟩
theorem getPiece {value slice : PySem.Expr} {t0 t1 t2 t3 t4 t5 t6 t7 : Tok} {Q : Value → Shared → Prop} (N : News h₀ L s.heap news)
    (hm : (T, ({ cls := .type "tuple", data := .seq (List.toArray [.str (Str.ofString "'") t0, .str (Str.ofString "&") t1, .str (Str.ofString "<") t2, .str (Str.ofString "\"") t3, .str (Str.ofString "a") t4, .str (Str.ofString "&apos;") t5, .str (Str.ofString ">") t6, .str (Str.ofString "\t") t7]) } : Obj)) ∈ news)
    (h0 : 0 ≤ p) (h1 : p < 8) (h : ∀ x t, x.length ≤ 6 → Q (.str x t) s)
    (hs : subscripted slice false (.ref T) (.int p tp) = operate [.ref T, .int p tp] (getItem (.ref T) (.int p tp)) := by with_unfolding_all rfl) :
    wpAny (model prog w) A (subscriptTail value slice (.ref T) (.int p tp)) Q E s := by
  obtain ⟨y, t, h2, h3⟩ := piece_at (t0 := t0) (t1 := t1) (t2 := t2) (t3 := t3) (t4 := t4) (t5 := t5) (t6 := t6) (t7 := t7) (j := p.toNat) (by omega)
  refine item_tupleT (News.isTup N hm) (by omega) (by omega) (j := p.toNat) ?_ h2 (h y t h3) hs
  show seqIndex? p 8 = some p.toNat
  have a1 : ¬ p < 0 := by omega
  have a2 : (decide (0 ≤ p) && decide (p < ((8 : Nat) : Int))) = true := by
    rw [decide_eq_true h0, decide_eq_true (by omega : p < ((8 : Nat) : Int))]; rfl
  unfold seqIndex?
  simp only [if_neg a1]
  rw [if_pos a2]
end
theorem off1_cons {D a : Addr} {o : Obj} {news : List (Addr × Obj)} (h : a ≠ D ∧ LCg.Off1 D news) : ∀ q ∈ (a, o) :: news, q.1 ≠ D := fun q hq => by
  rcases List.mem_cons.mp hq with rfl | hq
  · exact h.1
  · exact off1_mem h.2 q hq
theorem dealJ_turn {c i j k : Nat} {base : Str → Option Value} {ux : Option Value} {v : Value} {p q : Int} {tp tq u : Tok} {vs : List Value} {ss : List Str} {y : Str}
    (hvs : StrsAre vs ss) (hlen : ss.length = c) (hss : ∀ x ∈ ss, x.length ≤ 6 * i) (hy : y.length ≤ 6 * i + 6) (h0 : 0 ≤ q) (h1 : q < (c : Int)) :
    DealJ c base (i + 1) (fun z => if z = Str.ofString "place" then some (.int q tq) else if z = Str.ofString "x" then some v else if z = Str.ofString "place" then some (.int p tp) else if z = Str.ofString "x" then ux else base z) (lob (vs.set j (.str y u)) k) := by
  refine ⟨some v, q, tq, _, _, k, ?_, rfl, strs_set hvs j, by rw [List.length_set]; exact hlen, h0, h1, ?_⟩
  · funext z
    by_cases e1 : z = Str.ofString "place"
    · simp only [if_pos e1]
    · skip
      by_cases e2 : z = Str.ofString "x"
      · simp only [if_neg e1, if_pos e2]
      · simp only [if_neg e1, if_neg e2]
  · intro x hx
    rcases List.mem_or_eq_of_mem_set hx with h | rfl
    · have := hss x h; omega
    · omega
def DealP (c b : Nat) (o : Obj) : Prop := ∃ (vs : List Value) (ss : List Str) (k : Nat), o = lob vs k ∧ StrsAre vs ss ∧ ss.length = c ∧ ∀ x ∈ ss, x.length ≤ b
/-- as Tells, but nothing told of the order of the new addresses -/
def TellsQ (lv : Nat) (w : World) (f : Addr) (vs : List Value) (need : List (Addr × Obj) → Prop) (P : Obj → Prop) : Prop :=
  ∀ (p : Program) (loose : List Str) (mean : ExcName → Option Value) (mg mb : Str → Option Value) (dp un : Nat) (gd : Option (List Code)) (cn : Str) (cs : Scope) (a : Addr) (ccd : Value) (cl : List (Str × Addr)) (outer : List Env) (A₀ : Around) (base h₀ : Heap) (L : Addr) (m : Str → Option Value) (news : List (Addr × Obj)) (s : Shared) (Q E : Value → Shared → Prop),
    Below A₀ base outer h₀ → Fr h₀ L s.heap m → (hd.heap_39 w.params).In h₀ → News h₀ L s.heap news → Top p loose mean mg mb h₀ → cs.kind = .function → need news → dp + lv < recursionLimit → un + 10 * lv < cLine →
    (∀ D o h' tk', 1 ≤ tk' → LCg.Off1 D news → Fr h₀ L h' m → News h₀ L h' ((D, o) :: news) → P o → Q (.ref D) { s with heap := h', toks := tk' }) →
    wpAny (model PySem.Challenge.rw_ij0155_01.row.prog w) (ktrTop dp un gd cn cs L a ccd cl outer) (call (.ref f) vs) Q E s
theorem tellsQ_use {lv : Nat} {w : World} {f : Addr} {vs : List Value} {need : List (Addr × Obj) → Prop} {P : Obj → Prop} (C : TellsQ lv w f vs need P)
    {p : Program} {loose : List Str} {mean : ExcName → Option Value} {mg mb : Str → Option Value} {dp un : Nat} {gd : Option (List Code)} {cn : Str} {cs : Scope} {a : Addr} {ccd : Value} {cl : List (Str × Addr)} {outer : List Env} {A₀ : Around} {base h₀ : Heap} {L : Addr} {m : Str → Option Value} {news : List (Addr × Obj)} {s : Shared} {Q E : Value → Shared → Prop}
    (B : Below A₀ base outer h₀) (F : Fr h₀ L s.heap m) (X : (hd.heap_39 w.params).In h₀) (N : News h₀ L s.heap news) (T : Top p loose mean mg mb h₀) (hk : cs.kind = .function) (hn : need news) (h1 : dp + lv < recursionLimit) (h2 : un + 10 * lv < cLine)
    (ret : ∀ D o h' tk', 1 ≤ tk' → LCg.Off1 D news → Fr h₀ L h' m → News h₀ L h' ((D, o) :: news) → P o → Q (.ref D) { s with heap := h', toks := tk' }) :
    wpAny (model PySem.Challenge.rw_ij0155_01.row.prog w) (ktrTop dp un gd cn cs L a ccd cl outer) (call (.ref f) vs) Q E s :=
  C p loose mean mg mb dp un gd cn cs a ccd cl outer A₀ base h₀ L m news s Q E B F X N T hk hn h1 h2 ret
theorem retQ {h₀ h' : Heap} {L : Addr} {m : Str → Option Value} {news all : List (Addr × Obj)} {s : Shared} {Q : Value → Shared → Prop} {D : Addr} {o : Obj} {P : Obj → Prop} {tk' : Nat}
    (hret : ∀ D o h' tk', 1 ≤ tk' → LCg.Off1 D news → Fr h₀ L h' m → News h₀ L h' ((D, o) :: news) → P o → Q (.ref D) { s with heap := h', toks := tk' })
    (ht : 1 ≤ tk') (ho : LCg.Off1 D news) (F : Fr h₀ L h' m) (N : News h₀ L h' all) (hm : (D, o) ∈ all) (hs : ∀ p ∈ news, p ∈ all) (hP : P o) : Q (.ref D) { s with heap := h', toks := tk' } := by
  refine hret D o h' tk' ht ho F (fun p hp => ?_) hP
  rcases List.mem_cons.mp hp with rfl | hp
  · exact N _ hm
  · exact N p (hs p hp)
theorem one_len {c : Nat} : (⟨#[c]⟩ : Str).length = 1 := rfl
end
section
theorem startDealt : True := by
  k_with_none
  w_top off
  k_with "m_sub" => (intro p9 hp9; repeat (first | exact hp9 | refine List.mem_cons_of_mem _ ?_))
  k_with "m_lt" => (first | with_reducible assumption | (apply allLt_mem; first | with_reducible assumption | exact And.right (by with_reducible assumption) | exact And.right (And.right (by with_reducible assumption)) | exact And.right (And.right (And.right (by with_reducible assumption)))))
  k_with "m_enter" => (k_dflt (refine' code_def ?z9k1 ?z9k2 ?z9k3 ?z9k4 ?z9k5 ?z9kA ?z9kF ?z9kK ?z9k6 ?z9k7 ?z9k8 ?z9k9 ?z9kB ?_ ?z9c2 ?z9c3 ?z9c4 ?z9c5; (case z9kA => exact rfl); (case z9kF => exact rfl); (case z9kK => assumption); (case z9k1 => k_asm); (case z9k2 => k_asm); (case z9k3 => k_asm); (case z9k4 => k_asm); (case z9k5 => k_asm); (case z9k6 => k_is); (case z9k7 => k_is); (case z9k8 => ktr_room); (case z9k9 => first | exact BindsTo.of_eq rfl | exact binds_K (by k_in) rfl (by k_is) rfl rfl rfl); (case z9c5 => decide); (case z9kB => exact locs rfl); (case z9c2 => exact rfl); (case z9c3 => exact rfl); (case z9c4 => exact rfl); k_whole; intro g' L' h' FG' F' N' B' X' T'; (try dsimp only); (try k_lift B'); (try k_fold)))
  k_with "m_enterC" => (k_dflt (refine' code_defC ?z9k1 ?z9k2 ?z9k3 ?z9k4 ?z9k5 ?z9kA ?z9kF ?z9kK ?z9k6 ?z9k7 ?z9k8 ?z9k9 ?z9kB ?z9kD ?_ ?z9c2 ?z9c3 ?z9c4; (case z9kA => exact rfl); (case z9kF => exact rfl); (case z9kK => assumption); (case z9k1 => k_asm); (case z9k2 => k_asm); (case z9k3 => k_asm); (case z9k4 => k_asm); (case z9k5 => k_asm); (case z9k6 => k_is); (case z9k7 => k_is); (case z9k8 => ktr_room); (case z9k9 => first | exact BindsTo.of_eq rfl | exact binds_K (by k_in) rfl (by k_is) rfl rfl rfl); (case z9kB => exact rfl); (case z9kD => decide +kernel); (case z9c2 => exact rfl); (case z9c3 => exact rfl); (case z9c4 => exact rfl); k_whole; intro g' L' h' tk' cells' FG' F' N' Y' B' X' T' l1; (try k_lt l1); k_cells Y'; (try simp only [List.cons_append, List.nil_append] at N'); (try dsimp only); (try k_lift B'); (try k_fold)))
  k_with "exec For Name Name cons nil" => (k_here; refine stopHere ?_)
  k_with "CompEnd" => (k_here; k_dflt (refine' compEnd_all ?z9F ?z9N ?z9off ?z9src ?_; (case z9F => k_asm); (case z9N => k_asm); (case z9off => assumption); (case z9src => exact True.intro)))
  k_with "getItem ref int" => (k_here; (refine getPart (by k_asm) (by k_mem) (by with_reducible assumption) (by with_reducible assumption) (by omega) (by omega) (by with_reducible assumption) ?_); intro x8 t8 hx8)
  k_with "setItem ref int" => (k_here; (refine setPart (by k_asm) (by k_asm) (by with_reducible assumption) (off1_cons (by with_reducible assumption)) (by with_reducible assumption) (by with_reducible assumption) (by omega) (by omega) ?_); intro h' F' N')
  k_with "subscriptTail" => (k_here; (with_reducible show wpAny _ _ (subscriptTail _ _ (Value.ref _) (Value.int _ _)) _ _ _); (k_dflt (refine getPiece (by k_asm) (by k_mem) (by omega) (by omega) ?_)); intro x8 t8 hx8)
  k_with "inplaceOp Add str str" => (k_here; (refine SB.iadd ?_ (by kopn_len)); intro _ _)
  trivial
theorem dealt3 (w : World) (row : Addr) (ws : List Value) (ms : List Int) (u : Tok) (n : Nat) (hi : IntsAre ws ms) (hl : ms.length ≤ 100) :
    TellsQ 4 w 79 [.ref row, .int 3 u] (fun news => (row, listOf ws.toArray n) ∈ news) (DealP 3 (6 * ms.length)) := by
  unfold TellsQ
  intro p loose mean mg mb dp un gd cn cs a ccd cl outer A₀ base h₀ L m news s Q E B F X N T hk hneed hd hu hret
  refine wpAny_call ?_
  walk_at "m_enter"
  k_steps
  unfold StopHere
  rename _ ∧ LCg.Off1 _ _ => o9
  refine forList_t (news := _ :: news) (o0 := lob _ 3) (DealJ 3 _) rfl (by k_asm) (by k_asm) rfl (List.mem_cons_of_mem _ hneed) ?hD ⟨_, 0, _, _, _, 3, start_map, rfl, StrsAre.cons _ _ (.cons _ _ (.cons _ _ .nil)), rfl, Int.le_refl _, by decide, ?h0⟩ ?ht ?turn ?done
  case hD => exact Ne.symm (off1_mem o9.2 _ hneed)
  case ht => first | exact Nat.le_add_left 1 _ | (dsimp only; omega)
  case h0 => intro x hx; simp only [List.mem_cons, List.not_mem_nil, or_false, or_self] at hx; subst hx; decide +kernel
  case turn =>
    intro i v I oI m₁ o₁ h₁ tk₁ hx hID htk₁ hJ F₁ N₁
    obtain ⟨ux, p, tp, vs, ss, k, rfl, rfl, hvs, hlen, hp0, hp1, hss⟩ := hJ
    obtain ⟨nn, tn, rfl⟩ := int_at hi hx
    have hil : i < ms.length := by rw [← hi.length]; exact (List.getElem?_eq_some_iff.mp hx).1
    have hf0 : 0 ≤ nn.fmod 9 := fmod_lo _ (by decide)
    have hb6 : 6 * i ≤ 600 := by omega
    k_steps
    all_goals (refine' ListEnd.intro ?rt ?rF ?rN ?rj; (case rt => first | exact Nat.le_add_left 1 _ | (dsimp only; omega)); (case rF => k_asm); (case rN => k_asm); (case rj => exact dealJ_turn hvs hlen hss (by first | (rw [Str.length_append, one_len]; omega) | (rw [Str.length_append]; omega)) (fmod_lo _ (by decide)) (fmod_hi _ (by decide))))
  case done =>
    intro h' tk m' o' htk F' N' hJ
    obtain ⟨ux, p, tp, vs, ss, k, rfl, rfl, hvs, hlen, hp0, hp1, hss⟩ := hJ
    k_steps
    all_goals (refine' retQ hret ?rt o9.2 ?rF ?rN ?rm ?rs ?rP; (case rt => assumption); (case rF => k_asm); (case rN => k_asm); (case rm => k_mem); (case rs => walk_at "m_sub"); (case rP => exact ⟨_, _, _, rfl, hvs, hlen, fun x hx => by have := hss x hx; rw [hi.length] at this; exact this⟩))
theorem dealt5 (w : World) (row : Addr) (ws : List Value) (ms : List Int) (u : Tok) (n : Nat) (hi : IntsAre ws ms) (hl : ms.length ≤ 100) :
    TellsQ 4 w 79 [.ref row, .int 5 u] (fun news => (row, listOf ws.toArray n) ∈ news) (DealP 5 (6 * ms.length)) := by
  unfold TellsQ
  intro p loose mean mg mb dp un gd cn cs a ccd cl outer A₀ base h₀ L m news s Q E B F X N T hk hneed hd hu hret
  refine wpAny_call ?_
  walk_at "m_enter"
  k_steps
  unfold StopHere
  rename _ ∧ LCg.Off1 _ _ => o9
  refine forList_t (news := _ :: news) (o0 := lob _ 5) (DealJ 5 _) rfl (by k_asm) (by k_asm) rfl (List.mem_cons_of_mem _ hneed) ?hD ⟨_, 0, _, _, _, 5, start_map, rfl, StrsAre.cons _ _ (.cons _ _ (.cons _ _ (.cons _ _ (.cons _ _ .nil)))), rfl, Int.le_refl _, by decide, ?h0⟩ ?ht ?turn ?done
  case hD => exact Ne.symm (off1_mem o9.2 _ hneed)
  case ht => first | exact Nat.le_add_left 1 _ | (dsimp only; omega)
  case h0 => intro x hx; simp only [List.mem_cons, List.not_mem_nil, or_false, or_self] at hx; subst hx; decide +kernel
  case turn =>
    intro i v I oI m₁ o₁ h₁ tk₁ hx hID htk₁ hJ F₁ N₁
    obtain ⟨ux, p, tp, vs, ss, k, rfl, rfl, hvs, hlen, hp0, hp1, hss⟩ := hJ
    obtain ⟨nn, tn, rfl⟩ := int_at hi hx
    have hil : i < ms.length := by rw [← hi.length]; exact (List.getElem?_eq_some_iff.mp hx).1
    have hf0 : 0 ≤ nn.fmod 9 := fmod_lo _ (by decide)
    have hb6 : 6 * i ≤ 600 := by omega
    k_steps
    all_goals (refine' ListEnd.intro ?rt ?rF ?rN ?rj; (case rt => first | exact Nat.le_add_left 1 _ | (dsimp only; omega)); (case rF => k_asm); (case rN => k_asm); (case rj => exact dealJ_turn hvs hlen hss (by first | (rw [Str.length_append, one_len]; omega) | (rw [Str.length_append]; omega)) (fmod_lo _ (by decide)) (fmod_hi _ (by decide))))
  case done =>
    intro h' tk m' o' htk F' N' hJ
    obtain ⟨ux, p, tp, vs, ss, k, rfl, rfl, hvs, hlen, hp0, hp1, hss⟩ := hJ
    k_steps
    all_goals (refine' retQ hret ?rt o9.2 ?rF ?rN ?rm ?rs ?rP; (case rt => assumption); (case rF => k_asm); (case rN => k_asm); (case rm => k_mem); (case rs => walk_at "m_sub"); (case rP => exact ⟨_, _, _, rfl, hvs, hlen, fun x hx => by have := hss x hx; rw [hi.length] at this; exact this⟩))
theorem dealt7 (w : World) (row : Addr) (ws : List Value) (ms : List Int) (u : Tok) (n : Nat) (hi : IntsAre ws ms) (hl : ms.length ≤ 100) :
    TellsQ 4 w 79 [.ref row, .int 7 u] (fun news => (row, listOf ws.toArray n) ∈ news) (DealP 7 (6 * ms.length)) := by
  unfold TellsQ
  intro p loose mean mg mb dp un gd cn cs a ccd cl outer A₀ base h₀ L m news s Q E B F X N T hk hneed hd hu hret
  refine wpAny_call ?_
  walk_at "m_enter"
  k_steps
  unfold StopHere
  rename _ ∧ LCg.Off1 _ _ => o9
  refine forList_t (news := _ :: news) (o0 := lob _ 7) (DealJ 7 _) rfl (by k_asm) (by k_asm) rfl (List.mem_cons_of_mem _ hneed) ?hD ⟨_, 0, _, _, _, 7, start_map, rfl, StrsAre.cons _ _ (.cons _ _ (.cons _ _ (.cons _ _ (.cons _ _ (.cons _ _ (.cons _ _ .nil)))))), rfl, Int.le_refl _, by decide, ?h0⟩ ?ht ?turn ?done
  case hD => exact Ne.symm (off1_mem o9.2 _ hneed)
  case ht => first | exact Nat.le_add_left 1 _ | (dsimp only; omega)
  case h0 => intro x hx; simp only [List.mem_cons, List.not_mem_nil, or_false, or_self] at hx; subst hx; decide +kernel
  case turn =>
    intro i v I oI m₁ o₁ h₁ tk₁ hx hID htk₁ hJ F₁ N₁
    obtain ⟨ux, p, tp, vs, ss, k, rfl, rfl, hvs, hlen, hp0, hp1, hss⟩ := hJ
    obtain ⟨nn, tn, rfl⟩ := int_at hi hx
    have hil : i < ms.length := by rw [← hi.length]; exact (List.getElem?_eq_some_iff.mp hx).1
    have hf0 : 0 ≤ nn.fmod 9 := fmod_lo _ (by decide)
    have hb6 : 6 * i ≤ 600 := by omega
    k_steps
    all_goals (refine' ListEnd.intro ?rt ?rF ?rN ?rj; (case rt => first | exact Nat.le_add_left 1 _ | (dsimp only; omega)); (case rF => k_asm); (case rN => k_asm); (case rj => exact dealJ_turn hvs hlen hss (by first | (rw [Str.length_append, one_len]; omega) | (rw [Str.length_append]; omega)) (fmod_lo _ (by decide)) (fmod_hi _ (by decide))))
  case done =>
    intro h' tk m' o' htk F' N' hJ
    obtain ⟨ux, p, tp, vs, ss, k, rfl, rfl, hvs, hlen, hp0, hp1, hss⟩ := hJ
    k_steps
    all_goals (refine' retQ hret ?rt o9.2 ?rF ?rN ?rm ?rs ?rP; (case rt => assumption); (case rF => k_asm); (case rN => k_asm); (case rm => k_mem); (case rs => walk_at "m_sub"); (case rP => exact ⟨_, _, _, rfl, hvs, hlen, fun x hx => by have := hss x hx; rw [hi.length] at this; exact this⟩))
end
section
open StrLaws Builtin Builtin.Str
/-- greedy change of p by z, k signs still to be passed over -/
def rep (p z : List Nat) : Nat → List Nat → List Nat
  | _, [] => []
  | k + 1, _ :: r => rep p z k r
  | 0, c :: r => if p.isPrefixOf (c :: r) = true then z ++ rep p z (p.length - 1) r else c :: rep p z 0 r
theorem rep_nil {p z : List Nat} (k : Nat) : rep p z k [] = [] := by cases k <;> rfl
theorem rep_cons {p z : List Nat} (c : Nat) (r : List Nat) : rep p z 0 (c :: r) = if p.isPrefixOf (c :: r) = true then z ++ rep p z (p.length - 1) r else c :: rep p z 0 r := rfl
theorem rep_skip {p z : List Nat} (k c : Nat) (r : List Nat) : rep p z (k + 1) (c :: r) = rep p z k r := rfl
theorem rep_drop {p z : List Nat} : ∀ (k : Nat) (l : List Nat), rep p z k l = rep p z 0 (l.drop k)
  | 0, l => by rw [List.drop_zero]
  | k + 1, [] => by rw [rep_nil, List.drop_nil, rep_nil]
  | k + 1, c :: r => by rw [rep_skip, rep_drop k r, List.drop_succ_cons]
theorem pre_take {p l : List Nat} : p.isPrefixOf l = (l.take p.length == p) := by
  rw [Bool.eq_iff_iff, List.isPrefixOf_iff_prefix, beq_iff_eq]
  exact List.prefix_iff_eq_take.trans ⟨Eq.symm, Eq.symm⟩
theorem tl_len (x : Str) : x.cps.toList.length = x.length := by simp [Str.length]
theorem at_pre {x y : Str} {i : Nat} (hy : 1 ≤ y.length) : At x y x.length i ↔ y.cps.toList.isPrefixOf (x.cps.toList.drop i) = true := by
  unfold At
  rw [subAt_eq, pre_take, tl_len]
  constructor
  · exact fun h => h.2
  · intro h
    refine ⟨?_, h⟩
    have h1 := congrArg List.length (eq_of_beq h)
    rw [List.length_take, List.length_drop, tl_len, tl_len] at h1
    omega
theorem rep_gap {x y z : Str} {c : Nat} (hy : 1 ≤ y.length) (hc : c ≤ x.length) : ∀ (n a : Nat), a + n = c → (∀ k, a ≤ k → k < c → ¬ At x y x.length k) →
    rep y.cps.toList z.cps.toList 0 (x.cps.toList.drop a) = (x.cps.toList.drop a).take (c - a) ++ rep y.cps.toList z.cps.toList 0 (x.cps.toList.drop c)
  | 0, a, h, _ => by
    have e : a = c := h
    subst e
    rw [Nat.sub_self, List.take_zero, List.nil_append]
  | n + 1, a, h, hn => by
    have ha : a < x.cps.toList.length := by rw [tl_len]; omega
    have h1 := hn a (Nat.le_refl _) (by omega)
    rw [at_pre hy] at h1
    have ih := rep_gap (z := z) hy hc n (a + 1) (by omega) fun k q1 q2 => hn k (by omega) q2
    rw [List.drop_eq_getElem_cons ha] at h1 ⊢
    rw [rep_cons, if_neg h1, ih]
    have e : c - a = (c - (a + 1)) + 1 := by omega
    rw [e, List.take_succ_cons, List.cons_append]
theorem rep_parts {x y z : Str} (hy : 1 ≤ y.length) : ∀ (cuts : List Nat) (a f : Nat), a ≤ x.length → ChainG x y x.length a cuts f → (∀ k, f ≤ k → ¬ At x y x.length k) →
    (Str.join z (partsFrom x y.length a cuts)).cps.toList = rep y.cps.toList z.cps.toList 0 (x.cps.toList.drop a)
  | [], a, f, ha, h, hn => by
    have e : f = a := h
    subst e
    rw [rep_gap (z := z) hy (Nat.le_refl x.length) (x.length - f) f (by omega) fun k q _ => hn k q]
    have e2 : x.cps.toList.drop x.length = [] := List.drop_of_length_le (by rw [tl_len]; exact Nat.le_refl _)
    rw [e2, rep_nil, List.append_nil]
    show (strSub x f x.length).cps.toList = _
    rw [strSub_toList]
  | c :: r, a, f, ha, h, hn => by
    obtain ⟨h1, h2, h3, h4⟩ := h
    have hb := h2.1
    have ih := rep_parts (z := z) hy r (c + y.length) f (by omega) h4 hn
    obtain ⟨p, q, e⟩ := partsFrom_ne x y.length (c + y.length) r
    rw [rep_gap (z := z) hy (by omega : c ≤ x.length) (c - a) a (by omega) h3]
    show (Str.join z (strSub x a c :: partsFrom x y.length (c + y.length) r)).cps.toList = _
    rw [e] at ih ⊢
    show (strSub x a c ++ z ++ Str.join z (p :: q)).cps.toList = _
    rw [Str.cps_append, Str.cps_append, Array.toList_append, Array.toList_append, ih, strSub_toList, List.append_assoc]
    congr 1
    have hp := (at_pre hy).mp h2
    have hc : c < x.cps.toList.length := by rw [tl_len]; omega
    rw [List.drop_eq_getElem_cons hc] at hp ⊢
    have e9 : c + 1 + (y.length - 1) = c + y.length := by omega
    rw [rep_cons, if_pos hp, tl_len, rep_drop (y.length - 1), List.drop_drop, e9]
theorem replace_rep {x y z : Str} (hy : 1 ≤ y.length) : (Txt.replace x y z).cps.toList = rep y.cps.toList z.cps.toList 0 x.cps.toList := by
  obtain ⟨f, hG, hn⟩ := occ_tight x y hy
  have key := rep_parts (z := z) hy _ 0 f (Nat.zero_le _) hG hn
  rw [List.drop_zero] at key
  rw [← key]
  have h0 : (y.length == 0) = false := by cases h : y.length with | zero => omega | succ n => rfl
  unfold Txt.replace
  rw [h0, Bool.false_and, Bool.or_false]
  split
  · rename_i he
    rw [List.isEmpty_iff.mp he]
    show _ = (strSub x 0 x.length).cps.toList
    rw [sub_whole]
  · rw [glued_eq_join, partsBetween_eq]
theorem replace_S {l p z : List Nat} (hp : 1 ≤ p.length) : Txt.replace (S l) (S p) (S z) = S (rep p z 0 l) := by
  have h := replace_rep (x := S l) (y := S p) (z := S z) (by rw [S_len]; exact hp)
  rw [S_cps, S_cps, S_cps] at h
  rw [← h, S_list]
theorem rep_flat {p z : List Nat} {g g' : Nat → List Nat} (h : ∀ k r, rep p z 0 (g k ++ r) = g' k ++ rep p z 0 r) : ∀ l : List Nat, rep p z 0 (l.flatMap g) = l.flatMap g'
  | [] => rfl
  | k :: r => by rw [List.flatMap_cons, List.flatMap_cons, h, rep_flat h r]
theorem replace_flat {p z : List Nat} {g g' : Nat → List Nat} (hp : 1 ≤ p.length) (h : ∀ k r, rep p z 0 (g k ++ r) = g' k ++ rep p z 0 r) (l : List Nat) :
    Txt.replace (S (l.flatMap g)) (S p) (S z) = S (l.flatMap g') := by rw [replace_S hp, rep_flat h]
end
section
def cod : List (Nat × List Nat) → Nat → List Nat
  | [], k => [k]
  | (c, z) :: r, k => if k = c then z else cod r k
abbrev cA : Nat × List Nat := (38, [38, 97, 109, 112, 59])
abbrev cG : Nat × List Nat := (62, [38, 103, 116, 59])
abbrev cL : Nat × List Nat := (60, [38, 108, 116, 59])
abbrev cP : Nat × List Nat := (39, [38, 97, 112, 111, 115, 59])
abbrev cN : Nat × List Nat := (10, [38, 35, 49, 48, 59])
abbrev cR : Nat × List Nat := (13, [38, 35, 49, 51, 59])
abbrev cT : Nat × List Nat := (9, [38, 35, 57, 59])
abbrev cQ : Nat × List Nat := (34, [38, 113, 117, 111, 116, 59])
theorem cod_nil (l : List Nat) : l.flatMap (cod []) = l := by
  induction l with
  | nil => rfl
  | cons k r ih => rw [List.flatMap_cons, ih]; rfl
theorem cod_len {t : List (Nat × List Nat)} (ht : ∀ e ∈ t, e.2.length ≤ 6) (l : List Nat) : (S (l.flatMap (cod t))).length ≤ 6 * l.length := by
  have one : ∀ (t : List (Nat × List Nat)), (∀ e ∈ t, e.2.length ≤ 6) → ∀ k, (cod t k).length ≤ 6 := by
    intro t
    induction t with
    | nil => intro _ k; exact Nat.le_of_ble_eq_true rfl
    | cons e r ih =>
      intro h k
      obtain ⟨c, z⟩ := e
      unfold cod
      split
      · exact h _ (List.mem_cons_self ..)
      · exact ih (fun e he => h e (List.mem_cons_of_mem _ he)) k
  rw [S_len]
  induction l with
  | nil => exact Nat.le_refl 0
  | cons k r ih =>
    have := one t ht k
    rw [List.flatMap_cons, List.length_append, List.length_cons]
    omega
theorem fits {y z : Str} (hy : y.length ≤ 120000) (hz : z.length ≤ 6) : y.length + (y.length + 1) * z.length ≤ 16777216 := by
  have h : (y.length + 1) * z.length ≤ (y.length + 1) * 6 := Nat.mul_le_mul_left _ hz
  omega
theorem lit60 : Str.ofString "<" = S [60] := by decide +kernel
theorem lit62 : Str.ofString ">" = S [62] := by decide +kernel
theorem lit39 : Str.ofString "'" = S [39] := by decide +kernel
theorem lit34 : Str.ofString "\"" = S [34] := by decide +kernel
theorem lit10 : Str.ofString "\n" = S [10] := by decide +kernel
theorem lit13 : Str.ofString "\r" = S [13] := by decide +kernel
theorem lit9 : Str.ofString "\t" = S [9] := by decide +kernel
theorem stepA (k : Nat) (r : List Nat) : rep [38] [38, 97, 109, 112, 59] 0 (cod [] k ++ r) = cod [cA] k ++ rep [38] [38, 97, 109, 112, 59] 0 r := by
  by_cases h1 : k = 38
  · subst h1; simp [cod, rep_cons]
  · have : ¬ 38 = k := fun e => h1 e.symm
    simp [cod, rep_cons, h1, this]
theorem stepG (k : Nat) (r : List Nat) : rep [62] [38, 103, 116, 59] 0 (cod [cA] k ++ r) = cod [cA, cG] k ++ rep [62] [38, 103, 116, 59] 0 r := by
  by_cases h1 : k = 38
  · subst h1; simp [cod, rep_cons]
  by_cases h2 : k = 62
  · subst h2; simp [cod, rep_cons]
  have : ¬ 62 = k := fun e => h2 e.symm
  simp [cod, rep_cons, h1, h2, this]
theorem stepL (k : Nat) (r : List Nat) : rep [60] [38, 108, 116, 59] 0 (cod [cA, cG] k ++ r) = cod [cA, cG, cL] k ++ rep [60] [38, 108, 116, 59] 0 r := by
  by_cases h1 : k = 38
  · subst h1; simp [cod, rep_cons]
  by_cases h2 : k = 62
  · subst h2; simp [cod, rep_cons]
  by_cases h3 : k = 60
  · subst h3; simp [cod, rep_cons]
  have : ¬ 60 = k := fun e => h3 e.symm
  simp [cod, rep_cons, h1, h2, h3, this]
theorem stepP (k : Nat) (r : List Nat) : rep [39] [38, 97, 112, 111, 115, 59] 0 (cod [cA, cG, cL] k ++ r) = cod [cA, cG, cL, cP] k ++ rep [39] [38, 97, 112, 111, 115, 59] 0 r := by
  by_cases h1 : k = 38
  · subst h1; simp [cod, rep_cons]
  by_cases h2 : k = 62
  · subst h2; simp [cod, rep_cons]
  by_cases h3 : k = 60
  · subst h3; simp [cod, rep_cons]
  by_cases h4 : k = 39
  · subst h4; simp [cod, rep_cons]
  have : ¬ 39 = k := fun e => h4 e.symm
  simp [cod, rep_cons, h1, h2, h3, h4, this]
theorem stepN (k : Nat) (r : List Nat) : rep [10] [38, 35, 49, 48, 59] 0 (cod [cA, cG, cL] k ++ r) = cod [cA, cG, cL, cN] k ++ rep [10] [38, 35, 49, 48, 59] 0 r := by
  by_cases h1 : k = 38
  · subst h1; simp [cod, rep_cons]
  by_cases h2 : k = 62
  · subst h2; simp [cod, rep_cons]
  by_cases h3 : k = 60
  · subst h3; simp [cod, rep_cons]
  by_cases h4 : k = 10
  · subst h4; simp [cod, rep_cons]
  have : ¬ 10 = k := fun e => h4 e.symm
  simp [cod, rep_cons, h1, h2, h3, h4, this]
theorem stepR (k : Nat) (r : List Nat) : rep [13] [38, 35, 49, 51, 59] 0 (cod [cA, cG, cL, cN] k ++ r) = cod [cA, cG, cL, cN, cR] k ++ rep [13] [38, 35, 49, 51, 59] 0 r := by
  by_cases h1 : k = 38
  · subst h1; simp [cod, rep_cons]
  by_cases h2 : k = 62
  · subst h2; simp [cod, rep_cons]
  by_cases h3 : k = 60
  · subst h3; simp [cod, rep_cons]
  by_cases h4 : k = 10
  · subst h4; simp [cod, rep_cons]
  by_cases h5 : k = 13
  · subst h5; simp [cod, rep_cons]
  have : ¬ 13 = k := fun e => h5 e.symm
  simp [cod, rep_cons, h1, h2, h3, h4, h5, this]
theorem stepT (k : Nat) (r : List Nat) : rep [9] [38, 35, 57, 59] 0 (cod [cA, cG, cL, cN, cR] k ++ r) = cod [cA, cG, cL, cN, cR, cT] k ++ rep [9] [38, 35, 57, 59] 0 r := by
  by_cases h1 : k = 38
  · subst h1; simp [cod, rep_cons]
  by_cases h2 : k = 62
  · subst h2; simp [cod, rep_cons]
  by_cases h3 : k = 60
  · subst h3; simp [cod, rep_cons]
  by_cases h4 : k = 10
  · subst h4; simp [cod, rep_cons]
  by_cases h5 : k = 13
  · subst h5; simp [cod, rep_cons]
  by_cases h6 : k = 9
  · subst h6; simp [cod, rep_cons]
  have : ¬ 9 = k := fun e => h6 e.symm
  simp [cod, rep_cons, h1, h2, h3, h4, h5, h6, this]
theorem stepN' (k : Nat) (r : List Nat) : rep [10] [38, 35, 49, 48, 59] 0 (cod [cA, cG, cL, cP] k ++ r) = cod [cA, cG, cL, cP, cN] k ++ rep [10] [38, 35, 49, 48, 59] 0 r := by
  by_cases h1 : k = 38
  · subst h1; simp [cod, rep_cons]
  by_cases h2 : k = 62
  · subst h2; simp [cod, rep_cons]
  by_cases h3 : k = 60
  · subst h3; simp [cod, rep_cons]
  by_cases h0 : k = 39
  · subst h0; simp [cod, rep_cons]
  by_cases h4 : k = 10
  · subst h4; simp [cod, rep_cons]
  have : ¬ 10 = k := fun e => h4 e.symm
  simp [cod, rep_cons, h1, h2, h3, h0, h4, this]
theorem stepR' (k : Nat) (r : List Nat) : rep [13] [38, 35, 49, 51, 59] 0 (cod [cA, cG, cL, cP, cN] k ++ r) = cod [cA, cG, cL, cP, cN, cR] k ++ rep [13] [38, 35, 49, 51, 59] 0 r := by
  by_cases h1 : k = 38
  · subst h1; simp [cod, rep_cons]
  by_cases h2 : k = 62
  · subst h2; simp [cod, rep_cons]
  by_cases h3 : k = 60
  · subst h3; simp [cod, rep_cons]
  by_cases h0 : k = 39
  · subst h0; simp [cod, rep_cons]
  by_cases h4 : k = 10
  · subst h4; simp [cod, rep_cons]
  by_cases h5 : k = 13
  · subst h5; simp [cod, rep_cons]
  have : ¬ 13 = k := fun e => h5 e.symm
  simp [cod, rep_cons, h1, h2, h3, h0, h4, h5, this]
theorem stepT' (k : Nat) (r : List Nat) : rep [9] [38, 35, 57, 59] 0 (cod [cA, cG, cL, cP, cN, cR] k ++ r) = cod [cA, cG, cL, cP, cN, cR, cT] k ++ rep [9] [38, 35, 57, 59] 0 r := by
  by_cases h1 : k = 38
  · subst h1; simp [cod, rep_cons]
  by_cases h2 : k = 62
  · subst h2; simp [cod, rep_cons]
  by_cases h3 : k = 60
  · subst h3; simp [cod, rep_cons]
  by_cases h0 : k = 39
  · subst h0; simp [cod, rep_cons]
  by_cases h4 : k = 10
  · subst h4; simp [cod, rep_cons]
  by_cases h5 : k = 13
  · subst h5; simp [cod, rep_cons]
  by_cases h6 : k = 9
  · subst h6; simp [cod, rep_cons]
  have : ¬ 9 = k := fun e => h6 e.symm
  simp [cod, rep_cons, h1, h2, h3, h0, h4, h5, h6, this]
theorem stepQ (k : Nat) (r : List Nat) : rep [34] [38, 113, 117, 111, 116, 59] 0 (cod [cA, cG, cL, cN, cR, cT] k ++ r) = cod [cA, cG, cL, cN, cR, cT, cQ] k ++ rep [34] [38, 113, 117, 111, 116, 59] 0 r := by
  by_cases h1 : k = 38
  · subst h1; simp [cod, rep_cons]
  by_cases h2 : k = 62
  · subst h2; simp [cod, rep_cons]
  by_cases h3 : k = 60
  · subst h3; simp [cod, rep_cons]
  by_cases h4 : k = 10
  · subst h4; simp [cod, rep_cons]
  by_cases h5 : k = 13
  · subst h5; simp [cod, rep_cons]
  by_cases h6 : k = 9
  · subst h6; simp [cod, rep_cons]
  by_cases h7 : k = 34
  · subst h7; simp [cod, rep_cons]
  have : ¬ 34 = k := fun e => h7 e.symm
  simp [cod, rep_cons, h1, h2, h3, h4, h5, h6, h7, this]
-- the way back
theorem backL (k : Nat) (r : List Nat) : rep [38, 108, 116, 59] [60] 0 (cod [cA, cG, cL, cP] k ++ r) = cod [cA, cG, cP] k ++ rep [38, 108, 116, 59] [60] 0 r := by
  by_cases h1 : k = 38
  · subst h1; simp [cod, rep_cons]
  by_cases h2 : k = 62
  · subst h2; simp [cod, rep_cons]
  by_cases h3 : k = 60
  · subst h3; simp [cod, rep_cons, rep_skip]
  by_cases h4 : k = 39
  · subst h4; simp [cod, rep_cons]
  have : ¬ 38 = k := fun e => h1 e.symm
  simp [cod, rep_cons, h1, h2, h3, h4, this]
theorem backG (k : Nat) (r : List Nat) : rep [38, 103, 116, 59] [62] 0 (cod [cA, cG, cP] k ++ r) = cod [cA, cP] k ++ rep [38, 103, 116, 59] [62] 0 r := by
  by_cases h1 : k = 38
  · subst h1; simp [cod, rep_cons]
  by_cases h2 : k = 62
  · subst h2; simp [cod, rep_cons, rep_skip]
  by_cases h4 : k = 39
  · subst h4; simp [cod, rep_cons]
  have : ¬ 38 = k := fun e => h1 e.symm
  simp [cod, rep_cons, h1, h2, h4, this]
theorem backP (k : Nat) (r : List Nat) : rep [38, 97, 112, 111, 115, 59] [39] 0 (cod [cA, cP] k ++ r) = cod [cA] k ++ rep [38, 97, 112, 111, 115, 59] [39] 0 r := by
  by_cases h1 : k = 38
  · subst h1; simp [cod, rep_cons]
  by_cases h4 : k = 39
  · subst h4; simp [cod, rep_cons, rep_skip]
  have : ¬ 38 = k := fun e => h1 e.symm
  simp [cod, rep_cons, h1, h4, this]
theorem backA (k : Nat) (r : List Nat) : rep [38, 97, 109, 112, 59] [38] 0 (cod [cA] k ++ r) = cod [] k ++ rep [38, 97, 109, 112, 59] [38] 0 r := by
  by_cases h1 : k = 38
  · subst h1; simp [cod, rep_cons, rep_skip]
  have : ¬ 38 = k := fun e => h1 e.symm
  simp [cod, rep_cons, h1, this]
end
section
theorem r_amp (l : List Nat) : Txt.replace (S l) (Str.ofString "&") (Str.ofString "&amp;") = S (l.flatMap (cod [cA])) := by
  rw [lit_amp, v38]
  have h := replace_flat (p := [38]) (Nat.le_of_ble_eq_true rfl) stepA l
  rw [cod_nil] at h
  exact h
theorem r_gt (l : List Nat) : Txt.replace (S (l.flatMap (cod [cA]))) (Str.ofString ">") (Str.ofString "&gt;") = S (l.flatMap (cod [cA, cG])) := by
  rw [lit62, v62]; exact replace_flat (by exact Nat.le_of_ble_eq_true rfl) stepG l
theorem r_lt (l : List Nat) : Txt.replace (S (l.flatMap (cod [cA, cG]))) (Str.ofString "<") (Str.ofString "&lt;") = S (l.flatMap (cod [cA, cG, cL])) := by
  rw [lit60, v60]; exact replace_flat (by exact Nat.le_of_ble_eq_true rfl) stepL l
theorem esc3_S (l : List Nat) : esc3 (S l) = S (l.flatMap (cod [cA, cG, cL])) := by
  show Txt.replace (Txt.replace (Txt.replace (S l) _ _) _ _) _ _ = _
  rw [r_amp, r_gt, r_lt]
theorem r_ap (l : List Nat) : Txt.replace (S (l.flatMap (cod [cA, cG, cL]))) (Str.ofString "'") (Str.ofString "&apos;") = S (l.flatMap (cod [cA, cG, cL, cP])) := by
  rw [lit39, v39]; exact replace_flat (by exact Nat.le_of_ble_eq_true rfl) stepP l
theorem r_n (l : List Nat) : Txt.replace (S (l.flatMap (cod [cA, cG, cL]))) (Str.ofString "\n") (Str.ofString "&#10;") = S (l.flatMap (cod [cA, cG, cL, cN])) := by
  rw [lit10, v10]; exact replace_flat (by exact Nat.le_of_ble_eq_true rfl) stepN l
theorem r_r (l : List Nat) : Txt.replace (S (l.flatMap (cod [cA, cG, cL, cN]))) (Str.ofString "\r") (Str.ofString "&#13;") = S (l.flatMap (cod [cA, cG, cL, cN, cR])) := by
  rw [lit13, v13]; exact replace_flat (by exact Nat.le_of_ble_eq_true rfl) stepR l
theorem r_t (l : List Nat) : Txt.replace (S (l.flatMap (cod [cA, cG, cL, cN, cR]))) (Str.ofString "\t") (Str.ofString "&#9;") = S (l.flatMap (cod [cA, cG, cL, cN, cR, cT])) := by
  rw [lit9, v9]; exact replace_flat (by exact Nat.le_of_ble_eq_true rfl) stepT l
theorem r_n' (l : List Nat) : Txt.replace (S (l.flatMap (cod [cA, cG, cL, cP]))) (Str.ofString "\n") (Str.ofString "&#10;") = S (l.flatMap (cod [cA, cG, cL, cP, cN])) := by
  rw [lit10, v10]; exact replace_flat (by exact Nat.le_of_ble_eq_true rfl) stepN' l
theorem r_r' (l : List Nat) : Txt.replace (S (l.flatMap (cod [cA, cG, cL, cP, cN]))) (Str.ofString "\r") (Str.ofString "&#13;") = S (l.flatMap (cod [cA, cG, cL, cP, cN, cR])) := by
  rw [lit13, v13]; exact replace_flat (by exact Nat.le_of_ble_eq_true rfl) stepR' l
theorem r_t' (l : List Nat) : Txt.replace (S (l.flatMap (cod [cA, cG, cL, cP, cN, cR]))) (Str.ofString "\t") (Str.ofString "&#9;") = S (l.flatMap (cod [cA, cG, cL, cP, cN, cR, cT])) := by
  rw [lit9, v9]; exact replace_flat (by exact Nat.le_of_ble_eq_true rfl) stepT' l
theorem r_q (l : List Nat) : Txt.replace (S (l.flatMap (cod [cA, cG, cL, cN, cR, cT]))) dq qref = S (l.flatMap (cod [cA, cG, cL, cN, cR, cT, cQ])) := by
  show Txt.replace _ (Str.ofString "\"") (Str.ofString "&quot;") = _
  rw [lit34, v34]; exact replace_flat (by exact Nat.le_of_ble_eq_true rfl) stepQ l
theorem b_lt (l : List Nat) : Txt.replace (S (l.flatMap (cod [cA, cG, cL, cP]))) (Str.ofString "&lt;") (Str.ofString "<") = S (l.flatMap (cod [cA, cG, cP])) := by
  rw [lit60, v60]; exact replace_flat (by exact Nat.le_of_ble_eq_true rfl) backL l
theorem b_gt (l : List Nat) : Txt.replace (S (l.flatMap (cod [cA, cG, cP]))) (Str.ofString "&gt;") (Str.ofString ">") = S (l.flatMap (cod [cA, cP])) := by
  rw [lit62, v62]; exact replace_flat (by exact Nat.le_of_ble_eq_true rfl) backG l
theorem b_ap (l : List Nat) : Txt.replace (S (l.flatMap (cod [cA, cP]))) (Str.ofString "&apos;") (Str.ofString "'") = S (l.flatMap (cod [cA])) := by
  rw [lit39, v39]; exact replace_flat (by exact Nat.le_of_ble_eq_true rfl) backP l
theorem b_amp (l : List Nat) : Txt.replace (S (l.flatMap (cod [cA]))) (Str.ofString "&amp;") (Str.ofString "&") = S l := by
  rw [lit_amp, v38]
  have h := replace_flat (p := [38, 97, 109, 112, 59]) (Nat.le_of_ble_eq_true rfl) backA l
  rw [cod_nil] at h
  exact h
def l1b (t1 t2 : Tok) : L4 := [(Str.ofString "&apos;", t1, Str.ofString "'", t2)]
/-- one layer -/
abbrev lay (l : List Nat) : List Nat := l.flatMap (cod [cA, cG, cL, cP])
theorem esc_S (l : List Nat) (t1 t2 : Tok) : replF (esc3 (S l)) (l1t t1 t2) = S (lay l) := by
  rw [esc3_S]; exact r_ap l
theorem une2_S (l : List Nat) : une2 (S (lay l)) = S (l.flatMap (cod [cA, cP])) := by
  show Txt.replace (Txt.replace (S (lay l)) _ _) _ _ = _
  rw [b_lt, b_gt]
theorem une_S (l : List Nat) (t1 t2 : Tok) : une (S (lay l)) (l1b t1 t2) = S l := by
  show Txt.replace (replF (une2 (S (lay l))) (l1b t1 t2)) _ _ = _
  rw [une2_S]
  show Txt.replace (Txt.replace (S (l.flatMap (cod [cA, cP]))) (Str.ofString "&apos;") (Str.ofString "'")) _ _ = _
  rw [b_ap, b_amp]
theorem l_amp5 : (Str.ofString "&amp;").length ≤ 6 := by decide +kernel
theorem l_gt5 : (Str.ofString "&gt;").length ≤ 6 := by decide +kernel
theorem l_lt5 : (Str.ofString "&lt;").length ≤ 6 := by decide +kernel
theorem l_ap5 : (Str.ofString "&apos;").length ≤ 6 := by decide +kernel
theorem l_n5 : (Str.ofString "&#10;").length ≤ 6 := by decide +kernel
theorem l_r5 : (Str.ofString "&#13;").length ≤ 6 := by decide +kernel
theorem l_t5 : (Str.ofString "&#9;").length ≤ 6 := by decide +kernel
theorem l_q5 : qref.length ≤ 6 := by decide +kernel
theorem l_o1 : (Str.ofString "'").length ≤ 6 := by decide +kernel
theorem l_o2 : (Str.ofString "<").length ≤ 6 := by decide +kernel
theorem l_o3 : (Str.ofString ">").length ≤ 6 := by decide +kernel
theorem l_o4 : (Str.ofString "&").length ≤ 6 := by decide +kernel
theorem cl {t : List (Nat × List Nat)} {l : List Nat} (hl : l.length ≤ 20000) (ht : (t.all fun e => decide (e.2.length ≤ 6)) = true := by rfl) : (S (l.flatMap (cod t))).length ≤ 120000 := by
  have := cod_len (t := t) (fun e he => of_decide_eq_true (List.all_eq_true.mp ht e he)) l
  omega
theorem esc3Ok_S {l : List Nat} (hl : l.length ≤ 20000) : Esc3Ok (S l) where
  s1 := fits (by rw [S_len]; omega) l_amp5
  s2 := by rw [r_amp]; exact fits (by exact cl hl) l_gt5
  s3 := by rw [r_amp, r_gt]; exact fits (by exact cl hl) l_lt5
theorem good_t {l : List Nat} {t1 t2 : Tok} (hl : l.length ≤ 20000) (h1 : 1 ≤ t1) (h2 : 1 ≤ t2) (h3 : t1 < t2) : Good4 (esc3 (S l)) (l1t t1 t2) where
  nodup := by show [Str.ofString "'"].Nodup; decide +kernel
  toks := fun e he => by
    rw [List.mem_singleton.mp he]
    exact ⟨Nat.ne_of_gt h1, Nat.ne_of_gt h2, Nat.ne_of_lt h3, by show (Str.ofString "'" == Str.ofString "&apos;") = false; decide +kernel⟩
  size := fun i e he => by
    match i, he with
    | 0, he =>
      have : e = (Str.ofString "'", t1, Str.ofString "&apos;", t2) := (Option.some.inj he).symm
      subst this
      show (esc3 (S l)).length + _ ≤ _
      rw [esc3_S]
      exact fits (by exact cl hl) l_ap5
    | i + 1, he => simp [l1t] at he
theorem good_b {l : List Nat} {t1 t2 : Tok} (hl : l.length ≤ 20000) (h1 : 1 ≤ t1) (h2 : 1 ≤ t2) (h3 : t1 < t2) : Good4 (une2 (S (lay l))) (l1b t1 t2) where
  nodup := by show [Str.ofString "&apos;"].Nodup; decide +kernel
  toks := fun e he => by
    rw [List.mem_singleton.mp he]
    exact ⟨Nat.ne_of_gt h1, Nat.ne_of_gt h2, Nat.ne_of_lt h3, by show (Str.ofString "&apos;" == Str.ofString "'") = false; decide +kernel⟩
  size := fun i e he => by
    match i, he with
    | 0, he =>
      have : e = (Str.ofString "&apos;", t1, Str.ofString "'", t2) := (Option.some.inj he).symm
      subst this
      show (une2 (S (lay l))).length + _ ≤ _
      rw [une2_S]
      exact fits (by exact cl hl) l_o1
    | i + 1, he => simp [l1b] at he
theorem uneOk_S {l : List Nat} {t1 t2 : Tok} (hl : l.length ≤ 20000) : UneOk (S (lay l)) (l1b t1 t2) where
  s1 := fits (y := S (l.flatMap (cod [cA, cG, cL, cP]))) (cl hl) l_o2
  s2 := by rw [b_lt]; exact fits (by exact cl hl) l_o3
  s3 := by
    rw [une2_S]
    have h : replF (S (l.flatMap (cod [cA, cP]))) (l1b t1 t2) = S (l.flatMap (cod [cA])) := b_ap l
    rw [h]
    exact fits (by exact cl hl) l_o4
abbrev vA0 (l : List Nat) : List Nat := l.flatMap (cod [cA, cG, cL, cN, cR, cT])
abbrev vA1 (l : List Nat) : List Nat := l.flatMap (cod [cA, cG, cL, cP, cN, cR, cT])
abbrev vA2 (l : List Nat) : List Nat := l.flatMap (cod [cA, cG, cL, cN, cR, cT, cQ])
theorem q3_S (l : List Nat) : q3 (S l) = S (vA0 l) := by
  show Txt.replace (Txt.replace (Txt.replace (esc3 (S l)) _ _) _ _) _ _ = _
  rw [esc3_S, r_n, r_r, r_t]
theorem q4_S (l : List Nat) : q4 (S l) = S (vA1 l) := by
  show Txt.replace (Txt.replace (Txt.replace (Txt.replace (esc3 (S l)) _ _) _ _) _ _) _ _ = _
  rw [esc3_S, r_ap, r_n', r_r', r_t']
theorem good_3 {l : List Nat} (hl : l.length ≤ 20000) : ∀ tk, 1 ≤ tk → Good4 (esc3 (S l)) (l3 tk) := fun tk h1 => {
  nodup := by show [Str.ofString "\n", Str.ofString "\r", Str.ofString "\t"].Nodup; decide +kernel
  toks := fun e he => by
    simp only [l3, List.mem_cons, List.not_mem_nil, or_false] at he
    rcases he with rfl | rfl | rfl
    · exact ⟨Nat.ne_of_gt h1, Nat.succ_ne_zero _, Nat.ne_of_lt (Nat.lt_succ_self _), by show (Str.ofString "\n" == Str.ofString "&#10;") = false; decide +kernel⟩
    · exact ⟨by (show @Ne Nat _ _); dsimp only; omega, by (show @Ne Nat _ _); dsimp only; omega, by (show @Ne Nat _ _); dsimp only; omega, by show (Str.ofString "\r" == Str.ofString "&#13;") = false; decide +kernel⟩
    · exact ⟨by (show @Ne Nat _ _); dsimp only; omega, by (show @Ne Nat _ _); dsimp only; omega, by (show @Ne Nat _ _); dsimp only; omega, by show (Str.ofString "\t" == Str.ofString "&#9;") = false; decide +kernel⟩
  size := fun i e he => by
    match i, he with
    | 0, he =>
      have := (Option.some.inj he).symm
      subst this
      show (esc3 (S l)).length + _ ≤ _
      rw [esc3_S]
      exact fits (by exact cl hl) l_n5
    | 1, he =>
      have := (Option.some.inj he).symm
      subst this
      show (Txt.replace (esc3 (S l)) _ _).length + _ ≤ _
      rw [esc3_S]
      have h := r_n l
      show (Txt.replace (S (l.flatMap (cod [cA, cG, cL]))) (Str.ofString "\n") (Str.ofString "&#10;")).length + ((Txt.replace (S (l.flatMap (cod [cA, cG, cL]))) (Str.ofString "\n") (Str.ofString "&#10;")).length + 1) * _ ≤ _
      rw [h]
      exact fits (by exact cl hl) l_r5
    | 2, he =>
      have := (Option.some.inj he).symm
      subst this
      show (Txt.replace (Txt.replace (esc3 (S l)) (Str.ofString "\n") (Str.ofString "&#10;")) (Str.ofString "\r") (Str.ofString "&#13;")).length + ((Txt.replace (Txt.replace (esc3 (S l)) (Str.ofString "\n") (Str.ofString "&#10;")) (Str.ofString "\r") (Str.ofString "&#13;")).length + 1) * _ ≤ _
      rw [esc3_S, r_n, r_r]
      exact fits (by exact cl hl) l_t5
    | i + 3, he => simp [l3] at he }
theorem good_4 {l : List Nat} {t1 t2 : Tok} (hl : l.length ≤ 20000) (g1 : 1 ≤ t1) (g2 : 1 ≤ t2) (g3 : t1 < t2) : ∀ tk, 1 ≤ tk → Good4 (esc3 (S l)) (l1t t1 t2 ++ l3 tk) := fun tk h1 => {
  nodup := by show [Str.ofString "'", Str.ofString "\n", Str.ofString "\r", Str.ofString "\t"].Nodup; decide +kernel
  toks := fun e he => by
    rcases List.mem_append.mp he with he | he
    · exact (good_t hl g1 g2 g3).toks e he
    · exact (good_3 hl tk h1).toks e he
  size := fun i e he => by
    match i, he with
    | 0, he =>
      have := (Option.some.inj he).symm
      subst this
      show (esc3 (S l)).length + _ ≤ _
      rw [esc3_S]
      exact fits (by exact cl hl) l_ap5
    | 1, he =>
      have := (Option.some.inj he).symm
      subst this
      show (Txt.replace (esc3 (S l)) (Str.ofString "'") (Str.ofString "&apos;")).length + ((Txt.replace (esc3 (S l)) (Str.ofString "'") (Str.ofString "&apos;")).length + 1) * _ ≤ _
      rw [esc3_S, r_ap]
      exact fits (by exact cl hl) l_n5
    | 2, he =>
      have := (Option.some.inj he).symm
      subst this
      show (Txt.replace (Txt.replace (esc3 (S l)) (Str.ofString "'") (Str.ofString "&apos;")) (Str.ofString "\n") (Str.ofString "&#10;")).length + ((Txt.replace (Txt.replace (esc3 (S l)) (Str.ofString "'") (Str.ofString "&apos;")) (Str.ofString "\n") (Str.ofString "&#10;")).length + 1) * _ ≤ _
      rw [esc3_S, r_ap, r_n']
      exact fits (by exact cl hl) l_r5
    | 3, he =>
      have := (Option.some.inj he).symm
      subst this
      show (Txt.replace (Txt.replace (Txt.replace (esc3 (S l)) (Str.ofString "'") (Str.ofString "&apos;")) (Str.ofString "\n") (Str.ofString "&#10;")) (Str.ofString "\r") (Str.ofString "&#13;")).length + ((Txt.replace (Txt.replace (Txt.replace (esc3 (S l)) (Str.ofString "'") (Str.ofString "&apos;")) (Str.ofString "\n") (Str.ofString "&#10;")) (Str.ofString "\r") (Str.ofString "&#13;")).length + 1) * _ ≤ _
      rw [esc3_S, r_ap, r_n', r_r']
      exact fits (by exact cl hl) l_t5
    | i + 4, he => simp [l3, l1t] at he }
end
section
open StrLaws Builtin Builtin.Str
theorem lim_run (s sub : Str) (hi limit lo : Nat) (hw : 1 ≤ sub.length) : ∀ (m cur : Nat) (st : Array Nat × Nat), ChainG s sub hi lo st.fst.toList st.snd → (st.fst.size < limit → ∀ k, st.snd ≤ k → k < cur → ¬ At s sub hi k) → st.fst.size ≤ limit →
    ChainG s sub hi lo (forIn (List.range' cur m) st (occBody s sub hi limit)).run.fst.toList (forIn (List.range' cur m) st (occBody s sub hi limit)).run.snd ∧
    ((forIn (List.range' cur m) st (occBody s sub hi limit)).run.fst.size < limit → ∀ k, (forIn (List.range' cur m) st (occBody s sub hi limit)).run.snd ≤ k → k < cur + m → ¬ At s sub hi k)
  | 0, cur, st, h, hn, _ => ⟨h, hn⟩
  | m + 1, cur, st, h, hn, hl => by
    rw [List.range'_succ, List.forIn_cons, show cur + (m + 1) = (cur + 1) + m by omega]
    unfold occBody
    split
    · rename_i hc
      refine lim_run s sub hi limit lo hw m (cur + 1) _ ?_ ?_ ?_
      · show ChainG s sub hi lo (st.fst.push cur).toList (cur + sub.length)
        rw [Array.toList_push]
        exact chainG_snoc h hc.1.1.2 ⟨hc.1.2, hc.2⟩ (hn hc.1.1.1)
      · intro _ k h1 h2
        have h1' : cur + sub.length ≤ k := h1
        omega
      · show (st.fst.push cur).size ≤ limit
        have := hc.1.1.1
        rw [Array.size_push]; omega
    · rename_i hc
      refine lim_run s sub hi limit lo hw m (cur + 1) _ h ?_ hl
      intro hs k h1 h2 hA
      by_cases hk : k < cur
      · exact hn hs k h1 hk hA
      · have ek : k = cur := by omega
        subst ek
        exact hc ⟨⟨⟨hs, h1⟩, hA.1⟩, hA.2⟩
theorem occ_lim (x y : Str) (limit : Nat) (hw : 1 ≤ y.length) : ∃ f, ChainG x y x.length 0 (occurrences x y 0 x.length limit) f ∧ ((occurrences x y 0 x.length limit).length < limit → ∀ k, f ≤ k → ¬ At x y x.length k) := by
  rw [occ_eq]
  have key := lim_run x y x.length limit 0 hw (x.length + 1 - 0) 0 ((#[] : Array Nat), 0) rfl (fun _ k _ h => by omega) (Nat.zero_le _)
  refine ⟨_, key.1, fun hs k hk hA => ?_⟩
  exact key.2 (by simpa using hs) k hk (by have := hA.1; omega) hA
theorem sub_S (x : Str) (i j : Nat) : strSub x i j = S ((x.cps.toList.drop i).take (j - i)) := by
  rw [← strSub_toList, S_list]
theorem app_S (a b : List Nat) : S a ++ S b = S (a ++ b) := S_app a b
theorem not_of_kind {x : Str} {c : Nat} (h : (decide (x.length < (⟨#[c]⟩ : Str).length) || decide (strKind x < strKind ⟨#[c]⟩)) = true) : c ∉ x.cps.toList := by
  rw [Bool.or_eq_true, decide_eq_true_eq, decide_eq_true_eq] at h
  rcases h with h | h
  · intro hm
    have h1 : x.length < 1 := h
    have := List.length_pos_of_mem hm
    rw [tl_len] at this
    omega
  · exact kind_free x c h
theorem joinS (a b : Str) (c : Nat) (r : List Str) : (Str.join ⟨#[c]⟩ (a :: b :: r)).cps.toList = a.cps.toList ++ c :: (Str.join ⟨#[c]⟩ (b :: r)).cps.toList := by
  show (a ++ ⟨#[c]⟩ ++ Str.join ⟨#[c]⟩ (b :: r)).cps.toList = _
  rw [Str.cps_append, Str.cps_append, Array.toList_append, Array.toList_append, List.append_assoc]
  rfl
theorem split2_spec (x : Str) (c : Nat) : ∃ ps : List Str, Txt.splitMax x ⟨#[c]⟩ 2 = ps ∧ Str.join ⟨#[c]⟩ ps = x ∧
    ((∃ a, ps = [a] ∧ c ∉ a.cps.toList) ∨ (∃ a b, ps = [a, b] ∧ c ∉ a.cps.toList ∧ c ∉ b.cps.toList) ∨ (∃ a b d, ps = [a, b, d] ∧ c ∉ a.cps.toList ∧ c ∉ b.cps.toList)) := by
  unfold Txt.splitMax
  by_cases h1 : (decide (x.length < (⟨#[c]⟩ : Str).length) || decide (strKind x < strKind ⟨#[c]⟩)) = true
  · rw [if_pos h1]
    exact ⟨_, rfl, rfl, .inl ⟨x, rfl, not_of_kind h1⟩⟩
  rw [if_neg h1]
  obtain ⟨f, hG, hn⟩ := occ_lim x ⟨#[c]⟩ 2 (Nat.le_refl 1)
  obtain ⟨f', hC⟩ := occ_chain x ⟨#[c]⟩ 2
  have hle := occ_length_le x ⟨#[c]⟩ 0 x.length 2
  have hlim : limitOf x 2 = 2 := rfl
  rw [hlim]
  have hj := join_partsFrom x ⟨#[c]⟩ _ 0 f' hC
  rw [sub_whole] at hj
  generalize hcuts : occurrences x ⟨#[c]⟩ 0 x.length 2 = cuts at hG hn hC hle hj
  match cuts, hG, hn, hle, hj with
  | [], hG, hn, _, hj =>
    have e : f = 0 := hG
    subst e
    refine ⟨[x], if_pos rfl, rfl, .inl ⟨x, rfl, ?_⟩⟩
    rw [← sub_whole x]
    exact part_free x c 0 x.length (Nat.le_refl _) fun k q _ => hn (Nat.le_of_ble_eq_true rfl) k q
  | [i], hG, hn, _, hj =>
    obtain ⟨g1, g2, g3, g4⟩ := hG
    have e : f = i + (⟨#[c]⟩ : Str).length := g4
    subst e
    rw [if_neg (show ¬ ([i] : List Nat).isEmpty = true from Bool.false_ne_true), partsBetween_eq]
    refine ⟨_, rfl, hj, .inr (.inl ⟨_, _, rfl, part_free x c 0 i (by have := g2.1; omega) g3, ?_⟩)⟩
    exact part_free x c _ x.length (Nat.le_refl _) fun k q _ => hn (Nat.le_of_ble_eq_true rfl) k q
  | [i, j], hG, _, _, hj =>
    obtain ⟨g1, g2, g3, g4, g5, g6, _⟩ := hG
    rw [if_neg (show ¬ ([i, j] : List Nat).isEmpty = true from Bool.false_ne_true), partsBetween_eq]
    exact ⟨_, rfl, hj, .inr (.inr ⟨_, _, _, rfl, part_free x c 0 i (by have := g2.1; omega) g3, part_free x c _ j (by have := g5.1; omega) g6⟩)⟩
  | _ :: _ :: _ :: _, _, _, hle, _ =>
    simp only [List.length_cons] at hle
    omega
theorem cut_one {c : Nat} : ∀ {a a' b b' : List Nat}, c ∉ a → c ∉ a' → a ++ c :: b = a' ++ c :: b' → a = a' ∧ b = b'
  | [], [], b, b', _, _, h => ⟨rfl, List.tail_eq_of_cons_eq h⟩
  | [], k :: r, b, b', _, h2, h => absurd (List.head_eq_of_cons_eq h ▸ List.mem_cons_self ..) h2
  | k :: r, [], b, b', h1, _, h => absurd (List.head_eq_of_cons_eq h ▸ List.mem_cons_self ..) h1
  | k :: r, k' :: r', b, b', h1, h2, h => by
    have e1 := List.head_eq_of_cons_eq h
    have e2 := List.tail_eq_of_cons_eq h
    obtain ⟨q1, q2⟩ := cut_one (fun m => h1 (List.mem_cons_of_mem _ m)) (fun m => h2 (List.mem_cons_of_mem _ m)) e2
    exact ⟨by rw [e1, q1], q2⟩
theorem cut_in {c : Nat} {a b d : List Nat} (h : a ++ c :: b = d) (hd : c ∉ d) : False := hd (h ▸ List.mem_append_right _ (List.mem_cons_self ..))
theorem S_of {x : Str} {l : List Nat} (h : x.cps.toList = l) : x = S l := by rw [← h, S_list]
theorem split2_three {a b d : List Nat} {c : Nat} (ha : c ∉ a) (hb : c ∉ b) : Txt.splitMax (S (a ++ c :: (b ++ c :: d))) ⟨#[c]⟩ 2 = [S a, S b, S d] := by
  obtain ⟨ps, hp, hj, h⟩ := split2_spec (S (a ++ c :: (b ++ c :: d))) c
  rw [hp]
  have hj' := congrArg (fun x : Str => x.cps.toList) hj
  rw [S_cps] at hj'
  rcases h with ⟨a', rfl, h1⟩ | ⟨a', b', rfl, h1, h2⟩ | ⟨a', b', d', rfl, h1, h2⟩
  · exact absurd hj'.symm fun e => cut_in e h1
  · rw [joinS] at hj'
    obtain ⟨q1, q2⟩ := cut_one h1 ha hj'
    exact absurd q2.symm fun e => cut_in e h2
  · rw [joinS] at hj'
    obtain ⟨q1, q2⟩ := cut_one h1 ha hj'
    rw [joinS] at q2
    obtain ⟨q3, q4⟩ := cut_one h2 hb q2
    rw [S_of q1, S_of q3, S_of (x := d') q4]
theorem split2_le {l : List Nat} {c : Nat} (h : c ∉ l ∨ ∃ a b, l = a ++ c :: b ∧ c ∉ a ∧ c ∉ b) : (Txt.splitMax (S l) ⟨#[c]⟩ 2).length ≤ 2 := by
  obtain ⟨ps, hp, hj, h'⟩ := split2_spec (S l) c
  rw [hp]
  have hj' := congrArg (fun x : Str => x.cps.toList) hj
  rw [S_cps] at hj'
  rcases h' with ⟨a', rfl, h1⟩ | ⟨a', b', rfl, h1, h2⟩ | ⟨a', b', d', rfl, h1, h2⟩
  · exact Nat.le_of_ble_eq_true rfl
  · exact Nat.le_of_ble_eq_true rfl
  · rw [joinS] at hj'
    rcases h with h | ⟨a, b, rfl, ha, hb⟩
    · exact absurd hj' fun e => cut_in e h
    · obtain ⟨q1, q2⟩ := cut_one h1 ha hj'
      rw [joinS] at q2
      exact absurd q2 fun e => cut_in e hb
theorem cod_in {c : Nat} : ∀ {t : List (Nat × List Nat)} {k : Nat}, (t.all fun e => !e.2.contains c) = true → (c ∈ cod t k ↔ k = c ∧ (t.any fun e => e.1 == c) = false)
  | [], k, _ => by
    unfold cod
    rw [List.mem_singleton]
    exact ⟨fun h => ⟨h.symm, rfl⟩, fun h => h.1.symm⟩
  | (a, z) :: r, k, h => by
    rw [List.all_cons, Bool.and_eq_true] at h
    have ih := cod_in (k := k) h.2
    have hz : c ∉ z := by have := h.1; simpa using this
    unfold cod
    rw [List.any_cons]
    by_cases e : k = a
    · rw [if_pos e]
      constructor
      · exact fun m => absurd m hz
      · rintro ⟨rfl, q⟩
        rw [e] at q
        simp at q
    · rw [if_neg e, ih]
      constructor
      · rintro ⟨rfl, q⟩
        refine ⟨rfl, ?_⟩
        have : (a == k) = false := beq_false_of_ne fun q => e q.symm
        rw [this, q]; rfl
      · rintro ⟨rfl, q⟩
        refine ⟨rfl, ?_⟩
        rw [Bool.or_eq_false_iff] at q
        exact q.2
theorem flat_in {c : Nat} {t : List (Nat × List Nat)} {l : List Nat} (h : (t.all fun e => !e.2.contains c) = true) (h2 : (t.any fun e => e.1 == c) = false) : c ∈ l.flatMap (cod t) ↔ c ∈ l := by
  rw [List.mem_flatMap]
  constructor
  · rintro ⟨k, hk, hm⟩
    rw [cod_in h] at hm
    exact hm.1 ▸ hk
  · intro hm
    exact ⟨c, hm, (cod_in h).mpr ⟨rfl, h2⟩⟩
theorem flat_free {c : Nat} {t : List (Nat × List Nat)} {l : List Nat} (h : (t.all fun e => !e.2.contains c) = true) (h2 : (t.any fun e => e.1 == c) = true) : c ∉ l.flatMap (cod t) := by
  rw [List.mem_flatMap]
  rintro ⟨k, hk, hm⟩
  rw [cod_in h, h2] at hm
  exact absurd hm.2 (by decide)
theorem inS_34 (l : List Nat) : inS (Str.ofString "\"") (S l) = decide (34 ∈ l) := by
  rw [k34]
  show (!(occurrences (S l) ⟨#[34]⟩ 0 (S l).length 1).isEmpty) = _
  rw [found_one, S_cps]
theorem inS_39 (l : List Nat) : inS (Str.ofString "'") (S l) = decide (39 ∈ l) := by
  rw [k39]
  show (!(occurrences (S l) ⟨#[39]⟩ 0 (S l).length 1).isEmpty) = _
  rw [found_one, S_cps]
theorem occ34 (l : List Nat) : (occurrences (S l) dq 0 (S l).length 1).isEmpty = !decide (34 ∈ l) := by
  rw [← inS_34]; show _ = !(!_); rw [Bool.not_not]
theorem occ39 (l : List Nat) : (occurrences (S l) tickS 0 (S l).length 1).isEmpty = !decide (39 ∈ l) := by
  rw [← inS_39]; show _ = !(!_); rw [Bool.not_not]
theorem qv_no {l : List Nat} (h : 34 ∉ l) : quoteV (S l) = dq ++ S l ++ dq := by
  unfold quoteV
  rw [occ34, decide_eq_false h]; rfl
theorem qv_one {l : List Nat} (h : 34 ∈ l) (h2 : 39 ∉ l) : quoteV (S l) = tickS ++ S l ++ tickS := by
  unfold quoteV
  rw [occ34, decide_eq_true h, occ39, decide_eq_false h2]; rfl
theorem qv_both {l : List Nat} (h : 34 ∈ l) (h2 : 39 ∈ l) : quoteV (S l) = dq ++ Txt.replace (S l) dq qref ++ dq := by
  unfold quoteV
  rw [occ34, decide_eq_true h, occ39, decide_eq_true h2]; rfl
end
section
open StrLaws Builtin Builtin.Str
theorem flat_congr {f g : Nat → List Nat} (l : List Nat) (h : ∀ k ∈ l, f k = g k) : l.flatMap f = l.flatMap g := by
  induction l with
  | nil => rfl
  | cons k r ih => rw [List.flatMap_cons, List.flatMap_cons, h k (List.mem_cons_self ..), ih fun q hq => h q (List.mem_cons_of_mem _ hq)]
theorem val_ff (l : List Nat) : valAll false false l = vA0 l := flat_congr l fun k _ => by
  unfold val1; simp only [cod, Bool.false_eq_true, false_and, if_false]
  repeat' split
  all_goals first | rfl | (exfalso; omega)
theorem val_tf (l : List Nat) : valAll true false l = vA1 l := flat_congr l fun k _ => by
  unfold val1; simp only [cod, Bool.false_eq_true, false_and, true_and, if_false]
  repeat' split
  all_goals first | rfl | (exfalso; omega)
theorem val_ft (l : List Nat) : valAll false true l = vA2 l := flat_congr l fun k _ => by
  unfold val1; simp only [cod, Bool.false_eq_true, false_and, true_and, if_false]
  repeat' split
  all_goals first | rfl | (exfalso; omega)
theorem val_tt {l : List Nat} (h : 34 ∉ l) : valAll true true l = vA1 l := flat_congr l fun k hk => by
  have h34 : k ≠ 34 := fun e => h (e ▸ hk)
  unfold val1; simp only [cod, true_and, h34, if_false]
  repeat' split
  all_goals first | rfl | (exfalso; omega)
theorem vA_same {l : List Nat} (h : 34 ∉ l) : vA0 l = vA2 l := flat_congr l fun k hk => by
  have h34 : k ≠ 34 := fun e => h (e ▸ hk)
  simp only [cod, h34, if_false]
theorem dp1_lay (k : Nat) : dp1 1 k = cod [cA, cG, cL, cP] k := by
  unfold dp1 nameOf
  simp only [cod]
  repeat' split
  all_goals first | rfl | (exfalso; omega)
theorem dp_lay (l : List Nat) : dpAll 1 l = lay l := flat_congr l fun k _ => dp1_lay k
theorem dp0 (l : List Nat) : dpAll 0 l = l := by
  have h : dpAll 0 l = l.flatMap (cod []) := flat_congr l fun k _ => rfl
  rw [h, cod_nil]
theorem dp_app (n : Nat) (a b : List Nat) : dpAll n (a ++ b) = dpAll n a ++ dpAll n b := List.flatMap_append
theorem dp_cons (n k : Nat) (a : List Nat) : dpAll n (k :: a) = dp1 n k ++ dpAll n a := List.flatMap_cons
theorem dp1_free {n k : Nat} (h : ¬ (k = 38 ∨ k = 60 ∨ k = 62 ∨ k = 39)) : dp1 n k = [k] := by
  unfold dp1; rw [if_neg h]; split <;> rfl
theorem dp_free {n : Nat} : ∀ {l : List Nat}, (∀ k ∈ l, ¬ (k = 38 ∨ k = 60 ∨ k = 62 ∨ k = 39)) → dpAll n l = l
  | [], _ => rfl
  | k :: r, h => by rw [dp_cons, dp1_free (h k (List.mem_cons_self ..)), dp_free fun q hq => h q (List.mem_cons_of_mem _ hq)]; rfl
theorem dp_succ1 (n k : Nat) (hn : n ≤ 2) : dpAll n (dp1 1 k) = dp1 (n + 1) k := by
  by_cases h : k = 38 ∨ k = 60 ∨ k = 62 ∨ k = 39
  · rcases h with rfl | rfl | rfl | rfl <;> (rcases (by omega : n = 0 ∨ n = 1 ∨ n = 2) with rfl | rfl | rfl <;> decide +kernel)
  · rw [dp1_free h, dp1_free h]
    show [k].flatMap (dp1 n) = _
    rw [List.flatMap_singleton, dp1_free h]
theorem dp_succ (n : Nat) (hn : n ≤ 2) : ∀ l : List Nat, dpAll n (lay l) = dpAll (n + 1) l
  | [] => rfl
  | k :: r => by
    have ih := dp_succ n hn r
    rw [dp_cons]
    show dpAll n (List.flatMap (cod [cA, cG, cL, cP]) (k :: r)) = _
    rw [List.flatMap_cons, dp_app, ih, ← dp1_lay, dp_succ1 n k hn]
theorem dp_len (n : Nat) (hn : n ≤ 3) (l : List Nat) : (S (dpAll n l)).length ≤ 14 * l.length := by
  rw [S_len]
  induction l with
  | nil => exact Nat.le_refl 0
  | cons k r ih =>
    have := dp1_len n k hn
    rw [dp_cons, List.length_append, List.length_cons]
    omega
/-- three parts of a layer -/
abbrev glue3 (a b c : List Nat) : List Nat := lay a ++ 39 :: (lay b ++ 39 :: lay c)
theorem glue_dp (n : Nat) (hn : n ≤ 2) (a b c : List Nat) : dpAll n (glue3 a b c) = dpAll (n + 1) a ++ (dpAll n [39] ++ (dpAll (n + 1) b ++ (dpAll n [39] ++ dpAll (n + 1) c))) := by
  have e : dpAll n [39] = dp1 n 39 := List.append_nil _
  show dpAll n (lay a ++ 39 :: (lay b ++ 39 :: lay c)) = _
  rw [e, dp_app, dp_cons, dp_app, dp_cons, dp_succ n hn, dp_succ n hn, dp_succ n hn]
theorem glue_split (a b c : List Nat) : Txt.splitMax (S (glue3 a b c)) tick 2 = [S (lay a), S (lay b), S (lay c)] := by
  have e : tick = ⟨#[39]⟩ := k39
  rw [e]
  exact split2_three (flat_free (by decide) (by decide)) (flat_free (by decide) (by decide))
theorem lay_len (l : List Nat) : (lay l).length ≤ 6 * l.length := by
  have h : (S (lay l)).length ≤ 6 * l.length := cod_len (t := [cA, cG, cL, cP]) (fun e he => of_decide_eq_true (List.all_eq_true.mp (show ([cA, cG, cL, cP].all fun e => decide (e.2.length ≤ 6)) = true from rfl) e he)) l
  rwa [S_len] at h
theorem glue_len (a b c : List Nat) : (glue3 a b c).length ≤ 6 * a.length + 6 * b.length + 6 * c.length + 2 := by
  have h1 := lay_len a
  have h2 := lay_len b
  have h3 := lay_len c
  show (lay a ++ 39 :: (lay b ++ 39 :: lay c)).length ≤ _
  simp only [List.length_append, List.length_cons]
  omega
theorem emp_S : Str.ofString "" = S [] := by decide +kernel
theorem qS (l : List Nat) : dq ++ S l ++ dq = S (34 :: (l ++ [34])) := by
  show Str.ofString "\"" ++ S l ++ Str.ofString "\"" = _
  rw [lit34, S_app, S_app]; rfl
theorem tS (l : List Nat) : tickS ++ S l ++ tickS = S (39 :: (l ++ [39])) := by
  show Str.ofString "'" ++ S l ++ Str.ofString "'" = _
  rw [lit39, S_app, S_app]; rfl
theorem tick_wrap {l : List Nat} (h : 39 ∉ l) : Txt.splitMax (tickS ++ S l ++ tickS) tick 2 = [Str.ofString "", S l, Str.ofString ""] := by
  have e : tick = ⟨#[39]⟩ := k39
  rw [tS, e, emp_S]
  exact split2_three (a := []) (b := l) (d := []) (c := 39) (by decide) h
theorem three (x : Str) (c : Nat) : ∃ ps : List Str, Txt.split x ⟨#[c]⟩ = ps ∧ Str.join ⟨#[c]⟩ ps = x ∧ ∀ p ∈ ps, c ∉ p.cps.toList := ⟨_, rfl, join_split x _, split_free x c⟩
theorem join_sum {c : Nat} : ∀ (a : Str) (r : List Str), ((a :: r).map (·.length)).sum + (a :: r).length = (Str.join ⟨#[c]⟩ (a :: r)).length + 1
  | a, [] => by simp only [List.map_cons, List.map_nil, List.sum_cons, List.sum_nil, List.length_cons, List.length_nil]; rfl
  | a, b :: r => by
    have ih := join_sum (c := c) b r
    have e : (Str.join ⟨#[c]⟩ (a :: b :: r)).length = a.length + 1 + (Str.join ⟨#[c]⟩ (b :: r)).length := by
      show (a ++ ⟨#[c]⟩ ++ Str.join ⟨#[c]⟩ (b :: r)).length = _
      rw [Str.length_append, Str.length_append]; rfl
    rw [e, List.map_cons, List.sum_cons, List.length_cons]
    omega
inductive LastF (x : Str) : Prop
  | one (h1 : inS (Str.ofString "\"") x = true) (h2 : inS (Str.ofString "'") x = false)
      (h3 : Txt.splitMax (quoteV (q3 x)) tick 2 = [Str.ofString "", S (valAll false false x.cps.toList), Str.ofString ""])
  | few (b1 b2 : Bool) (h1 : inS (Str.ofString "\"") x = b1) (h2 : inS (Str.ofString "'") x = b2) (h3 : (b1 && !b2) = false) (h4 : (Txt.split x (Str.ofString "'")).length ≤ 2)
      (h5 : (Txt.splitMax (quoteV (q3 x)) tick 2).length ≤ 2) (h6 : quoteV (q3 x) = Str.ofString "\"" ++ S (valAll false true x.cps.toList) ++ Str.ofString "\"")
  | more (b1 b2 : Bool) (a b : Str) (r : List Str) (h1 : inS (Str.ofString "\"") x = b1) (h2 : inS (Str.ofString "'") x = b2) (h3 : (b1 && !b2) = false) (h4 : Txt.split x (Str.ofString "'") = a :: b :: r)
      (h5 : 1 ≤ r.length) (h6 : r.length ≤ 2000) (ha : a.length ≤ 1000) (hb : b.length ≤ 1000) (hr : (Txt.join (Str.ofString "'") r).length ≤ 1000) (h7 : (r.map (·.length)).sum + r.length * (Str.ofString "'").length ≤ 16777216)
      (h8 : Txt.splitMax (quoteV (q3 x)) tick 2 = [Str.ofString "\"" ++ S (valAll false true a.cps.toList), S (valAll false true b.cps.toList), S (valAll false true (Txt.join (Str.ofString "'") r).cps.toList) ++ Str.ofString "\""])
inductive LastT (x : Str) : Prop
  | one (h1 : inS (Str.ofString "\"") x = true) (h3 : Txt.splitMax (quoteV (q4 x)) tick 2 = [Str.ofString "", S (valAll true false x.cps.toList), Str.ofString ""])
  | few (h1 : inS (Str.ofString "\"") x = false) (h5 : (Txt.splitMax (quoteV (q4 x)) tick 2).length ≤ 2) (h6 : quoteV (q4 x) = Str.ofString "\"" ++ S (valAll true true x.cps.toList) ++ Str.ofString "\"")
theorem vA0_39 {l : List Nat} : 39 ∈ vA0 l ↔ 39 ∈ l := flat_in (by decide) (by decide)
theorem vA0_34 {l : List Nat} : 34 ∈ vA0 l ↔ 34 ∈ l := flat_in (by decide) (by decide)
theorem vA2_39 {l : List Nat} : 39 ∈ vA2 l ↔ 39 ∈ l := flat_in (by decide) (by decide)
theorem vA1_34 {l : List Nat} : 34 ∈ vA1 l ↔ 34 ∈ l := flat_in (by decide) (by decide)
theorem vA1_39 {l : List Nat} : 39 ∉ vA1 l := flat_free (by decide) (by decide)
theorem lastT_S (l : List Nat) : LastT (S l) := by
  by_cases h : 34 ∈ l
  · refine .one ?_ ?_
    · rw [inS_34]; exact decide_eq_true h
    · rw [q4_S, qv_one (vA1_34.mpr h) vA1_39, tick_wrap vA1_39, S_cps, val_tf]
  · have e : quoteV (q4 (S l)) = dq ++ S (vA1 l) ++ dq := by rw [q4_S, qv_no fun m => h (vA1_34.mp m)]
    refine .few ?_ ?_ ?_
    · rw [inS_34]; exact decide_eq_false h
    · rw [e, qS, show tick = ⟨#[39]⟩ from k39]
      refine split2_le (.inl ?_)
      simp only [List.mem_cons, List.mem_append, List.not_mem_nil, or_false, not_or]
      exact ⟨by decide, vA1_39, by decide⟩
    · rw [e, S_cps, val_tt h]
theorem vA2_app (a b : List Nat) : vA2 (a ++ b) = vA2 a ++ vA2 b := List.flatMap_append
theorem vA2_tick (a : List Nat) : vA2 (39 :: a) = 39 :: vA2 a := by
  show List.flatMap _ _ = _
  rw [List.flatMap_cons]; rfl
theorem lastF_S (l : List Nat) (hl : l.length ≤ 1000) : LastF (S l) := by
  by_cases h1 : 34 ∈ l ∧ 39 ∉ l
  · refine .one ?_ ?_ ?_
    · rw [inS_34]; exact decide_eq_true h1.1
    · rw [inS_39]; exact decide_eq_false h1.2
    · have hf : 39 ∉ vA0 l := fun m => h1.2 (vA0_39.mp m)
      rw [q3_S, qv_one (vA0_34.mpr h1.1) hf, tick_wrap hf, S_cps, val_ff]
  have e : quoteV (q3 (S l)) = dq ++ S (vA2 l) ++ dq := by
    by_cases h2 : 34 ∈ l
    · have h3 : 39 ∈ l := Classical.byContradiction fun q => h1 ⟨h2, q⟩
      rw [q3_S, qv_both (vA0_34.mpr h2) (vA0_39.mpr h3), r_q]
    · rw [q3_S, qv_no fun m => h2 (vA0_34.mp m), vA_same h2]
  have hb : (decide (34 ∈ l) && !decide (39 ∈ l)) = false := by
    by_cases h2 : 34 ∈ l
    · have h3 : 39 ∈ l := Classical.byContradiction fun q => h1 ⟨h2, q⟩
      rw [decide_eq_true h3, Bool.not_true, Bool.and_false]
    · rw [decide_eq_false h2]; rfl
  have e6 : quoteV (q3 (S l)) = Str.ofString "\"" ++ S (valAll false true (S l).cps.toList) ++ Str.ofString "\"" := by rw [e, S_cps, val_ft]
  have et : Str.ofString "'" = ⟨#[39]⟩ := k39
  obtain ⟨ps, hp, hj, hfree⟩ := three (S l) 39
  have hj' := congrArg (fun x : Str => x.cps.toList) hj
  simp only [S_cps] at hj'
  match ps, hp, hj', hfree with
  | [], hp, hj', _ =>
    refine .few _ _ (inS_34 l) (inS_39 l) hb (by rw [et, hp]; exact Nat.zero_le _) ?_ e6
    have : l = [] := hj'.symm
    subst this
    rw [e, qS, show tick = ⟨#[39]⟩ from k39]
    exact split2_le (.inl (by decide))
  | [a], hp, hj', hfree =>
    refine .few _ _ (inS_34 l) (inS_39 l) hb (by rw [et, hp]; exact Nat.le_of_ble_eq_true rfl) ?_ e6
    have ha : 39 ∉ l := by rw [← hj']; exact hfree a (List.mem_cons_self ..)
    rw [e, qS, show tick = ⟨#[39]⟩ from k39]
    refine split2_le (.inl ?_)
    simp only [List.mem_cons, List.mem_append, List.not_mem_nil, or_false, not_or]
    exact ⟨by decide, fun m => ha (vA2_39.mp m), by decide⟩
  | [a, b], hp, hj', hfree =>
    refine .few _ _ (inS_34 l) (inS_39 l) hb (by rw [et, hp]; exact Nat.le_of_ble_eq_true rfl) ?_ e6
    have ha : 39 ∉ a.cps.toList := hfree a (List.mem_cons_self ..)
    have hb : 39 ∉ b.cps.toList := hfree b (List.mem_cons_of_mem _ (List.mem_cons_self ..))
    rw [joinS] at hj'
    have hl' : l = a.cps.toList ++ 39 :: b.cps.toList := hj'.symm
    rw [e, qS, show tick = ⟨#[39]⟩ from k39, hl', vA2_app, vA2_tick]
    refine split2_le (.inr ⟨34 :: vA2 a.cps.toList, vA2 b.cps.toList ++ [34], ?_, ?_, ?_⟩)
    · simp only [List.cons_append, List.append_assoc]
    · simp only [List.mem_cons, not_or]
      exact ⟨by decide, fun m => ha (vA2_39.mp m)⟩
    · simp only [List.mem_append, List.mem_cons, List.not_mem_nil, or_false, not_or]
      exact ⟨fun m => hb (vA2_39.mp m), by decide⟩
  | a :: b :: c :: r, hp, hj', hfree =>
    have ha : 39 ∉ a.cps.toList := hfree a (List.mem_cons_self ..)
    have hb' : 39 ∉ b.cps.toList := hfree b (List.mem_cons_of_mem _ (List.mem_cons_self ..))
    rw [joinS, joinS] at hj'
    have hlen := congrArg List.length hj'
    simp only [List.length_append, List.length_cons, tl_len] at hlen
    have hs := join_sum (c := 39) c r
    have hjn : Txt.join (Str.ofString "'") (c :: r) = Str.join ⟨#[39]⟩ (c :: r) := by rw [et]; exact glued_eq_join _ _
    have ht1 : (Str.ofString "'").length = 1 := by decide +kernel
    refine .more _ _ a b (c :: r) (inS_34 l) (inS_39 l) hb (by rw [et, hp]) (Nat.succ_le_succ (Nat.zero_le _)) ?_ ?_ ?_ ?_ ?_ ?_
    · omega
    · omega
    · omega
    · rw [hjn]; omega
    · rw [ht1, Nat.mul_one]; omega
    · rw [hjn, e, qS, show tick = ⟨#[39]⟩ from k39, ← hj', vA2_app, vA2_tick, vA2_app, vA2_tick, val_ft, val_ft, val_ft, lit34, S_app, S_app]
      rw [show 34 :: (vA2 a.cps.toList ++ 39 :: (vA2 b.cps.toList ++ 39 :: vA2 (Str.join ⟨#[39]⟩ (c :: r)).cps.toList) ++ [34]) = (34 :: vA2 a.cps.toList) ++ 39 :: (vA2 b.cps.toList ++ 39 :: (vA2 (Str.join ⟨#[39]⟩ (c :: r)).cps.toList ++ [34])) by simp only [List.cons_append, List.append_assoc]]
      refine split2_three ?_ fun m => hb' (vA2_39.mp m)
      simp only [List.mem_cons, not_or]
      exact ⟨by decide, fun m => ha (vA2_39.mp m)⟩
theorem quoteOk3 {l : List Nat} (hl : l.length ≤ 1000) : QuoteOk (q3 (S l)) := by
  have h0 : (S (vA0 l)).length ≤ 6 * l.length := cod_len (t := [cA, cG, cL, cN, cR, cT]) (fun e he => of_decide_eq_true (List.all_eq_true.mp (show ([cA, cG, cL, cN, cR, cT].all fun e => decide (e.2.length ≤ 6)) = true from rfl) e he)) l
  have h2 : (S (vA2 l)).length ≤ 6 * l.length := cod_len (t := [cA, cG, cL, cN, cR, cT, cQ]) (fun e he => of_decide_eq_true (List.all_eq_true.mp (show ([cA, cG, cL, cN, cR, cT, cQ].all fun e => decide (e.2.length ≤ 6)) = true from rfl) e he)) l
  rw [q3_S]
  refine ⟨by omega, fits (by omega) l_q5, ?_⟩
  rw [r_q]; exact Nat.le_trans h2 (by omega)
theorem replace_none {l : List Nat} (h : 34 ∉ l) : Txt.replace (S l) dq qref = S l := by
  have e : dq = (⟨#[34]⟩ : Str) := k34
  rw [e]
  unfold Txt.replace
  have : (occurrences (S l) ⟨#[34]⟩ 0 (S l).length ((S l).length + 1)).isEmpty = true := by
    obtain ⟨f, hc⟩ := occ_chain (S l) ⟨#[34]⟩ ((S l).length + 1)
    generalize occurrences (S l) ⟨#[34]⟩ 0 (S l).length ((S l).length + 1) = cuts at hc ⊢
    match cuts, hc with
    | [], _ => rfl
    | i :: r, hc =>
      have := (subAt_one (S l) 34 i).mp hc.2.1
      rw [S_cps] at this
      exact absurd (List.mem_of_getElem? this) h
  rw [this]; rfl
theorem quoteOk4 {l : List Nat} (hl : l.length ≤ 1000) : QuoteOk (q4 (S l)) := by
  have h0 : (S (vA1 l)).length ≤ 6 * l.length := cod_len (t := [cA, cG, cL, cP, cN, cR, cT]) (fun e he => of_decide_eq_true (List.all_eq_true.mp (show ([cA, cG, cL, cP, cN, cR, cT].all fun e => decide (e.2.length ≤ 6)) = true from rfl) e he)) l
  rw [q4_S]
  refine ⟨by omega, fits (by omega) l_q5, ?_⟩
  have h : (Txt.replace (S (vA1 l)) dq qref).length ≤ (S (vA1 l)).length + ((S (vA1 l)).length + 1) * 6 := by
    rw [show Txt.replace (S (vA1 l)) dq qref = Str.join qref (Txt.split (S (vA1 l)) ⟨#[34]⟩) by rw [show dq = (⟨#[34]⟩ : Str) from k34]; exact replace_one _ _ _]
    obtain ⟨ps, hp, hj, _⟩ := three (S (vA1 l)) 34
    rw [hp]
    match ps, hj with
    | [], hj => exact Nat.zero_le _
    | a :: r, hj =>
      have hs := join_sum (c := 34) a r
      rw [hj] at hs
      have h3 := StrLaws.join_length_le qref (a :: r)
      have h4 : (a :: r).length * qref.length ≤ (a :: r).length * 6 := Nat.mul_le_mul_left _ l_q5
      omega
  omega
end
section
theorem strs_cons {vs : List Value} {ss : List Str} {c : Nat} (h : StrsAre vs ss) (hc : ss.length = c + 1) : ∃ (l : List Nat) (t : Tok) (vs' : List Value) (ss' : List Str), vs = .str (S l) t :: vs' ∧ ss = S l :: ss' ∧ StrsAre vs' ss' ∧ ss'.length = c := by
  cases h with
  | nil => cases hc
  | cons x t h => exact ⟨x.cps.toList, t, _, _, by rw [S_list], by rw [S_list], h, Nat.succ.inj hc⟩
theorem strs_nil {vs : List Value} {ss : List Str} (h : StrsAre vs ss) (hc : ss.length = 0) : vs = [] := by
  cases h with
  | nil => rfl
  | cons x t h => cases hc
theorem deal_open3 {b : Nat} {o : Obj} (h : DealP 3 b o) : ∃ (l0 l1 l2 : List Nat) (t0 t1 t2 : Tok) (k : Nat), o = listOf (List.toArray [.str (S l0) t0, .str (S l1) t1, .str (S l2) t2]) k ∧ l0.length ≤ b ∧ l1.length ≤ b ∧ l2.length ≤ b := by
  obtain ⟨vs, ss, k, rfl, h0, e, hb⟩ := h
  obtain ⟨l0, t0, vs, ss, rfl, rfl, h0, e⟩ := strs_cons h0 e
  obtain ⟨l1, t1, vs, ss, rfl, rfl, h0, e⟩ := strs_cons h0 e
  obtain ⟨l2, t2, vs, ss, rfl, rfl, h0, e⟩ := strs_cons h0 e
  have := strs_nil h0 e
  subst this
  refine ⟨l0, l1, l2, t0, t1, t2, k, rfl, ?_, ?_, ?_⟩ <;> (rw [← S_len]; exact hb _ (by simp))
theorem deal_open5 {b : Nat} {o : Obj} (h : DealP 5 b o) : ∃ (l0 l1 l2 l3 l4 : List Nat) (t0 t1 t2 t3 t4 : Tok) (k : Nat), o = listOf (List.toArray [.str (S l0) t0, .str (S l1) t1, .str (S l2) t2, .str (S l3) t3, .str (S l4) t4]) k ∧ l0.length ≤ b ∧ l1.length ≤ b ∧ l2.length ≤ b ∧ l3.length ≤ b ∧ l4.length ≤ b := by
  obtain ⟨vs, ss, k, rfl, h0, e, hb⟩ := h
  obtain ⟨l0, t0, vs, ss, rfl, rfl, h0, e⟩ := strs_cons h0 e
  obtain ⟨l1, t1, vs, ss, rfl, rfl, h0, e⟩ := strs_cons h0 e
  obtain ⟨l2, t2, vs, ss, rfl, rfl, h0, e⟩ := strs_cons h0 e
  obtain ⟨l3, t3, vs, ss, rfl, rfl, h0, e⟩ := strs_cons h0 e
  obtain ⟨l4, t4, vs, ss, rfl, rfl, h0, e⟩ := strs_cons h0 e
  have := strs_nil h0 e
  subst this
  refine ⟨l0, l1, l2, l3, l4, t0, t1, t2, t3, t4, k, rfl, ?_, ?_, ?_, ?_, ?_⟩ <;> (rw [← S_len]; exact hb _ (by simp))
theorem deal_open7 {b : Nat} {o : Obj} (h : DealP 7 b o) : ∃ (l0 l1 l2 l3 l4 l5 l6 : List Nat) (t0 t1 t2 t3 t4 t5 t6 : Tok) (k : Nat), o = listOf (List.toArray [.str (S l0) t0, .str (S l1) t1, .str (S l2) t2, .str (S l3) t3, .str (S l4) t4, .str (S l5) t5, .str (S l6) t6]) k ∧ l0.length ≤ b ∧ l1.length ≤ b ∧ l2.length ≤ b ∧ l3.length ≤ b ∧ l4.length ≤ b ∧ l5.length ≤ b ∧ l6.length ≤ b := by
  obtain ⟨vs, ss, k, rfl, h0, e, hb⟩ := h
  obtain ⟨l0, t0, vs, ss, rfl, rfl, h0, e⟩ := strs_cons h0 e
  obtain ⟨l1, t1, vs, ss, rfl, rfl, h0, e⟩ := strs_cons h0 e
  obtain ⟨l2, t2, vs, ss, rfl, rfl, h0, e⟩ := strs_cons h0 e
  obtain ⟨l3, t3, vs, ss, rfl, rfl, h0, e⟩ := strs_cons h0 e
  obtain ⟨l4, t4, vs, ss, rfl, rfl, h0, e⟩ := strs_cons h0 e
  obtain ⟨l5, t5, vs, ss, rfl, rfl, h0, e⟩ := strs_cons h0 e
  obtain ⟨l6, t6, vs, ss, rfl, rfl, h0, e⟩ := strs_cons h0 e
  have := strs_nil h0 e
  subst this
  refine ⟨l0, l1, l2, l3, l4, l5, l6, t0, t1, t2, t3, t4, t5, t6, k, rfl, ?_, ?_, ?_, ?_, ?_, ?_, ?_⟩ <;> (rw [← S_len]; exact hb _ (by simp))
end
section
theorem deep_S (w : World) (l : List Nat) (t : Tok) {r : Int} (n : Nat) (e : r = (n : Int)) (tn : Tok) (hn : n ≤ 3) (hx : l.length ≤ 1000) : TellsS 4 w 62 [.str (S l) t, .int r tn] (fun _ => True) (S (dpAll n l)) := by
  subst e
  have h := deep1 w (S l) t n tn hn (by rw [S_len]; exact hx)
  rwa [S_cps] at h
theorem deep_tick (w : World) (t : Tok) {r : Int} (n : Nat) (e : r = (n : Int)) (tn : Tok) (hn : n ≤ 3) : TellsS 4 w 62 [.str (Str.ofString "'") t, .int r tn] (fun _ => True) (S (dpAll n [39])) := by
  rw [lit39]
  exact deep_S w [39] t n e tn hn (Nat.le_of_ble_eq_true rfl)
theorem escape_S (w : World) (l : List Nat) (t : Tok) (d : Addr) (t1 t2 : Tok) (hl : l.length ≤ 20000) (h1 : 1 ≤ t1) (h2 : 1 ≤ t2) (h3 : t1 < t2) (hS : (d == sysModules) = false) :
    TellsS 8 w 37 [.str (S l) t, .ref d] (fun news => (d, cDict w (toC (l1t t1 t2)) 1) ∈ news) (S (lay l)) := by
  have h := escape_c w (S l) t d (l1t t1 t2) 1 (esc3Ok_S hl) (good_t hl h1 h2 h3) (Nat.le_of_ble_eq_true rfl) rfl hS
  rwa [esc_S] at h
theorem unescape_S (w : World) (l : List Nat) (t : Tok) (d : Addr) (t1 t2 : Tok) (hl : l.length ≤ 20000) (h1 : 1 ≤ t1) (h2 : 1 ≤ t2) (h3 : t1 < t2) (hS : (d == sysModules) = false) :
    TellsS 8 w 46 [.str (S (lay l)) t, .ref d] (fun news => (d, cDict w (toC (l1b t1 t2)) 1) ∈ news) (S l) := by
  have h := unescape_c w (S (lay l)) t d (l1b t1 t2) 1 (uneOk_S hl) (good_b hl h1 h2 h3) (Nat.le_of_ble_eq_true rfl) rfl hS
  rwa [une_S] at h
theorem decode_S (w : World) (a b c : List Nat) (t : Tok) (ha : a.length ≤ 20000) (hb : b.length ≤ 20000) (hc : c.length ≤ 20000) :
    TellsO 4 w 21 [.str (S (glue3 a b c)) t] (fun _ => True) (fun o => ∃ t1 t2 t3, o = listOf #[.str (S (lay a)) t1, .str (S (lay b)) t2, .str (S (lay c)) t3] 0) :=
  decode_yes w _ _ _ _ t (by have := glue_len a b c; rw [S_len]; omega) (glue_split a b c)
theorem quote_S (w : World) (l : List Nat) (t : Tok) (hl : l.length ≤ 1000) : TellsS 12 w 55 [.str (S l) t] (fun _ => True) (quoteV (q3 (S l))) :=
  quote_a w (S l) t (esc3Ok_S (by omega)) (good_3 (by omega)) (quoteOk3 hl)
theorem quoteT_S (w : World) (l : List Nat) (t : Tok) (d : Addr) (t1 t2 : Tok) (hl : l.length ≤ 1000) (h1 : 1 ≤ t1) (h2 : 1 ≤ t2) (h3 : t1 < t2) (hS : (d == sysModules) = false) :
    TellsS 12 w 55 [.str (S l) t, .ref d] (fun news => (d, cDict w (toC (l1t t1 t2)) 1) ∈ news) (quoteV (q4 (S l))) :=
  quote_b w (S l) t d t1 t2 1 (esc3Ok_S (by omega)) (good_4 (by omega) h1 h2 h3) (quoteOk4 hl) hS
theorem dq_len : dq.length = 1 := by decide +kernel
theorem tick_len : tickS.length = 1 := by decide +kernel
theorem quote_len3 {l : List Nat} (hl : l.length ≤ 1000) : (quoteV (q3 (S l))).length ≤ 1000000 := by
  have h0 : (S (vA0 l)).length ≤ 6 * l.length := cod_len (t := [cA, cG, cL, cN, cR, cT]) (fun e he => of_decide_eq_true (List.all_eq_true.mp (show ([cA, cG, cL, cN, cR, cT].all fun e => decide (e.2.length ≤ 6)) = true from rfl) e he)) l
  have h2 : (S (vA2 l)).length ≤ 6 * l.length := cod_len (t := [cA, cG, cL, cN, cR, cT, cQ]) (fun e he => of_decide_eq_true (List.all_eq_true.mp (show ([cA, cG, cL, cN, cR, cT, cQ].all fun e => decide (e.2.length ≤ 6)) = true from rfl) e he)) l
  rw [q3_S]
  by_cases h : 34 ∈ vA0 l
  · by_cases h' : 39 ∈ vA0 l
    · rw [qv_both h h', r_q, Str.length_append, Str.length_append, dq_len]
      have h3 : (S (List.flatMap (cod [cA, cG, cL, cN, cR, cT, cQ]) l)).length ≤ 6 * l.length := h2
      omega
    · rw [qv_one h h', Str.length_append, Str.length_append, tick_len]; omega
  · rw [qv_no h, Str.length_append, Str.length_append, dq_len]; omega
theorem quote_len4 {l : List Nat} (hl : l.length ≤ 1000) : (quoteV (q4 (S l))).length ≤ 1000000 := by
  have h0 : (S (vA1 l)).length ≤ 6 * l.length := cod_len (t := [cA, cG, cL, cP, cN, cR, cT]) (fun e he => of_decide_eq_true (List.all_eq_true.mp (show ([cA, cG, cL, cP, cN, cR, cT].all fun e => decide (e.2.length ≤ 6)) = true from rfl) e he)) l
  rw [q4_S]
  by_cases h : 34 ∈ vA1 l
  · rw [qv_one h vA1_39, Str.length_append, Str.length_append, tick_len]; omega
  · rw [qv_no h, Str.length_append, Str.length_append, dq_len]; omega
theorem told_0 (a b c : List Nat) : S (dpAll 1 a) ++ S (dpAll 0 [39]) ++ S (dpAll 1 b) ++ S (dpAll 0 [39]) ++ S (dpAll 1 c) = S (dpAll 0 (glue3 a b c)) := by
  rw [glue_dp 0 (by decide), S_app, S_app, S_app, S_app, List.append_assoc, List.append_assoc, List.append_assoc]
theorem told_1 (a b c : List Nat) : S (dpAll 2 a) ++ S (dpAll 1 [39]) ++ S (dpAll 2 b) ++ S (dpAll 1 [39]) ++ S (dpAll 2 c) = S (dpAll 1 (glue3 a b c)) := by
  rw [glue_dp 1 (by decide), S_app, S_app, S_app, S_app, List.append_assoc, List.append_assoc, List.append_assoc]
theorem told_2 (a b c : List Nat) : S (dpAll 3 a) ++ S (dpAll 2 [39]) ++ S (dpAll 3 b) ++ S (dpAll 2 [39]) ++ S (dpAll 3 c) = S (dpAll 2 (glue3 a b c)) := by
  rw [glue_dp 2 (by decide), S_app, S_app, S_app, S_app, List.append_assoc, List.append_assoc, List.append_assoc]
theorem join_glue (a b c : List Nat) : Txt.join (Str.ofString "'") [S (lay a), S (lay b), S (lay c)] = S (glue3 a b c) := by
  rw [Txt.join, StrLaws.glued_eq_join, lit39]
  show S (lay a) ++ S [39] ++ (S (lay b) ++ S [39] ++ S (lay c)) = _
  rw [S_app, S_app, S_app, S_app]
  congr 1
  simp
section
variable {prog : Program} {w : World} {A : Around} {E : Value → Shared → Prop} {s : Shared} {L : Addr} {h₀ : Heap} {m : Str → Option Value} {news : List (Addr × Obj)} {i1 j1 : Nat} {p1 q1 pos : Pos} {Q : Value → Shared → Prop} {env : Env}
theorem tabDict (hbig : h₀.NoLimit) (F : Fr h₀ L s.heap m) (N : News h₀ L s.heap news) (ht : 1 ≤ s.toks)
    (h : ∀ D h' tk, 1 ≤ tk → Fr h₀ L h' m → News h₀ L h' ((D, cDict w (toC (l1t tk (tk + 1))) 1) :: news) → (∀ p ∈ news, p.1 < D) → (D == sysModules) = false → Q (.ref D) { s with heap := h', toks := tk + 2 + 1 }) :
    wpAny (model prog w) A (eval (.Dict [some (.Constant (.str (Str.ofString "'")) i1 p1)] [.Constant (.str (Str.ofString "&apos;")) j1 q1] pos) env) Q E s :=
  oneDict hbig F N fun D h' F' N' l hS => h D h' s.toks ht F' N' l hS
theorem backDict (hbig : h₀.NoLimit) (F : Fr h₀ L s.heap m) (N : News h₀ L s.heap news) (ht : 1 ≤ s.toks)
    (h : ∀ D h' tk, 1 ≤ tk → Fr h₀ L h' m → News h₀ L h' ((D, cDict w (toC (l1b tk (tk + 1))) 1) :: news) → (∀ p ∈ news, p.1 < D) → (D == sysModules) = false → Q (.ref D) { s with heap := h', toks := tk + 2 + 1 }) :
    wpAny (model prog w) A (eval (.Dict [some (.Constant (.str (Str.ofString "&apos;")) i1 p1)] [.Constant (.str (Str.ofString "'")) j1 q1] pos) env) Q E s :=
  oneDict hbig F N fun D h' F' N' l hS => h D h' s.toks ht F' N' l hS
end
section
variable {prog : Program} {w : World} {A : Around} {E : Value → Shared → Prop} {s : Shared} {a b r : Int} {t u : Tok} {Q : Value → Shared → Prop}
theorem mod_lit (hr : a.fmod b = r) (hb : b ≠ 0) (h : Q (.int r s.toks) { s with toks := s.toks + 1 }) : wpAny (model prog w) A (binaryOp .Mod (.int a t) (.int b u)) Q E s := by
  subst hr; exact mod_int' hb h
theorem add_lit (hr : a + b = r) (h : Q (.int r s.toks) { s with toks := s.toks + 1 }) : wpAny (model prog w) A (binaryOp .Add (.int a t) (.int b u)) Q E s := by
  subst hr; exact add_int h
theorem sub_lit (hr : a - b = r) (h : Q (.int r s.toks) { s with toks := s.toks + 1 }) : wpAny (model prog w) A (binaryOp .Sub (.int a t) (.int b u)) Q E s := by
  subst hr; exact sub_int h
theorem mul_lit (hr : a * b = r) (h : Q (.int r s.toks) { s with toks := s.toks + 1 }) (hm : IntMulOk a b := by mul_fits) : wpAny (model prog w) A (binaryOp .Mult (.int a t) (.int b u)) Q E s := by
  subst hr; exact mul_int h hm
theorem a10 : (1 : Int) + 0 = 1 := rfl
theorem a11 : (1 : Int) + 1 = 2 := rfl
theorem a12 : (1 : Int) + 2 = 3 := rfl
theorem m21 : (2 : Int) * 1 = 2 := rfl
theorem m22 : (2 : Int) * 2 = 4 := rfl
theorem m23 : (2 : Int) * 3 = 6 := rfl
theorem p21 : (2 : Int) + 1 = 3 := rfl
theorem p41 : (4 : Int) + 1 = 5 := rfl
theorem p61 : (6 : Int) + 1 = 7 := rfl
end
theorem deal_len {ms : List Int} : ([0, 1, 2, 5, 0, 3, 4] ++ List.take 14 ms).length ≤ 21 := by
  rw [List.length_append, List.length_take]
  simp only [List.length_cons, List.length_nil]
  omega
theorem one_lt {D : Addr} {o : Obj} {news : List (Addr × Obj)} (h : ∀ q ∈ news, ∀ p ∈ [(D, o)], q.1 < p.1) : ∀ q ∈ news, q.1 < D := fun q hq => h q hq _ (List.mem_cons_self ..)
section
variable {prog : Program} {w : World} {A : Around} {E : Value → Shared → Prop} {s : Shared} {L D : Addr} {h₀ : Heap} {news : List (Addr × Obj)} {Q : Value → Shared → Prop} {a b c : List Nat} {t u1 u2 u3 : Tok}
theorem lay_S (l : List Nat) : (S (lay l)).length ≤ 6 * l.length := by rw [S_len]; exact lay_len l
theorem join3_use (N : News h₀ L s.heap ((D, LCg.lst [.str (S (lay a)) u1, .str (S (lay b)) u2, .str (S (lay c)) u3]) :: news)) (ha : a.length ≤ 20000) (hb : b.length ≤ 20000) (hc : c.length ≤ 20000)
    (h : ∀ t k, News h₀ L s.heap news → Q (.str (S (glue3 a b c)) t) { s with toks := k }) : wpAny (model prog w) A (call (.builtin "str.join") [.str (Str.ofString "'") t, .ref D]) Q E s := by
  have h1 := lay_S a
  have h2 := lay_S b
  have h3 := lay_S c
  have ht : (Str.ofString "'").length = 1 := by decide +kernel
  refine join_list (ys := [S (lay a), S (lay b), S (lay c)]) (News.isList N (.head _)) (.cons _ _ (.cons _ _ (.cons _ _ .nil))) ?_ ?_
  · simp only [List.map_cons, List.map_nil, List.sum_cons, List.sum_nil, List.length_cons, List.length_nil, ht]
    omega
  · intro t k
    rw [join_glue]
    exact h t k fun p hp => N p (List.mem_cons_of_mem _ hp)
end
end
section
/-- the dealing, whatever the number of layers -/
theorem dealtN (w : World) (row : Addr) (ws : List Value) (ms : List Int) (c : Int) (u : Tok) (n nn : Nat) (hc : c = 2 * (nn : Int) + 1) (h1 : 1 ≤ nn) (h3 : nn ≤ 3) (hi : IntsAre ws ms) (hl : ms.length ≤ 100) :
    TellsQ 4 w 79 [.ref row, .int c u] (fun news => (row, listOf ws.toArray n) ∈ news) (DealP (2 * nn + 1) (6 * ms.length)) := by
  rcases (by omega : nn = 1 ∨ nn = 2 ∨ nn = 3) with rfl | rfl | rfl
  · obtain rfl : c = 3 := by omega
    exact dealt3 w row ws ms u n hi hl
  · obtain rfl : c = 5 := by omega
    exact dealt5 w row ws ms u n hi hl
  · obtain rfl : c = 7 := by omega
    exact dealt7 w row ws ms u n hi hl
theorem deal_open {c b : Nat} {o : Obj} (h : DealP c b o) : ∃ (vs : List Value) (ls : List (List Nat)) (k : Nat), o = listOf vs.toArray k ∧ StrsAre vs (ls.map S) ∧ ls.length = c ∧ ∀ l ∈ ls, l.length ≤ b := by
  obtain ⟨vs, ss, k, rfl, h0, e, hb⟩ := h
  refine ⟨vs, ss.map fun x => x.cps.toList, k, rfl, ?_, by rw [List.length_map]; exact e, fun l hl => ?_⟩
  · have : (ss.map fun x => x.cps.toList).map S = ss := by
      rw [List.map_map]
      exact (List.map_congr_left (g := _root_.id) fun x _ => S_list x).trans (List.map_id _)
    rw [this]; exact h0
  · obtain ⟨x, hx, rfl⟩ := List.mem_map.mp hl
    exact hb x hx
/-- the layers one upon the other -/
def bel (ls : List (List Nat)) : Nat → List Nat
  | 0 => ls.getD 0 []
  | k + 1 => glue3 (ls.getD (2 * k + 1) []) (ls.getD (2 * k + 2) []) (bel ls k)
theorem getD_len {ls : List (List Nat)} (h : ∀ l ∈ ls, l.length ≤ 126) (k : Nat) : (ls.getD k []).length ≤ 126 := by
  rw [List.getD_eq_getElem?_getD]
  cases e : ls[k]? with
  | none => exact Nat.zero_le _
  | some l => exact h l (List.mem_of_getElem? e)
theorem bel_len {ls : List (List Nat)} (h : ∀ l ∈ ls, l.length ≤ 126) : (bel ls 0).length ≤ 126 ∧ (bel ls 1).length ≤ 2270 ∧ (bel ls 2).length ≤ 15134 ∧ (bel ls 3).length ≤ 92318 := by
  have h0 : (bel ls 0).length ≤ 126 := getD_len h 0
  have h1 : (bel ls 1).length ≤ _ := glue_len (ls.getD 1 []) (ls.getD 2 []) (bel ls 0)
  have h2 : (bel ls 2).length ≤ _ := glue_len (ls.getD 3 []) (ls.getD 4 []) (bel ls 1)
  have h3 : (bel ls 3).length ≤ _ := glue_len (ls.getD 5 []) (ls.getD 6 []) (bel ls 2)
  have := getD_len h 1
  have := getD_len h 2
  have := getD_len h 3
  have := getD_len h 4
  have := getD_len h 5
  have := getD_len h 6
  refine ⟨h0, ?_, ?_, ?_⟩ <;> omega
theorem bel_len2 {ls : List (List Nat)} (h : ∀ l ∈ ls, l.length ≤ 126) {k : Nat} (hk : k ≤ 2) : (bel ls k).length ≤ 15134 := by
  obtain ⟨h0, h1, h2, _⟩ := bel_len h
  rcases (by omega : k = 0 ∨ k = 1 ∨ k = 2) with rfl | rfl | rfl <;> omega
theorem bel_len3 {ls : List (List Nat)} (h : ∀ l ∈ ls, l.length ≤ 126) {k : Nat} (hk : k ≤ 3) : (bel ls k).length ≤ 92318 := by
  obtain ⟨h0, h1, h2, h3⟩ := bel_len h
  rcases (by omega : k = 0 ∨ k = 1 ∨ k = 2 ∨ k = 3) with rfl | rfl | rfl | rfl <;> omega
theorem told_step (n : Nat) (hn : n ≤ 2) (a b c : List Nat) : S (dpAll (n + 1) a) ++ S (dpAll n [39]) ++ S (dpAll (n + 1) b) ++ S (dpAll n [39]) ++ S (dpAll (n + 1) c) = S (dpAll n (glue3 a b c)) := by
  rw [glue_dp n hn, S_app, S_app, S_app, S_app, List.append_assoc, List.append_assoc, List.append_assoc]
section
variable {prog : Program} {w : World} {A : Around} {E : Value → Shared → Prop} {s : Shared} {a b r : Int} {t u : Tok} {Q : Value → Shared → Prop}
theorem mul2_lit (hr : 2 * b = r) (h : Q (.int r s.toks) { s with toks := s.toks + 1 }) : wpAny (model prog w) A (binaryOp .Mult (.int 2 t) (.int b u)) Q E s := by
  subst hr; exact mul_int h (IntMulOk.of_left (by decide))
end
end
section
section
variable {prog : Program} {w : World} {A : Around} {E : Value → Shared → Prop} {s : Shared} {D r L fa : Addr} {h₀ : Heap} {m : Str → Option Value} {news : List (Addr × Obj)} {o0 : Obj}
  {env : Env}
def RawLoop (prog : Program) (w : World) (A : Around) (env : Env) (target : Expr) (body : List Stmt) (Q : Flow → Shared → Prop) (E : Value → Shared → Prop) (it : Value) (s₂ : Shared) : Prop :=
  codeAny (model prog w) A (.forLoop target it body [] env) (fun r s' => match r with | .ok f => Q f s' | .error e => cameBackBy (model prog w) A env E e s') s₂
theorem For_raw {target iter : Expr} {body : List Stmt} {pos : Pos} {Q : Flow → Shared → Prop}
    (h : wpAny (model prog w) A (eval iter env) (fun xv s₁ => wpAny (model prog w) A (pyIter xv) (RawLoop prog w A env target body Q E) E s₁) E s)
    (hs : ∀ x, foldedSetIterable iter env x = pure x := by intro _; rfl) : wpAny (model prog w) A (exec (.For target iter body [] pos) env) Q E s := wpAny_For h hs

def LEnd (h₀ : Heap) (L D : Addr) (it : Addr × Obj) (news : List (Addr × Obj)) (J : (Str → Option Value) → Obj → Prop) (s₁ : Shared) (f : Flow) (s₂ : Shared) : Prop :=
  f = .next ∧ ∃ h' tk m₂ o₂, s₂ = { s₁ with heap := h', toks := tk } ∧ Fr h₀ L h' m₂ ∧ News h₀ L h' (it :: (D, o₂) :: news) ∧ J m₂ o₂
theorem LEnd.intro {it : Addr × Obj} {h' : Heap} {J : (Str → Option Value) → Obj → Prop} {s₁ : Shared} {tk : Nat} {m₂ : Str → Option Value} {o₂ : Obj} (F : Fr h₀ L h' m₂) (N : News h₀ L h' (it :: (D, o₂) :: news)) (j : J m₂ o₂) :
    LEnd h₀ L D it news J s₁ .next { s₁ with heap := h', toks := tk } := ⟨rfl, h', tk, m₂, o₂, rfl, F, N, j⟩
/-- a loop over a range; one object of the call's own changes -/
theorem rangeT {x : Str} {px : Pos} {body : List Stmt} {Q : Flow → Shared → Prop} {a b c : Int} {t u v : Tok} {n : Nat} (J : Nat → (Str → Option Value) → Obj → Prop)
    (hh : A.handled = none) (hr : IsRange s.heap r a b c t u v) (hsmall : Builtin.Range.small a b c = true) (hn : Builtin.Range.rangeSize a b c = (n : Int))
    (F : Fr h₀ env.locals s.heap m) (N : News h₀ env.locals s.heap ((D, o0) :: news)) (h0 : J 0 m o0)
    (turn : ∀ i ti I oI m₁ o₁ h₁ tk₁, i < n → (@Ne Nat I D) → J i m₁ o₁ → Fr h₀ env.locals h₁ m₁ → News h₀ env.locals h₁ ((I, oI) :: (D, o₁) :: news) →
      wpAny (model prog w) A (assign (.Name x px) env (.int (a + (i : Int) * c) ti)) (fun _ s₃ => wpAny (model prog w) A (execs body env)
        (LEnd h₀ env.locals D (I, oI) news (J (i + 1)) { s with heap := h₁, toks := tk₁ }) E s₃) E { s with heap := h₁, toks := tk₁ })
    (done : ∀ h' tk m' o', Fr h₀ env.locals h' m' → News h₀ env.locals h' ((D, o') :: news) → J n m' o' → Q .next { s with heap := h', toks := tk })
    (hE : PassesOwn (model prog w) A env E := by passes_own) :
    wpAny (model prog w) A (pyIter (.ref r)) (RawLoop prog w A env (.Name x px) body Q E) E s := by
  have hDN := N _ (List.mem_cons_self ..)
  have hDI : D ≠ s.heap.objs.size := Nat.ne_of_lt (Heap.lt_size hDN.1)
  have hIL : env.locals ≠ s.heap.objs.size := Nat.ne_of_lt F.ns.lt
  have hI0 : h₀.get? s.heap.objs.size = none := next_is_new F
  refine wpAny_pyIter_range hr hsmall ?_
  generalize hI : s.heap.objs.size = I at hDI hIL hI0
  have hnI : ∀ p ∈ (D, o0) :: news, p.1 ≠ I := fun p hp => by rw [← hI]; exact Nat.ne_of_lt (Heap.lt_size (N p hp).1)
  refine codeAny_forLoop_any
    (fun k s' => ∃ h' tk m' o' i, s' = { s with heap := h', toks := tk } ∧ IsRangeIter h' I (a + (i : Nat) * c) ((n : Int) - (i : Nat)) c ∧ Fr h₀ env.locals h' m' ∧ News h₀ env.locals h' ((D, o') :: news) ∧ J i m' o' ∧ i ≤ n ∧ k = n + 1 - i) ?_ (n + 1)
    ⟨_, s.toks, m, o0, 0, rfl, by rw [← hI, hn]; simpa using Heap.get?_push_size _ rfl, F.push _, fun p hp => ⟨Heap.get?_push_of_some _ (N p hp).1, (N p hp).2⟩, h0, Nat.zero_le _, rfl⟩
  rintro k s' ⟨h', tk, m', o', i, rfl, hit, F', N', hJ, hi, rfl⟩
  have hn' : ∀ p ∈ (D, o') :: news, p.1 ≠ I := fun p hp => by
    rcases List.mem_cons.mp hp with rfl | hp
    · exact hDI
    · exact hnI p (List.mem_cons_of_mem _ hp)
  have next : ∀ h₁ : Heap, (∀ b o, b ≠ I → h'.get? b = some o → h₁.get? b = some o) → Fr h₀ env.locals h₁ m' ∧ News h₀ env.locals h₁ ((D, o') :: news) := fun h₁ hk₁ =>
    ⟨⟨F'.ns.at' fun o e => hk₁ _ o hIL e, fun b o e => hk₁ b o (fun q => by rw [q, hI0] at e; cases e) (F'.keep b o e), F'.above⟩, fun p hp => ⟨hk₁ _ _ (hn' p hp) (N' p hp).1, (N' p hp).2⟩⟩
  by_cases hlt : i < n
  · refine wpAny_pyNext_range_item hit (by omega) fun h₁ hit' hs' => ?_
    refine wpAny_pure ?_
    obtain ⟨F₁, N₁⟩ := next h₁ fun b o hb e => hs'.extBut b o hb e
    have N₂ : News h₀ env.locals h₁ ((I, { cls := .type "range_iterator", dict := none, data := .fields #[rawInt (a + (i : Nat) * c + c), rawInt ((n : Int) - (i : Nat) - 1), rawInt c], slots := #[] }) :: (D, o') :: news) := fun p hp => by
      rcases List.mem_cons.mp hp with rfl | hp
      · exact ⟨hit', Ne.symm hIL, hI0⟩
      · exact N₁ p hp
    refine wpAny_passesOwn hE (wpAny_mono (turn i tk I _ m' o' h₁ (tk + 1) hlt (Ne.symm hDI) hJ F₁ N₂) (fun _ s₂ h₂ => wpAny_passesOwn hE (wpAny_mono h₂ (fun f s₃ h₃ => ?_) fun _ _ e => e)) fun _ _ e => e)
    obtain ⟨rfl, h₃', tk₃, m₂, o₂, rfl, F₃, N₃, j⟩ := h₃
    refine ⟨n + 1 - (i + 1), by omega, h₃', tk₃, m₂, o₂, i + 1, rfl, ?_, F₃, fun p hp => N₃ p (List.mem_cons_of_mem _ hp), j, hlt, rfl⟩
    have e1 : a + ((i + 1 : Nat) : Int) * c = a + (i : Int) * c + c := by push_cast; rw [Int.add_mul, Int.one_mul, Int.add_assoc]
    have e2 : (n : Int) - ((i + 1 : Nat) : Int) = (n : Int) - (i : Int) - 1 := by push_cast; omega
    rw [e1, e2]
    exact (N₃ _ (List.mem_cons_self ..)).1
  · have hin : i = n := by omega
    subst hin
    refine wpAny_pyNext_range_end hh hit (by omega) fun h₁ he => wpAny_execs_nil ?_
    obtain ⟨F₁, N₁⟩ := next h₁ he
    exact done h₁ tk m' o' F₁ N₁ hJ

/-- a loop over a made list; one object of the call's own may change -/
theorem listT {row : Addr} {ws : List Value} {k : Nat} {x : Str} {px : Pos} {body : List Stmt} {Q : Flow → Shared → Prop} (J : Nat → (Str → Option Value) → Obj → Prop)
    (hh : A.handled = none) (F : Fr h₀ env.locals s.heap m) (N : News h₀ env.locals s.heap ((D, o0) :: news)) (hm : (row, listOf ws.toArray k) ∈ news) (h0 : J 0 m o0)
    (turn : ∀ i v I oI m₁ o₁ h₁ tk₁, ws[i]? = some v → (@Ne Nat I D) → J i m₁ o₁ → Fr h₀ env.locals h₁ m₁ → News h₀ env.locals h₁ ((I, oI) :: (D, o₁) :: news) →
      wpAny (model prog w) A (assign (.Name x px) env v) (fun _ s₃ => wpAny (model prog w) A (execs body env)
        (LEnd h₀ env.locals D (I, oI) news (J (i + 1)) { s with heap := h₁, toks := tk₁ }) E s₃) E { s with heap := h₁, toks := tk₁ })
    (done : ∀ h' tk m' o', Fr h₀ env.locals h' m' → News h₀ env.locals h' ((D, o') :: news) → J ws.length m' o' → Q .next { s with heap := h', toks := tk })
    (hE : PassesOwn (model prog w) A env E := by passes_own) :
    wpAny (model prog w) A (pyIter (.ref row)) (RawLoop prog w A env (.Name x px) body Q E) E s := by
  have hrN := N _ (List.mem_cons_of_mem _ hm)
  have hDN := N _ (List.mem_cons_self ..)
  have hls : s.heap.IsList row ws.toArray := ⟨_, hrN.1, rfl, _, rfl⟩
  have hne : row ≠ s.heap.objs.size := Nat.ne_of_lt (Heap.lt_size hrN.1)
  have hDI : D ≠ s.heap.objs.size := Nat.ne_of_lt (Heap.lt_size hDN.1)
  have hIL : env.locals ≠ s.heap.objs.size := Nat.ne_of_lt F.ns.lt
  have hI0 : h₀.get? s.heap.objs.size = none := next_is_new F
  refine wpAny_pyIter_list hls ?_
  generalize hI : s.heap.objs.size = I at hne hDI hIL hI0
  have hn : ∀ p ∈ (D, o0) :: news, p.1 ≠ I := fun p hp => by rw [← hI]; exact Nat.ne_of_lt (Heap.lt_size (N p hp).1)
  refine codeAny_forLoop_any
    (fun k s' => ∃ h' tk m' o' i, s' = { s with heap := h', toks := tk } ∧ h'.IsListIter I row i ∧ Fr h₀ env.locals h' m' ∧ News h₀ env.locals h' ((D, o') :: news) ∧ J i m' o' ∧ i ≤ ws.length ∧ k = ws.length + 1 - i) ?_ (ws.length + 1)
    ⟨_, s.toks, m, o0, 0, rfl, ⟨_, by rw [← hI]; exact Heap.get?_push_size _ rfl, rfl, rfl⟩, F.push _, fun p hp => ⟨Heap.get?_push_of_some _ (N p hp).1, (N p hp).2⟩, h0, Nat.zero_le _, rfl⟩
  rintro k s' ⟨h', tk, m', o', i, rfl, hit, F', N', hJ, hi, rfl⟩
  have hr' : h'.IsList row ws.toArray := ⟨_, (N' _ (List.mem_cons_of_mem _ hm)).1, rfl, _, rfl⟩
  have hn' : ∀ p ∈ (D, o') :: news, p.1 ≠ I := fun p hp => by
    rcases List.mem_cons.mp hp with rfl | hp
    · exact hDI
    · exact hn p (List.mem_cons_of_mem _ hp)
  have next : ∀ h₁ : Heap, (∀ b o, b ≠ I → h'.get? b = some o → h₁.get? b = some o) → Fr h₀ env.locals h₁ m' ∧ News h₀ env.locals h₁ ((D, o') :: news) := fun h₁ hk₁ =>
    ⟨⟨F'.ns.at' fun o e => hk₁ _ o hIL e, fun b o e => hk₁ b o (fun q => by rw [q, hI0] at e; cases e) (F'.keep b o e), F'.above⟩, fun p hp => ⟨hk₁ _ _ (hn' p hp) (N' p hp).1, (N' p hp).2⟩⟩
  by_cases hlt : i < ws.length
  · refine wpAny_pyNext_list_item hit hr' (x := ws[i]) (by simp [hlt]) fun h₁ hit' hs' => ?_
    refine wpAny_pure ?_
    obtain ⟨F₁, N₁⟩ := next h₁ fun b o hb e => hs'.extBut b o hb e
    obtain ⟨oI, hoI, hc, hdat⟩ := hit'
    have N₂ : News h₀ env.locals h₁ ((I, oI) :: (D, o') :: news) := fun p hp => by
      rcases List.mem_cons.mp hp with rfl | hp
      · exact ⟨hoI, Ne.symm hIL, hI0⟩
      · exact N₁ p hp
    refine wpAny_passesOwn hE (wpAny_mono (turn i ws[i] I oI m' o' h₁ tk (List.getElem?_eq_getElem hlt) (Ne.symm hDI) hJ F₁ N₂) (fun _ s₂ h₂ => wpAny_passesOwn hE (wpAny_mono h₂ (fun f s₃ h₃ => ?_) fun _ _ e => e)) fun _ _ e => e)
    obtain ⟨rfl, h₃', tk₃, m₂, o₂, rfl, F₃, N₃, j⟩ := h₃
    refine ⟨ws.length + 1 - (i + 1), by omega, h₃', tk₃, m₂, o₂, i + 1, rfl, ⟨oI, (N₃ _ (List.mem_cons_self ..)).1, hc, hdat⟩, F₃, fun p hp => N₃ p (List.mem_cons_of_mem _ hp), j, hlt, rfl⟩
  · have hin : i = ws.length := by omega
    subst hin
    refine wpAny_pyNext_list_end hh hit hr' (by simp) fun h₁ he => wpAny_execs_nil ?_
    obtain ⟨F₁, N₁⟩ := next h₁ he
    exact done h₁ tk m' o' F₁ N₁ hJ
theorem rangeL {L : Addr} {x : Str} {px : Pos} {body : List Stmt} {Q : Flow → Shared → Prop} {a b c : Int} {t u v : Tok} {n : Nat} (J : Nat → (Str → Option Value) → Obj → Prop) (hL : env.locals = L)
    (hh : A.handled = none) (hr : IsRange s.heap r a b c t u v) (hsmall : Builtin.Range.small a b c = true) (hn : Builtin.Range.rangeSize a b c = (n : Int))
    (F : Fr h₀ L s.heap m) (N : News h₀ L s.heap ((D, o0) :: news)) (h0 : J 0 m o0)
    (turn : ∀ i ti I oI m₁ o₁ h₁ tk₁, i < n → (@Ne Nat I D) → J i m₁ o₁ → Fr h₀ L h₁ m₁ → News h₀ L h₁ ((I, oI) :: (D, o₁) :: news) →
      wpAny (model prog w) A (assign (.Name x px) env (.int (a + (i : Int) * c) ti)) (fun _ s₃ => wpAny (model prog w) A (execs body env)
        (LEnd h₀ L D (I, oI) news (J (i + 1)) { s with heap := h₁, toks := tk₁ }) E s₃) E { s with heap := h₁, toks := tk₁ })
    (done : ∀ h' tk m' o', Fr h₀ L h' m' → News h₀ L h' ((D, o') :: news) → J n m' o' → Q .next { s with heap := h', toks := tk })
    (hE : PassesOwn (model prog w) A env E := by passes_own) :
    wpAny (model prog w) A (pyIter (.ref r)) (RawLoop prog w A env (.Name x px) body Q E) E s := by
  subst hL
  exact rangeT J hh hr hsmall hn F N h0 turn done hE
theorem listL {L : Addr} {row : Addr} {ws : List Value} {k : Nat} {x : Str} {px : Pos} {body : List Stmt} {Q : Flow → Shared → Prop} (J : Nat → (Str → Option Value) → Obj → Prop) (hL : env.locals = L)
    (hh : A.handled = none) (F : Fr h₀ L s.heap m) (N : News h₀ L s.heap ((D, o0) :: news)) (hm : (row, listOf ws.toArray k) ∈ news) (h0 : J 0 m o0)
    (turn : ∀ i v I oI m₁ o₁ h₁ tk₁, ws[i]? = some v → (@Ne Nat I D) → J i m₁ o₁ → Fr h₀ L h₁ m₁ → News h₀ L h₁ ((I, oI) :: (D, o₁) :: news) →
      wpAny (model prog w) A (assign (.Name x px) env v) (fun _ s₃ => wpAny (model prog w) A (execs body env)
        (LEnd h₀ L D (I, oI) news (J (i + 1)) { s with heap := h₁, toks := tk₁ }) E s₃) E { s with heap := h₁, toks := tk₁ })
    (done : ∀ h' tk m' o', Fr h₀ L h' m' → News h₀ L h' ((D, o') :: news) → J ws.length m' o' → Q .next { s with heap := h', toks := tk })
    (hE : PassesOwn (model prog w) A env E := by passes_own) :
    wpAny (model prog w) A (pyIter (.ref row)) (RawLoop prog w A env (.Name x px) body Q E) E s := by
  subst hL
  exact listT J hh F N hm h0 turn done hE
end
end
section
abbrev Bels (ls : List (List Nat)) (i : Nat) : List Str := (List.range (i + 1)).map fun j => S (bel ls j)
theorem strs_app {x : Str} {t : Tok} : ∀ {vs : List Value} {ss : List Str}, StrsAre vs ss → StrsAre (vs ++ [.str x t]) (ss ++ [x])
  | _, _, .nil => .cons x t .nil
  | _, _, .cons y u h => .cons y u (strs_app h)
theorem bels_app {ls : List (List Nat)} {i : Nat} {vs : List Value} {t : Tok} (h : StrsAre vs (Bels ls i)) : StrsAre (vs ++ [.str (S (bel ls (i + 1))) t]) (Bels ls (i + 1)) := by
  have e : Bels ls (i + 1) = Bels ls i ++ [S (bel ls (i + 1))] := by
    show (List.range (i + 1 + 1)).map _ = _
    rw [List.range_succ, List.map_append]; rfl
  rw [e]; exact strs_app h
theorem str_atx : ∀ {vs : List Value} {ss : List Str}, StrsAre vs ss → ∀ {j : Nat} {x : Str}, ss[j]? = some x → ∃ t, vs[j]? = some (.str x t)
  | _, _, .nil, _, _, h => by simp at h
  | _, _, .cons x t _, 0, y, h => ⟨t, by simp at h; rw [h]; rfl⟩
  | _, _, .cons _ _ r, j + 1, y, h => by
    obtain ⟨t, h1⟩ := str_atx r (j := j) (x := y) (by simpa using h)
    exact ⟨t, by simpa using h1⟩
theorem bels_at {ls : List (List Nat)} {i j : Nat} (h : j ≤ i) : (Bels ls i)[j]? = some (S (bel ls j)) := by
  show ((List.range (i + 1)).map _)[j]? = _
  rw [List.getElem?_map, List.getElem?_range (by omega)]; rfl
theorem parts_at {ls : List (List Nat)} {j : Nat} (h : j < ls.length) : (ls.map S)[j]? = some (S (ls.getD j [])) := by
  rw [List.getElem?_map, List.getElem?_eq_getElem h, List.getD_eq_getElem?_getD, List.getElem?_eq_getElem h]; rfl
section
variable {prog : Program} {w : World} {A : Around} {E : Value → Shared → Prop} {s : Shared} {h₀ : Heap} {L D I : Addr} {m : Str → Option Value} {news rest : List (Addr × Obj)} {vs : List Value} {ls : List (List Nat)} {l : List Nat} {n i j k : Nat} {p : Int} {tp : Tok} {oI : Obj}
/-- a part by its number -/
theorem getP {value slice : PySem.Expr} {Q : Value → Shared → Prop} (N : News h₀ L s.heap news) (hm : (D, listOf vs.toArray n) ∈ news) (hvs : StrsAre vs (ls.map S)) (hp : p = (j : Int)) (hg : j < ls.length ∧ ls.getD j [] = l) (h63 : ls.length ≤ 100)
    (h : ∀ t, Q (.str (S l) t) s) (hs : subscripted slice false (.ref D) (.int p tp) = operate [.ref D, .int p tp] (getItem (.ref D) (.int p tp)) := by with_unfolding_all rfl) :
    wpAny (model prog w) A (subscriptTail value slice (.ref D) (.int p tp)) Q E s := by
  obtain ⟨hj, rfl⟩ := hg
  subst hp
  obtain ⟨t, ht⟩ := str_atx hvs (parts_at hj)
  have hl := News.isList N hm
  exact tail_any hl.typeIs slot_list_getitem.lookup (wpAny_getItem_list hl (Int.natCast_nonneg j) (by omega) (by simpa using ht) (h t)) hs
/-- a layer by its number -/
theorem getB {value slice : PySem.Expr} {Q : Value → Shared → Prop} (N : News h₀ L s.heap news) (hm : (D, lob vs n) ∈ news) (hvs : StrsAre vs (Bels ls i)) (hp : p = (j : Int)) (hg : j ≤ i ∧ bel ls j = l) (h63 : i ≤ 100)
    (h : ∀ t, Q (.str (S l) t) s) (hs : subscripted slice false (.ref D) (.int p tp) = operate [.ref D, .int p tp] (getItem (.ref D) (.int p tp)) := by with_unfolding_all rfl) :
    wpAny (model prog w) A (subscriptTail value slice (.ref D) (.int p tp)) Q E s := by
  obtain ⟨hj, rfl⟩ := hg
  subst hp
  obtain ⟨t, ht⟩ := str_atx hvs (bels_at hj)
  have hl := News.isList N hm
  exact tail_any hl.typeIs slot_list_getitem.lookup (wpAny_getItem_list hl (Int.natCast_nonneg j) (by omega) (by simpa using ht) (h t)) hs
/-- the last layer -/
theorem getLast {value slice : PySem.Expr} {Q : Value → Shared → Prop} (N : News h₀ L s.heap news) (hm : (D, lob vs n) ∈ news) (hvs : StrsAre vs (Bels ls i)) (hg : bel ls i = l) (h63 : i ≤ 100)
    (h : ∀ t, Q (.str (S l) t) s) (hs : subscripted slice false (.ref D) (.int (-1) tp) = operate [.ref D, .int (-1) tp] (getItem (.ref D) (.int (-1) tp)) := by with_unfolding_all rfl) :
    wpAny (model prog w) A (subscriptTail value slice (.ref D) (.int (-1) tp)) Q E s := by
  subst hg
  obtain ⟨t, ht⟩ := str_atx hvs (bels_at (ls := ls) (Nat.le_refl i))
  have hl := News.isList N hm
  have e : vs.length = i + 1 := by rw [hvs.length, List.length_map, List.length_range]
  refine tail_any hl.typeIs slot_list_getitem.lookup (wpAny_getItem_list_neg hl (by decide) (by rw [List.size_toArray]; omega) (by decide) ?_ (h t)) hs
  have e2 : ((-1 : Int) + (vs.toArray.size : Int)).toNat = i := by rw [List.size_toArray]; omega
  rw [e2]
  simpa using ht
def LoopOn : Prop := True
theorem loopOn : LoopOn := trivial
def Shape (_ : List (Addr × Obj)) : Prop := True
theorem shape (l : List (Addr × Obj)) : Shape l := trivial
theorem trim9 {h : Heap} {l' D0 D1 D2 a1 a2 a3 c2 c1 : Addr} {ol o0 o1 o2 x1 x2 x3 p2 p1 : Obj} (N : News h₀ L h [(l', ol), (D0, o0), (D1, o1), (D2, o2), (a1, x1), (a2, x2), (a3, x3), (c2, p2), (c1, p1)]) :
    News h₀ L h ((l', ol) :: [(D0, o0), (D1, o1), (D2, o2), (c2, p2), (c1, p1)]) := fun p hp => N p (by
  simp only [List.mem_cons, List.not_mem_nil, or_false] at hp ⊢
  rcases hp with h | h | h | h | h | h <;> simp [h])
theorem trim9_off {h : Heap} {I : Addr} {oI ol : Obj} {l' D0 D1 D2 a1 a2 a3 c2 c1 : Nat} {o0 o1 o2 p2 p1 : Obj} (_ : News h₀ L h [(I, oI), ((l' : Addr), ol), ((D0 : Addr), o0), ((D1 : Addr), o1), ((D2 : Addr), o2), ((c2 : Addr), p2), ((c1 : Addr), p1)]) (l1 : D0 < l' ∧ D1 < l' ∧ D2 < l' ∧ a1 < l' ∧ a2 < l' ∧ a3 < l' ∧ c2 < l' ∧ c1 < l') :
    ∀ p ∈ [((D0 : Addr), o0), ((D1 : Addr), o1), ((D2 : Addr), o2), ((c2 : Addr), p2), ((c1 : Addr), p1)], p.1 ≠ l' := fun p hp => by
  simp only [List.mem_cons, List.not_mem_nil, or_false] at hp
  rcases hp with rfl | rfl | rfl | rfl | rfl <;> (apply Nat.ne_of_lt; dsimp only; omega)
theorem shape_of {h : Heap} {l : List (Addr × Obj)} (_ : News h₀ L h l) : Shape l := trivial
theorem news_tl {h : Heap} {x : Addr × Obj} {l : List (Addr × Obj)} (N : News h₀ L h (x :: l)) : News h₀ L h l := fun p hp => N p (List.mem_cons_of_mem _ hp)
/-- one more layer -/
theorem appB {T : Addr} {oT : Obj} {x : Value} {Q : Value → Shared → Prop} (F : Fr h₀ L s.heap m) (N : News h₀ L s.heap ((T, oT) :: (I, oI) :: (D, lob vs k) :: rest)) (hT : (@Ne Nat T D)) (hID : (@Ne Nat I D)) (hr : ∀ p ∈ rest, p.1 ≠ D) (hv : StrsAre vs (Bels ls i)) (h63 : i ≤ 100)
    (h : ∀ h', Fr h₀ L h' m → News h₀ L h' ((T, oT) :: (I, oI) :: (D, lob (vs ++ [x]) (k + 1)) :: rest) → Q .none { s with heap := h' }) :
    wpAny (model prog w) A (call (.builtin "list.append") [.ref D, x]) Q E s := by
  have N' : News h₀ L s.heap ([(T, oT), (I, oI)] ++ (D, lob vs k) :: rest) := N
  have z := N' (D, lob vs k) (List.mem_append.mpr (.inr (.head _)))
  have e : vs.length = i + 1 := by rw [hv.length, List.length_map, List.length_range]
  refine append_at z.1 (fun h' hsb ho' => h h' (F.change hsb z.2.1 z.2.2) (news_set N' ?_ hr hsb ?_)) ?_
  · intro q hq
    rcases List.mem_cons.mp hq with rfl | hq
    · exact hT
    · rw [List.mem_singleton.mp hq]; exact hID
  · rw [ho']
    have : vs.toArray.push x = (vs ++ [x]).toArray := by simp
    rw [this]; rfl
  · rw [List.size_toArray, sizeLine_eq]; omega
theorem item3 {value slice : PySem.Expr} {a b c v : Value} {Q : Value → Shared → Prop} (N : News h₀ L s.heap news) (hm : (D, listOf #[a, b, c] n) ∈ news) (h0 : 0 ≤ p) (h1 : p < 2 ^ 63) (hx : ([a, b, c] : List Value)[p.toNat]? = some v)
    (h : Q v s) (hs : subscripted slice false (.ref D) (.int p tp) = operate [.ref D, .int p tp] (getItem (.ref D) (.int p tp)) := by with_unfolding_all rfl) :
    wpAny (model prog w) A (subscriptTail value slice (.ref D) (.int p tp)) Q E s := by
  have hl := News.isList N hm
  exact tail_any hl.typeIs slot_list_getitem.lookup (wpAny_getItem_list hl h0 h1 (by simpa using hx) h) hs
theorem eqs {x : Str} {t u : Tok} : SeqAt.EqAt A s (.str x t) (.str x u) true := by
  have := SeqAt.EqAt.str_str (A := A) (s := s) x t x u
  rwa [beq_self_eq_true] at this
theorem ne_list3 {x y z x' y' z' : Str} {t1 t2 t3 u1 u2 u3 : Tok} {a b : Addr} {k1 k2 : Nat} {Q : Value → Shared → Prop} (N : News h₀ L s.heap news) (h1 : (a, listOf #[.str x t1, .str y t2, .str z t3] k1) ∈ news) (h2 : (b, listOf #[.str x' u1, .str y' u2, .str z' u3] k2) ∈ news)
    (ex : x = x') (ey : y = y') (ez : z = z') (hu : A.units < cLine) (h : Q (.bool false) s) : wpAny (model prog w) A (compareOp .NotEq (.ref a) (.ref b)) Q E s := by
  subst ex; subst ey; subst ez
  refine SeqAt.RcNeAt.lists (e := fun _ => true) ⟨_, (N _ h1).1, rfl, _, rfl⟩ ⟨_, (N _ h2).1, rfl, _, rfl⟩ rfl hu ?_ prog w E Q h
  intro j j1 j2
  match j, j1 with
  | 0, _ => exact eqs
  | 1, _ => exact eqs
  | 2, _ => exact eqs
theorem ne_tup3 {x x' : Str} {t u : Tok} {a b : Addr} {Q : Value → Shared → Prop} (N : News h₀ L s.heap news) (h1 : (a, ({ cls := .type "tuple", data := .seq #[.none, .none, .str x t] } : Obj)) ∈ news) (h2 : (b, ({ cls := .type "tuple", data := .seq #[.none, .none, .str x' u] } : Obj)) ∈ news)
    (ex : x = x') (hu : A.units < cLine) (h : Q (.bool false) s) : wpAny (model prog w) A (compareOp .NotEq (.ref a) (.ref b)) Q E s := by
  subst ex
  refine SeqAt.RcNeAt.tuples (e := fun _ => true) ⟨_, (N _ h1).1, rfl, _, rfl⟩ ⟨_, (N _ h2).1, rfl, _, rfl⟩ hu ?_ prog w E Q h
  intro j j1 j2
  match j, j1 with
  | 0, _ => exact SeqAt.EqAt.same _
  | 1, _ => exact SeqAt.EqAt.same _
  | 2, _ => exact eqs
theorem ne_refl {x : Str} {t u : Tok} {Q : Value → Shared → Prop} (h : Q (.bool false) s) : wpAny (model prog w) A (compareOp .NotEq (.str x t) (.str x u)) Q E s := by
  refine ne_str ?_
  have : (x != x) = false := by simp
  rw [this]; exact h
end
/-- the first loop's frame and list -/
def J1 (n : Nat) (ls : List (List Nat)) (base : Str → Option Value) (i : Nat) (m : Str → Option Value) (o : Obj) : Prop :=
  ∃ (u1 u2 u3 : Option Value) (t : Tok) (vs : List Value) (k : Nat), m = (fun y => if y = Str.ofString "told" then some (.str (S (dpAll (n - i) (bel ls i))) t) else if y = Str.ofString "joint" then u1 else if y = Str.ofString "texts" then u2 else if y = Str.ofString "k" then u3 else base y) ∧
    o = lob vs k ∧ StrsAre vs (Bels ls i)
theorem j1_map {base : Str → Option Value} {v : Value} : (fun y => if y = Str.ofString "told" then some v else base y) =
    (fun y => if y = Str.ofString "told" then some v else if y = Str.ofString "joint" then base (Str.ofString "joint") else if y = Str.ofString "texts" then base (Str.ofString "texts") else if y = Str.ofString "k" then base (Str.ofString "k") else base y) := by
  funext y
  by_cases h0 : y = Str.ofString "told"
  · rw [if_pos h0, if_pos h0]
  rw [if_neg h0, if_neg h0]
  by_cases h1 : y = Str.ofString "joint"
  · rw [if_pos h1, h1]
  rw [if_neg h1]
  by_cases h2 : y = Str.ofString "texts"
  · rw [if_pos h2, h2]
  rw [if_neg h2]
  by_cases h3 : y = Str.ofString "k"
  · rw [if_pos h3, h3]
  rw [if_neg h3]
theorem j1_start {n : Nat} {ls : List (List Nat)} {base : Str → Option Value} {t t' : Tok} : J1 n ls base 0 (fun y => if y = Str.ofString "told" then some (.str (S (dpAll n (bel ls 0))) t) else base y) (listOf #[.str (S (bel ls 0)) t'] 0) :=
  ⟨_, _, _, t, [.str (S (bel ls 0)) t'], 0, j1_map, rfl, StrsAre.cons _ _ .nil⟩
theorem rng_small {n : Nat} (h1 : 1 ≤ n) (h3 : n ≤ 3) : Builtin.Range.small 0 (n : Int) 1 = true := by
  rcases (by omega : n = 1 ∨ n = 2 ∨ n = 3) with rfl | rfl | rfl <;> decide
theorem rng_size {n : Nat} (h1 : 1 ≤ n) (h3 : n ≤ 3) : Builtin.Range.rangeSize 0 (n : Int) 1 = (n : Int) := by
  rcases (by omega : n = 1 ∨ n = 2 ∨ n = 3) with rfl | rfl | rfl <;> decide
theorem rng_small2 {n : Nat} (h1 : 1 ≤ n) (h3 : n ≤ 3) : Builtin.Range.small ((n : Int) - 1) (-1) (-1) = true := by
  rcases (by omega : n = 1 ∨ n = 2 ∨ n = 3) with rfl | rfl | rfl <;> decide
theorem rng_size2 {n : Nat} (h1 : 1 ≤ n) (h3 : n ≤ 3) : Builtin.Range.rangeSize ((n : Int) - 1) (-1) (-1) = (n : Int) := by
  rcases (by omega : n = 1 ∨ n = 2 ∨ n = 3) with rfl | rfl | rfl <;> decide
theorem j1_turn {n i q : Nat} {ls : List (List Nat)} {base : Str → Option Value} {v0 v1 v2 v3 v4 v5 v6 : Option Value} {a b c : List Nat} {t t' : Tok} {vs : List Value} {k : Nat} {x : Str} (hq : n - (i + 1) = q) (hq2 : q ≤ 2) (ha : ls.getD (2 * i + 1) [] = a) (hb : ls.getD (2 * i + 2) [] = b) (hc : bel ls i = c) (hvs : StrsAre vs (Bels ls i))
    (hx : x = S (dpAll (q + 1) a) ++ S (dpAll q [39]) ++ S (dpAll (q + 1) b) ++ S (dpAll q [39]) ++ S (dpAll (q + 1) c)) :
    J1 n ls base (i + 1) (fun y => if y = Str.ofString "told" then some (.str x t) else if y = Str.ofString "joint" then v1 else if y = Str.ofString "texts" then v2 else if y = Str.ofString "k" then v3 else
      if y = Str.ofString "told" then v0 else if y = Str.ofString "joint" then v4 else if y = Str.ofString "texts" then v5 else if y = Str.ofString "k" then v6 else base y) (lob (vs ++ [.str (S (glue3 a b c)) t']) k) := by
  have e : bel ls (i + 1) = glue3 a b c := by rw [← ha, ← hb, ← hc]; rfl
  refine ⟨v1, v2, v3, t, _, k, ?_, rfl, by rw [← e]; exact bels_app hvs⟩
  rw [hx, told_step q hq2, hq, e]
  funext y
  by_cases h0 : y = Str.ofString "told"
  · simp only [if_pos h0]
  by_cases h1 : y = Str.ofString "joint"
  · simp only [if_neg h0, if_pos h1]
  by_cases h2 : y = Str.ofString "texts"
  · simp only [if_neg h0, if_neg h1, if_pos h2]
  by_cases h3 : y = Str.ofString "k"
  · simp only [if_neg h0, if_neg h1, if_neg h2, if_pos h3]
  simp only [if_neg h0, if_neg h1, if_neg h2, if_neg h3]
theorem three_n (k : Nat) : ∃ r n : Nat, ((k : Int) + 1).fmod 3 = (r : Int) ∧ (1 : Int) + r = (n : Int) ∧ 1 ≤ n ∧ n ≤ 3 := by
  have h0 : 0 ≤ ((k : Int) + 1).fmod 3 := fmod_lo _ (by decide)
  have h1 : ((k : Int) + 1).fmod 3 < 3 := fmod_hi _ (by decide)
  refine ⟨(((k : Int) + 1).fmod 3).toNat, (((k : Int) + 1).fmod 3).toNat + 1, ?_, ?_, ?_, ?_⟩ <;> omega
/-- the second loop's frame -/
def J2 (n : Nat) (ls : List (List Nat)) (o0 : Obj) (base : Str → Option Value) (i : Nat) (m : Str → Option Value) (o : Obj) : Prop :=
  ∃ (u1 u2 : Option Value) (t : Tok), m = (fun y => if y = Str.ofString "whole" then some (.str (S (bel ls (n - i))) t) else if y = Str.ofString "got" then u1 else if y = Str.ofString "k" then u2 else base y) ∧ o = o0
theorem j2_start {n : Nat} {ls : List (List Nat)} {o0 : Obj} {base : Str → Option Value} {t : Tok} : J2 n ls o0 base 0 (fun y => if y = Str.ofString "whole" then some (.str (S (bel ls n)) t) else base y) o0 := by
  refine ⟨base (Str.ofString "got"), base (Str.ofString "k"), t, ?_, rfl⟩
  funext y
  show _ = (if y = Str.ofString "whole" then some (Value.str (S (bel ls n)) t) else _)
  by_cases h0 : y = Str.ofString "whole"
  · rw [if_pos h0, if_pos h0]
  rw [if_neg h0, if_neg h0]
  by_cases h1 : y = Str.ofString "got"
  · rw [if_pos h1, h1]
  rw [if_neg h1]
  by_cases h2 : y = Str.ofString "k"
  · rw [if_pos h2, h2]
  rw [if_neg h2]
theorem j2_turn {n i j : Nat} {ls : List (List Nat)} {o0 : Obj} {base : Str → Option Value} {v0 v1 v2 v3 v4 v5 : Option Value} {c : List Nat} {t : Tok} (hj : n - (i + 1) = j) (hc : bel ls j = c) :
    J2 n ls o0 base (i + 1) (fun y => if y = Str.ofString "whole" then some (.str (S c) t) else if y = Str.ofString "got" then v1 else if y = Str.ofString "got" then v2 else if y = Str.ofString "k" then v3 else
      if y = Str.ofString "whole" then v0 else if y = Str.ofString "got" then v4 else if y = Str.ofString "k" then v5 else base y) o0 := by
  refine ⟨v1, v3, t, ?_, rfl⟩
  rw [hj, hc]
  funext y
  by_cases h0 : y = Str.ofString "whole"
  · simp only [if_pos h0]
  by_cases h1 : y = Str.ofString "got"
  · simp only [if_neg h0, if_pos h1]
  by_cases h2 : y = Str.ofString "k"
  · simp only [if_neg h0, if_neg h1, if_pos h2]
  simp only [if_neg h0, if_neg h1, if_neg h2]
/-- the third loop's frame -/
def J3 (o0 : Obj) (base : Str → Option Value) (_i : Nat) (m : Str → Option Value) (o : Obj) : Prop :=
  ∃ (u1 : Option Value), m = (fun y => if y = Str.ofString "part" then u1 else base y) ∧ o = o0
theorem j3_start {o0 : Obj} {base : Str → Option Value} : J3 o0 base 0 base o0 := by
  refine ⟨base (Str.ofString "part"), ?_, rfl⟩
  funext y
  by_cases h0 : y = Str.ofString "part"
  · rw [if_pos h0, h0]
  rw [if_neg h0]
theorem j3_turn {o0 : Obj} {base : Str → Option Value} {i : Nat} {v0 v1 : Option Value} : J3 o0 base i (fun y => if y = Str.ofString "part" then v0 else if y = Str.ofString "part" then v1 else base y) o0 := by
  refine ⟨v0, ?_, rfl⟩
  funext y
  by_cases h0 : y = Str.ofString "part"
  · simp only [if_pos h0]
  simp only [if_neg h0]
theorem part_at {vs : List Value} {ls : List (List Nat)} {i : Nat} {v : Value} (h : StrsAre vs (ls.map S)) (hb : ∀ l ∈ ls, l.length ≤ 126) (hx : vs[i]? = some v) : ∃ l t, v = .str (S l) t ∧ l.length ≤ 1000 := by
  have hi : i < ls.length := by
    have := (List.getElem?_eq_some_iff.mp hx).1
    rw [h.length, List.length_map] at this
    exact this
  obtain ⟨t, ht⟩ := str_atx h (parts_at hi)
  rw [ht] at hx
  exact ⟨_, t, (Option.some.inj hx).symm, Nat.le_trans (getD_len hb i) (by decide)⟩
end
section
local macro_rules | `(tactic| k_mem) => `(tactic| with_reducible assumption)
local macro_rules | `(tactic| k_ne) => `(tactic| (refine neN ?_; (try dsimp only); first | with_reducible assumption | exact Ne.symm (by with_reducible assumption)))
theorem startLawP : True := by
  k_with_none
  w_top off
  k_with "m_sub" => (intro p9 hp9; repeat (first | exact hp9 | refine List.mem_cons_of_mem _ ?_))
  k_with "m_lt" => (first | with_reducible assumption | (apply allLt_mem; first | with_reducible assumption | exact And.right (by with_reducible assumption) | exact And.right (And.right (by with_reducible assumption)) | exact And.right (And.right (And.right (by with_reducible assumption)))))
  k_with "m_enter" => (k_dflt (refine' code_def ?z9k1 ?z9k2 ?z9k3 ?z9k4 ?z9k5 ?z9kA ?z9kF ?z9kK ?z9k6 ?z9k7 ?z9k8 ?z9k9 ?z9kB ?_ ?z9c2 ?z9c3 ?z9c4 ?z9c5; (case z9kA => exact rfl); (case z9kF => exact rfl); (case z9kK => assumption); (case z9k1 => k_asm); (case z9k2 => k_asm); (case z9k3 => k_asm); (case z9k4 => k_asm); (case z9k5 => k_asm); (case z9k6 => k_is); (case z9k7 => k_is); (case z9k8 => ktr_room); (case z9k9 => first | exact BindsTo.of_eq rfl | exact binds_K (by k_in) rfl (by k_is) rfl rfl rfl); (case z9c5 => decide); (case z9kB => exact locs rfl); (case z9c2 => exact rfl); (case z9c3 => exact rfl); (case z9c4 => exact rfl); k_whole; intro g' L' h' FG' F' N' B' X' T'; (try dsimp only); (try k_lift B'); (try k_fold)))
  k_with "m_enterC" => (k_dflt (refine' code_defC ?z9k1 ?z9k2 ?z9k3 ?z9k4 ?z9k5 ?z9kA ?z9kF ?z9kK ?z9k6 ?z9k7 ?z9k8 ?z9k9 ?z9kB ?z9kD ?_ ?z9c2 ?z9c3 ?z9c4; (case z9kA => exact rfl); (case z9kF => exact rfl); (case z9kK => assumption); (case z9k1 => k_asm); (case z9k2 => k_asm); (case z9k3 => k_asm); (case z9k4 => k_asm); (case z9k5 => k_asm); (case z9k6 => k_is); (case z9k7 => k_is); (case z9k8 => ktr_room); (case z9k9 => first | exact BindsTo.of_eq rfl | exact binds_K (by k_in) rfl (by k_is) rfl rfl rfl); (case z9kB => exact rfl); (case z9kD => decide +kernel); (case z9c2 => exact rfl); (case z9c3 => exact rfl); (case z9c4 => exact rfl); k_whole; intro g' L' h' tk' cells' FG' F' N' Y' B' X' T' l1; (try k_lt l1); k_cells Y'; (try simp only [List.cons_append, List.nil_append] at N'); (try dsimp only); (try k_lift B'); (try k_fold)))
  k_with "call builtin:str.replace" => (k_here; (with_reducible show wpAny _ _ (call (Value.builtin "str.replace") [Value.str _ _, Value.str _ _, Value.str _ _]) _ _ _); (refine SC.replace (by with_reducible assumption) (by with_reducible assumption) (by with_reducible assumption) (by with_reducible assumption) (by with_reducible assumption) ?_); intro _ _)
  k_with "execs cons" => (k_here; (with_reducible show wpAny _ _ (execs _ _) _ _ (Shared.mk _ _ _ (_ + _) _)); (refine gentoks 1 (by first | omega | exact pos_add (Nat.le_of_ble_eq_true rfl)) ?_); intro tk9 htk9)
  k_with "execs nil" => (k_here; (with_reducible show wpAny _ _ (execs _ _) _ _ (Shared.mk _ _ _ (_ + _) _)); (refine gentoks 1 (by first | omega | exact pos_add (Nat.le_of_ble_eq_true rfl)) ?_); intro tk9 htk9)
  k_with "call builtin:str.replace" => (k_here; (with_reducible show wpAny _ _ (call (Value.builtin "str.replace") [Value.str _ _, Value.str _ _, Value.str _ _]) _ _ _); (refine SC.replace (by (show @Ne Nat _ _); omega) (by (show @Ne Nat _ _); omega) (by (show @Ne Nat _ _); omega) (by decide +kernel) (by with_reducible assumption) ?_); intro _ _)
  k_with "truthy ref" => (k_here; (refine truthy_c (News.get (by k_asm) (by k_mem)) (by with_reducible assumption) (by with_reducible assumption) (by with_reducible assumption) (by with_reducible assumption) ?_); intro _)
  k_with "call ref" => (k_here; (with_reducible show wpAny _ _ (call (Value.ref 28) [Value.str _ _, Value.ref _]) _ _ _); (refine' tells_use (replace_all _ _ _ _ _ _ ?z9G ?z9S) ?z9B ?z9F ?z9X ?z9N ?z9T ?z9hk ?z9hn ?z9h1 ?z9h2 ?_; (case z9G => with_reducible assumption); (case z9S => with_reducible assumption); (case z9B => k_asm); (case z9F => k_asm); (case z9X => k_asm); (case z9N => k_asm); (case z9T => k_asm); (case z9hk => first | exact rfl | assumption); (case z9hn => k_mem); (case z9h1 => ktr_room); (case z9h2 => ktr_units)); intro r9 tl9 h' tk9 F' N' l9 ho9; obtain ⟨ho9, t9, hr9⟩ := ho9; subst ho9; subst hr9; (try simp only [List.nil_append] at N'))
  k_with "call builtin:str.split" => (k_here; (with_reducible show wpAny _ _ (call (Value.builtin "str.split") [Value.str _ _, Value.str _ _]) _ _ _); first | (refine split1_3 (by k_asm) (by k_asm) (by with_reducible assumption) (by with_reducible assumption) ?_; intro D' _ _ _ _ _ _ F' N' l1; (try k_lt l1)) | (refine split1_le (by k_asm) (by k_asm) (by with_reducible assumption) (by with_reducible assumption) ?_; intro D' _ _ _ _ F' N' l1; (try k_lt l1)))
  k_with "call builtin:len" => (k_here; (with_reducible show wpAny _ _ (call (Value.builtin "len") [Value.ref _]) _ _ _); first | (refine len_3 (by k_asm) (by k_mem) (by with_reducible assumption) (by with_reducible assumption) (by with_reducible assumption) ?_; intro _ _ _ _) | (refine len_le (by k_asm) (by k_mem) (by with_reducible assumption) ?_; intro _ _))
  k_with "binaryOp Add str str" => (k_here; (refine SB.add ?_ (by kopn_len)); intro _ _)
  k_with "compareOp In str str" => (k_here; first | refine in_yes (by with_reducible assumption) ?_ | refine in_no (by with_reducible assumption) ?_)
  k_with "compareOp NotIn str str" => (k_here; first | refine notin_yes (by with_reducible assumption) ?_ | refine notin_no (by with_reducible assumption) ?_)
  k_with "call ref" => (k_here; (with_reducible show wpAny _ _ (call (Value.ref 67) [Value.str _ _, Value.bool _, Value.bool _]) _ _ _); (first | refine' tells_use (value_ff _ _ _ ?z9G) ?z9B ?z9F ?z9X ?z9N ?z9T ?z9hk ?z9hn ?z9h1 ?z9h2 ?_ | refine' tells_use (value_ft _ _ _ ?z9G) ?z9B ?z9F ?z9X ?z9N ?z9T ?z9hk ?z9hn ?z9h1 ?z9h2 ?_ | refine' tells_use (value_tf _ _ _ ?z9G) ?z9B ?z9F ?z9X ?z9N ?z9T ?z9hk ?z9hn ?z9h1 ?z9h2 ?_ | refine' tells_use (value_tt _ _ _ ?z9G) ?z9B ?z9F ?z9X ?z9N ?z9T ?z9hk ?z9hn ?z9h1 ?z9h2 ?_); (case z9G => with_reducible assumption); (case z9B => k_asm); (case z9F => k_asm); (case z9X => k_asm); (case z9N => k_asm); (case z9T => k_asm); (case z9hk => first | exact rfl | assumption); (case z9hn => trivial); (case z9h1 => ktr_room); (case z9h2 => ktr_units); intro r9 tl9 h' tk9 F' N' l9 ho9; obtain ⟨ho9, t9, hr9⟩ := ho9; subst ho9; subst hr9; (try simp only [List.nil_append] at N'))
  k_with "subscriptTail Name Slice ref ref" => (k_here; (with_reducible show wpAny _ _ (subscriptTail _ (PySem.Expr.Slice _ _ none _) (Value.ref _) (Value.ref _)) _ _ _); k_dflt (refine' kmk_slice_lit ?z9F ?z9N ?z9l ?z9p ?z9q (pick2 _ _ _) ?_ ?z9s ?z9t ?z9z; (case z9F => k_asm); (case z9N => k_asm); (case z9l => exact News.isList (by k_asm) (by k_mem)); (case z9p => exact IsPart.int _ _); (case z9q => exact IsPart.none); (case z9s => with_unfolding_all rfl); (case z9t => intro _; with_unfolding_all rfl); (case z9z => exact sz3 (by with_reducible assumption) (by with_reducible assumption))); intro D' h' F' N' l1; (try k_lt l1))
  k_with "subscriptTail" => (k_here; (with_reducible show wpAny _ _ (subscriptTail _ _ (Value.ref _) (Value.int _ _)) _ _ _); (with_unfolding_all refine' item_at ?z9k1 ?z9k2 ?z9k3 ?z9k4 ?_ ?z9k6; (case z9k1 => exact News.isList (by k_asm) (by k_mem)); (case z9k2 => decide); (case z9k3 => decide); (case z9k4 => rfl); (case z9k6 => with_unfolding_all rfl); k_whole))
  k_with "call builtin:str.join" => (k_here; (refine join_list (News.isList (by k_asm) (by k_mem)) (by first | with_reducible assumption | assumption) (by with_reducible assumption) ?_); intro _ _)
  k_with "call builtin:str.split" => (k_here; (with_reducible show wpAny _ _ (call (Value.builtin "str.split") [Value.str _ _, Value.str _ _, Value.int 2 _]) _ _ _); first
      | (refine split_3 (by k_asm) (by k_asm) (by with_reducible assumption) (by with_reducible assumption) ?_; intro D' _ _ _ _ _ F' N' l1; (try k_lt l1))
      | (refine split_le (by k_asm) (by k_asm) (by with_reducible assumption) (by with_reducible assumption) ?_; intro D' _ _ _ _ F' N' l1; (try k_lt l1)))
  k_with "call builtin:len" => (k_here; (with_reducible show wpAny _ _ (call (Value.builtin "len") [Value.ref _]) _ _ _); refine len_le (by k_asm) (by k_mem) (by with_reducible assumption) ?_; intro _ _)
  k_with "binaryOp Mult str int" => (k_here; (refine mul_rule (by with_reducible assumption) (by with_reducible assumption) ?_); intro _ _ _)
  k_with "getItem ref str" => (k_here; (have hh9 := (mark4 _).mp (by with_reducible assumption)); rcases hh9 with hh9 | hh9 | hh9 | hh9 <;> subst hh9)
  k_with "inplaceOp Add str str" => (k_here; (with_reducible rename DeepP _ _ _ => hP9); (refine SB.iadd ?_ (by have h9 := hP9.2; (have hm9 := mulA_len _ (by assumption)); kopn_len)); intro _ _)
  k_with "execs cons" => (k_here; (with_reducible show wpAny _ _ (execs _ _) _ _ (Shared.mk _ _ _ (_ + _) _)); (refine gentoks 1 (by first | omega | exact pos_add (Nat.le_of_ble_eq_true rfl)) ?_); intro tk9 htk9)
  k_with "binaryOp Mod int int" => (k_here; (with_reducible refine mod_lit (by with_reducible assumption) (by decide) ?_))
  k_with "binaryOp Add int int" => (k_here; (with_reducible refine add_lit (by with_reducible assumption) ?_))
  k_with "binaryOp Sub int int" => (k_here; (with_reducible refine sub_lit (by with_reducible assumption) ?_))
  k_with "binaryOp Mult int int" => (k_here; (with_reducible refine mul2_lit (by with_reducible assumption) ?_))
  k_with "eval Dict" => (k_here; (first | refine tabDict (Top.nolimit (by k_asm)) (by k_asm) (by k_asm) (by with_reducible assumption) ?_ | refine backDict (Top.nolimit (by k_asm)) (by k_asm) (by k_asm) (by with_reducible assumption) ?_); intro D' h' tk9 ht9 F' N' l1 hS9; (try k_lt l1))
  k_with "m_callS" => ((case z9B => k_asm); (case z9F => k_asm); (case z9X => k_asm); (case z9N => k_asm); (case z9T => k_asm); (case z9hk => first | exact rfl | assumption); (case z9hn => first | exact True.intro | k_mem); (case z9h1 => ktr_room); (case z9h2 => ktr_units); (intro r9 tl9 h' tk9 F' N' l9 ho9); (obtain ⟨ho9, t9, hr9⟩ := ho9); subst ho9; subst hr9; (try simp only [List.nil_append] at N'))
  k_with "call ref" => (k_here; (with_reducible show wpAny _ _ (call (Value.ref 79) [Value.ref _, Value.int _ _]) _ _ _); k_dflt (refine' tellsQ_use (dealtN _ _ _ _ _ _ _ _ ?z9hc ?z9h13 ?z9h33 ?z9hi ?z9hl) ?z9B ?z9F ?z9X ?z9N ?z9T ?z9hk ?z9hn ?z9h1 ?z9h2 ?_; (case z9hc => with_reducible assumption); (case z9hi => with_reducible assumption); (case z9hl => exact Nat.le_trans deal_len (by decide)); (case z9B => k_asm); (case z9F => k_asm); (case z9X => k_asm); (case z9N => k_asm); (case z9T => k_asm); (case z9hk => exact rfl); (case z9hn => k_mem); (case z9h1 => ktr_room); (case z9h2 => ktr_units); (case z9h13 => with_reducible assumption); (case z9h33 => with_reducible assumption)); (intro D' o' h' tk' htk' off' F' N' hP'); (simp only [LCg.Off1, and_true] at off'); refine stopHere ?_)
  k_with "call ref" => (k_here; (with_reducible show wpAny _ _ (call (Value.ref 62) [Value.str (Str.ofString "'") _, Value.int _ _]) _ _ _); k_dflt (refine' tells_use (deep_tick _ _ _ ?z9he _ ?z9hq) ?z9B ?z9F ?z9X ?z9N ?z9T ?z9hk ?z9hn ?z9h1 ?z9h2 ?_; (case z9he => with_reducible assumption); (case z9hq => with_reducible assumption); walk_at "m_callS"))
  k_with "call ref" => (k_here; (with_reducible show wpAny _ _ (call (Value.ref 62) [Value.str (S _) _, Value.int _ _]) _ _ _); k_dflt (refine' tells_use (deep_S _ _ _ _ ?z9he _ ?z9hq ?z9hl) ?z9B ?z9F ?z9X ?z9N ?z9T ?z9hk ?z9hn ?z9h1 ?z9h2 ?_; (case z9he => with_reducible assumption); (case z9hq => with_reducible assumption); (case z9hl => with_reducible assumption); walk_at "m_callS"))
  k_with "subscriptTail" => (k_here; (with_reducible show wpAny _ _ (subscriptTail _ _ (Value.ref _) (Value.int _ _)) _ _ _); k_dflt (refine' getP ?z9N ?z9m ?z9v ?z9p ?z9g ?z9z ?_ ?z9s; (case z9p => with_reducible assumption); (case z9v => with_reducible assumption); (case z9g => with_reducible assumption); (case z9z => with_reducible assumption); (case z9N => k_asm); (case z9m => k_mem); (case z9s => with_unfolding_all rfl)); intro t9)
  k_with "call ref" => (k_here; (with_reducible show wpAny _ _ (call (Value.ref 37) [Value.str (S _) _, Value.ref _]) _ _ _); k_dflt (refine' tells_use (escape_S _ _ _ _ _ _ ?z9gl ?z9g1 ?z9g2 ?z9g3 ?z9gS) ?z9B ?z9F ?z9X ?z9N ?z9T ?z9hk ?z9hn ?z9h1 ?z9h2 ?_; (case z9B => k_asm); (case z9F => k_asm); (case z9X => k_asm); (case z9N => k_asm); (case z9T => k_asm); (case z9hn => k_mem); (case z9gl => with_reducible assumption); (case z9g1 => with_reducible assumption); (case z9g2 => first | with_reducible assumption | exact Nat.le_add_left 1 _); (case z9g3 => first | with_reducible assumption | exact Nat.lt_succ_self _); (case z9gS => with_reducible assumption); (case z9hk => first | exact rfl | assumption); (case z9h1 => ktr_room); (case z9h2 => ktr_units); (intro r9 tl9 h' tk9 F' N' l9 ho9); (obtain ⟨ho9, t9, hr9⟩ := ho9); subst ho9; subst hr9; (try simp only [List.nil_append] at N')))
  k_with "call ref" => (k_here; (with_reducible show wpAny _ _ (call (Value.ref 46) [Value.str _ _, Value.ref _]) _ _ _); k_dflt (refine' tells_use (unescape_S _ _ _ _ _ _ ?z9gl ?z9g1 ?z9g2 ?z9g3 ?z9gS) ?z9B ?z9F ?z9X ?z9N ?z9T ?z9hk ?z9hn ?z9h1 ?z9h2 ?_; (case z9B => k_asm); (case z9F => k_asm); (case z9X => k_asm); (case z9N => k_asm); (case z9T => k_asm); (case z9hn => k_mem); (case z9gl => with_reducible assumption); (case z9g1 => with_reducible assumption); (case z9g2 => exact Nat.le_add_left 1 _); (case z9g3 => exact Nat.lt_succ_self _); (case z9gS => with_reducible assumption); (case z9hk => first | exact rfl | assumption); (case z9h1 => ktr_room); (case z9h2 => ktr_units); (intro r9 tl9 h' tk9 F' N' l9 ho9); (obtain ⟨ho9, t9, hr9⟩ := ho9); subst ho9; subst hr9; (try simp only [List.nil_append] at N')))
  k_with "call ref" => (k_here; (with_reducible show wpAny _ _ (call (Value.ref 21) [Value.str _ _]) _ _ _); k_dflt (refine' tells_use (decode_S _ _ _ _ _ (by with_reducible assumption) (by with_reducible assumption) (by with_reducible assumption)) ?z9B ?z9F ?z9X ?z9N ?z9T ?z9hk ?z9hn ?z9h1 ?z9h2 ?_; (case z9hn => exact True.intro); (case z9B => k_asm); (case z9F => k_asm); (case z9X => k_asm); (case z9N => k_asm); (case z9T => k_asm); (case z9hk => first | exact rfl | assumption); (case z9h1 => ktr_room); (case z9h2 => ktr_units); (intro r9 tl9 h' tk9 F' N' l9 ho9); (obtain ⟨D', o9, hr9, ho9, t19, t29, t39, hq9⟩ := ho9); subst ho9; subst hr9; subst hq9; (simp only [List.cons_append, List.nil_append] at N'); (have l1 := one_lt l9); (clear l9); (try k_lt l1)))
  k_with "CompEnd" => (k_here; k_dflt (refine' compEnd_all ?z9F ?z9N ?z9off ?z9src ?_; (case z9F => k_asm); (case z9N => k_asm); (case z9off => (simp only [LCg.Off3, and_true]); assumption); (case z9src => first | exact True.intro | exact Or.inr ⟨_, by k_mem, rfl, _, rfl⟩)))
  k_with "call builtin:str.join" => (k_here; (with_reducible rename News _ _ _ (_ :: _) => N8); (k_dflt (refine join3_use N8 (by with_reducible assumption) (by with_reducible assumption) (by with_reducible assumption) ?_)); intro t9 k9 N'; clear N8)
  k_with "FinA" => ((unfold LCg.FinA); intro D' h' tk' F' N' o1'; (try simp only [LCg.Off1, and_true] at o1'); (repeat (obtain ⟨o2', o1'⟩ := o1')); (try simp only [List.nil_append, List.cons_append] at N'); (try dsimp only))
  k_with "call builtin:list.append" => (k_here; (with_reducible show wpAny _ _ (call (Value.builtin _) [Value.ref _, Value.str _ _]) _ _ _); k_dflt (refine' appB ?z9F ?z9N ?z9T ?z9I ?z9r ?z9v ?z9z ?_; (case z9F => k_asm); (case z9N => k_asm); (case z9T => omega); (case z9I => with_reducible assumption); (case z9r => with_reducible assumption); (case z9v => with_reducible assumption); (case z9z => with_reducible assumption)); intro h' F' N')
  k_with "subscriptTail" => (k_here; (with_reducible show wpAny _ _ (subscriptTail _ _ (Value.ref _) (Value.int _ _)) _ _ _); (with_reducible rename LoopOn => _lo); k_dflt (refine' getB ?z9N ?z9m ?z9v ?z9p ?z9g ?z9z ?_ ?z9s; (case z9v => with_reducible assumption); (case z9p => with_reducible assumption); (case z9g => with_reducible assumption); (case z9z => with_reducible assumption); (case z9N => k_asm); (case z9m => k_mem); (case z9s => with_unfolding_all rfl)); intro t9)
  k_with "subscriptTail" => (k_here; (with_reducible show wpAny _ _ (subscriptTail _ _ (Value.ref _) (Value.int (-1) _)) _ _ _); (with_reducible rename LoopOn => _lo); k_dflt (refine' getLast ?z9N ?z9m ?z9v ?z9g ?z9z ?_ ?z9s; (case z9v => with_reducible assumption); (case z9g => with_reducible assumption); (case z9z => with_reducible assumption); (case z9N => k_asm); (case z9m => k_mem); (case z9s => with_unfolding_all rfl)); intro t9)
  k_with "subscriptTail Name Constant ref int" => (k_here; (with_reducible show wpAny _ _ (subscriptTail _ _ (Value.ref _) (Value.int _ _)) _ _ _); (with_reducible rename LoopOn => _lo); k_dflt (refine' item3 ?z9N ?z9m ?z9h0 ?z9h1 ?z9x ?_ ?z9s; (case z9N => k_asm); (case z9m => k_mem); (case z9h0 => decide); (case z9h1 => decide); (case z9x => exact rfl); (case z9s => with_unfolding_all rfl)))
  k_with "compareOp NotEq str str" => (k_here; (with_reducible refine ne_refl ?_))
  k_with "exec For Name Name cons nil" => (k_here; k_dflt (refine For_raw ?_))
  k_with "m_callO" => ((case z9hn => exact True.intro); (case z9B => k_asm); (case z9F => k_asm); (case z9X => k_asm); (case z9N => k_asm); (case z9T => k_asm); (case z9hk => first | exact rfl | assumption); (case z9h1 => ktr_room); (case z9h2 => ktr_units); (intro r9 tl9 h' tk9 F' N' l9 ho9); (obtain ⟨D', o9, hr9, ho9, hq9⟩ := ho9); subst ho9; subst hr9; (simp only [List.cons_append, List.nil_append] at N'); (have l1 := one_lt l9); (clear l9); (try k_lt l1); revert hq9)
  k_with "call ref" => (k_here; (with_reducible show wpAny _ _ (call (Value.ref 21) [Value.str (quoteV _) _]) _ _ _); k_dflt (first
      | (refine' tells_use (decode_yes _ _ _ _ _ _ (by with_reducible assumption) (by with_reducible assumption)) ?z9B ?z9F ?z9X ?z9N ?z9T ?z9hk ?z9hn ?z9h1 ?z9h2 ?_; walk_at "m_callO"; (rintro ⟨t19, t29, t39, hq9⟩); subst hq9)
      | (refine' tells_use (decode_no _ _ _ (by with_reducible assumption) (by with_reducible assumption)) ?z9B ?z9F ?z9X ?z9N ?z9T ?z9hk ?z9hn ?z9h1 ?z9h2 ?_; walk_at "m_callO"; (rintro ⟨t19, hq9⟩); subst hq9)))
  k_with "call ref" => (k_here; (with_reducible show wpAny _ _ (call (Value.ref 74) [Value.str _ _, Value.bool false]) _ _ _); k_dflt (first
      | (refine' tells_use (parted_f1 _ _ _ (by with_reducible assumption) (by with_reducible assumption) (by with_reducible assumption)) ?z9B ?z9F ?z9X ?z9N ?z9T ?z9hk ?z9hn ?z9h1 ?z9h2 ?_; walk_at "m_callO"; (rintro ⟨t19, t29, t39, hq9⟩); subst hq9)
      | (refine' tells_use (parted_f2 _ _ _ _ _ ?z9x1 ?z9x2 ?z9x3 ?z9x4 ?z9x5) ?z9B ?z9F ?z9X ?z9N ?z9T ?z9hk ?z9hn ?z9h1 ?z9h2 ?_; (case z9x4 => with_reducible assumption); (case z9x1 => with_reducible assumption); (case z9x2 => with_reducible assumption); (case z9x3 => with_reducible assumption); (case z9x5 => with_reducible assumption); walk_at "m_callO"; (rintro ⟨t19, hq9⟩); subst hq9)
      | (refine' tells_use (parted_f3 _ _ _ _ _ _ _ _ ?z9x1 ?z9x2 ?z9x3 ?z9x4 ?z9x5 ?z9x6 ?z9x7 ?z9x8 ?z9x9 ?z9xa ?z9xb) ?z9B ?z9F ?z9X ?z9N ?z9T ?z9hk ?z9hn ?z9h1 ?z9h2 ?_; (case z9x4 => with_reducible assumption); (case z9x1 => with_reducible assumption); (case z9x2 => with_reducible assumption); (case z9x3 => with_reducible assumption); (case z9x5 => with_reducible assumption); (case z9x6 => with_reducible assumption); (case z9x7 => with_reducible assumption); (case z9x8 => with_reducible assumption); (case z9x9 => with_reducible assumption); (case z9xa => with_reducible assumption); (case z9xb => with_reducible assumption); walk_at "m_callO"; (rintro ⟨t19, t29, t39, hq9⟩); subst hq9)))
  k_with "call ref" => (k_here; (with_reducible show wpAny _ _ (call (Value.ref 74) [Value.str _ _, Value.bool true]) _ _ _); k_dflt (first
      | (refine' tells_use (parted_t1 _ _ _ (by with_reducible assumption) (by with_reducible assumption)) ?z9B ?z9F ?z9X ?z9N ?z9T ?z9hk ?z9hn ?z9h1 ?z9h2 ?_; walk_at "m_callO"; (rintro ⟨t19, t29, t39, hq9⟩); subst hq9)
      | (refine' tells_use (parted_t2 _ _ _ (by with_reducible assumption) (by with_reducible assumption)) ?z9B ?z9F ?z9X ?z9N ?z9T ?z9hk ?z9hn ?z9h1 ?z9h2 ?_; walk_at "m_callO"; (rintro ⟨t19, hq9⟩); subst hq9)))
  k_with "call ref" => (k_here; (with_reducible show wpAny _ _ (call (Value.ref 55) [Value.str (S _) _]) _ _ _); k_dflt (refine' tells_use (quote_S _ _ _ ?z9hl) ?z9B ?z9F ?z9X ?z9N ?z9T ?z9hk ?z9hn ?z9h1 ?z9h2 ?_; (case z9hl => with_reducible assumption); walk_at "m_callS"))
  k_with "call ref" => (k_here; (with_reducible show wpAny _ _ (call (Value.ref 55) [Value.str (S _) _, Value.ref _]) _ _ _); k_dflt (refine' tells_use (quoteT_S _ _ _ _ _ _ ?z9gl ?z9g1 ?z9g2 ?z9g3 ?z9gS) ?z9B ?z9F ?z9X ?z9N ?z9T ?z9hk ?z9hn ?z9h1 ?z9h2 ?_; (case z9B => k_asm); (case z9F => k_asm); (case z9X => k_asm); (case z9N => k_asm); (case z9T => k_asm); (case z9hn => k_mem); (case z9gl => with_reducible assumption); (case z9g1 => with_reducible assumption); (case z9g2 => first | with_reducible assumption | exact Nat.le_add_left 1 _); (case z9g3 => first | with_reducible assumption | exact Nat.lt_succ_self _); (case z9gS => with_reducible assumption); (case z9hk => first | exact rfl | assumption); (case z9h1 => ktr_room); (case z9h2 => ktr_units); (intro r9 tl9 h' tk9 F' N' l9 ho9); (obtain ⟨ho9, t9, hr9⟩ := ho9); subst ho9; subst hr9; (try simp only [List.nil_append] at N')))
  k_with "compareOp NotEq ref ref" => (k_here; k_dflt (first
      | (refine' ne_list3 ?z9N ?z9m1 ?z9m2 ?z9e1 ?z9e2 ?z9e3 ?z9hu ?_; (case z9N => k_asm); (case z9m1 => k_mem); (case z9m2 => k_mem); (case z9e1 => with_reducible rfl); (case z9e2 => with_reducible rfl); (case z9e3 => with_reducible rfl); (case z9hu => ke_room))
      | (refine' ne_tup3 ?z9N ?z9m1 ?z9m2 ?z9e1 ?z9hu ?_; (case z9N => k_asm); (case z9m1 => k_mem); (case z9m2 => k_mem); (case z9e1 => with_reducible assumption); (case z9hu => ke_room))))
  k_with "exec For Name Call cons nil" => (k_here; k_dflt (refine For_raw ?_))
  k_with "pyIter ref" => (k_here; (with_reducible show wpAny _ _ (pyIter (Value.ref _)) (RawLoop _ _ _ _ _ _ _ _) _ _); refine stopHere ?_)
  trivial
-- after a call that hands back a text
theorem lawx : PySem.Challenge.rw_ij0155_01.Holds := hd (by
  k_go0; (all_goals try k_fold)
  rename IntsAre _ _ => hI
  rename List Int => ms
  obtain ⟨r, n, hr, hn, hn1, hn3⟩ : ∃ r n : Nat, ((ms.length : Int) + 1).fmod 3 = (r : Int) ∧ (1 : Int) + r = (n : Int) ∧ 1 ≤ n ∧ n ≤ 3 := three_n _
  obtain ⟨d, e, hd2, hd3, hce⟩ : ∃ d e : Int, (2 : Int) * (n : Int) = d ∧ d + 1 = e ∧ e = 2 * (n : Int) + 1 := ⟨_, _, rfl, rfl, rfl⟩
  k_steps
  unfold StopHere
  rename DealP _ _ _ => hP
  obtain ⟨vs, ls, k9, rfl, hvs, hls, hlb⟩ := deal_open hP
  clear hP
  have hm9 := @deal_len ms
  replace hlb : ∀ l ∈ ls, l.length ≤ 126 := fun l hl => Nat.le_trans (hlb l hl) (by omega)
  have h00 : (0 : Int) = ((0 : Nat) : Int) := rfl
  have hnn : (n : Int) = ((n : Nat) : Int) := rfl
  have hg0 : 0 < ls.length ∧ ls.getD 0 [] = bel ls 0 := ⟨by omega, rfl⟩
  have hl0 : (bel ls 0).length ≤ 1000 := Nat.le_trans (bel_len hlb).1 (by decide)
  have hls100 : ls.length ≤ 100 := by omega
  k_steps
  unfold StopHere
  refine' rangeL (n := n) (J1 n ls _) ?hL rfl ?hr (rng_small hn1 hn3) (rng_size hn1 hn3) ?hF (trim9 ?hN) ?h0 ?turn ?done
  case hr => with_reducible assumption
  case hF => k_asm
  case hN => k_asm
  case h0 => exact j1_start
  case hL => exact rfl
  case turn =>
    intro i ti I oI m₁ o₁ h₁ tk₁ hi hID hJ F₁ N₁
    obtain ⟨u1, u2, u3, t9, vs', k', rfl, rfl, hvs'⟩ := hJ
    dsimp only at F₁
    obtain ⟨q, hq⟩ : ∃ q, n - i = q + 1 := ⟨n - i - 1, by omega⟩
    have hq2 : q ≤ 3 := by omega
    have hq3 : q + 1 ≤ 3 := by omega
    obtain ⟨a, hga⟩ : ∃ a, ls.getD (2 * i + 1) [] = a := ⟨_, rfl⟩
    obtain ⟨b, hgb⟩ : ∃ b, ls.getD (2 * i + 2) [] = b := ⟨_, rfl⟩
    obtain ⟨c, hgc⟩ : ∃ c, bel ls i = c := ⟨_, rfl⟩
    have la : a.length ≤ 1000 := by rw [← hga]; exact Nat.le_trans (getD_len hlb _) (by decide)
    have lb : b.length ≤ 1000 := by rw [← hgb]; exact Nat.le_trans (getD_len hlb _) (by decide)
    have lc3 : c.length ≤ 20000 := by rw [← hgc]; exact Nat.le_trans (bel_len2 hlb (by omega)) (by decide)
    have la3 : a.length ≤ 20000 := Nat.le_trans la (by decide)
    have lb3 : b.length ≤ 20000 := Nat.le_trans lb (by decide)
    have hda := dp_len (q + 1) hq3 a
    have hdb := dp_len (q + 1) hq3 b
    have hdc := dp_len (q + 1) hq3 c
    have hdt := dp_len q hq2 [39]
    simp only [List.length_cons, List.length_nil] at hdt
    rw [hq, hgc] at F₁
    obtain ⟨kk, hkk⟩ : ∃ kk, (0 : Int) + (i : Int) * 1 = kk := ⟨_, rfl⟩
    rw [hkk]
    obtain ⟨d1, hd1⟩ : ∃ d1, (2 : Int) * kk = d1 := ⟨_, rfl⟩
    obtain ⟨e1, he1⟩ : ∃ e1, d1 + 1 = e1 := ⟨_, rfl⟩
    obtain ⟨e2, he2⟩ : ∃ e2, d1 + 2 = e2 := ⟨_, rfl⟩
    have hp1 : e1 = ((2 * i + 1 : Nat) : Int) := by omega
    have hp2 : e2 = ((2 * i + 2 : Nat) : Int) := by omega
    replace hga : 2 * i + 1 < ls.length ∧ ls.getD (2 * i + 1) [] = a := ⟨by omega, hga⟩
    replace hgb : 2 * i + 2 < ls.length ∧ ls.getD (2 * i + 2) [] = b := ⟨by omega, hgb⟩
    obtain ⟨f1, hf1⟩ : ∃ f1, (n : Int) - kk = f1 := ⟨_, rfl⟩
    obtain ⟨f2, hf2⟩ : ∃ f2, (n : Int) - 1 = f2 := ⟨_, rfl⟩
    obtain ⟨f3, hf3⟩ : ∃ f3, f2 - kk = f3 := ⟨_, rfl⟩
    have hr1 : f1 = ((q + 1 : Nat) : Int) := by omega
    have hr3 : f3 = ((q : Nat) : Int) := by omega
    have hi100 : i ≤ 100 := by omega
    have hlo := loopOn
    clear h00 hg0
    have hof := trim9_off N₁ (by with_reducible assumption)
    k_steps
    all_goals (refine' LEnd.intro ?rF ?rN ?rj; (case rF => k_asm); (case rN => exact news_tl (by k_asm)); (case rj => exact j1_turn (q := q) (by omega) (by omega) hga.2 hgb.2 hgc hvs' rfl))
  case done =>
    intro h' tk m' o' F₁ N₁ hJ
    obtain ⟨u1, u2, u3, t9, vs', k', rfl, rfl, hvs'⟩ := hJ
    dsimp only at F₁
    rw [Nat.sub_self, dp0] at F₁
    have hgL : bel ls n = bel ls n := rfl
    have hn100 : n ≤ 100 := by omega
    have hlo := loopOn
    have hnm : (n : Int) - 1 = (n : Int) - 1 := rfl
    dsimp only
    k_steps
    unfold StopHere
    refine' rangeL (n := n) (J2 n ls _ _) ?hL rfl ?hr (rng_small2 hn1 hn3) (rng_size2 hn1 hn3) ?hF ?hN ?h0 ?turn ?done
    case hr => with_reducible assumption
    case hF => k_asm
    case hN => k_asm
    case h0 => exact j2_start
    case hL => exact rfl
    case turn =>
      intro i ti I oI m₁ o₁ h₁ tk₁ hi hID hJ F₁ N₁
      obtain ⟨u4, u5, t8, rfl, rfl⟩ := hJ
      dsimp only at F₁
      obtain ⟨j, hj⟩ : ∃ j, n - i = j + 1 := ⟨n - i - 1, by omega⟩
      obtain ⟨a, hga⟩ : ∃ a, ls.getD (2 * j + 1) [] = a := ⟨_, rfl⟩
      obtain ⟨b, hgb⟩ : ∃ b, ls.getD (2 * j + 2) [] = b := ⟨_, rfl⟩
      obtain ⟨c, hgc⟩ : ∃ c, bel ls j = c := ⟨_, rfl⟩
      have la3 : a.length ≤ 20000 := by rw [← hga]; exact Nat.le_trans (getD_len hlb _) (by decide)
      have lb3 : b.length ≤ 20000 := by rw [← hgb]; exact Nat.le_trans (getD_len hlb _) (by decide)
      have lc3 : c.length ≤ 20000 := by rw [← hgc]; exact Nat.le_trans (bel_len2 hlb (by omega)) (by decide)
      have hbe : bel ls (j + 1) = glue3 a b c := by rw [← hga, ← hgb, ← hgc]; rfl
      rw [hj, hbe] at F₁
      obtain ⟨kk, hkk⟩ : ∃ kk, ((n : Int) - 1) + (i : Int) * (-1) = kk := ⟨_, rfl⟩
      rw [hkk]
      have hp0 : kk = (j : Int) := by omega
      obtain ⟨d1, hd1⟩ : ∃ d1, (2 : Int) * kk = d1 := ⟨_, rfl⟩
      obtain ⟨e1, he1⟩ : ∃ e1, d1 + 1 = e1 := ⟨_, rfl⟩
      obtain ⟨e2, he2⟩ : ∃ e2, d1 + 2 = e2 := ⟨_, rfl⟩
      have hp1 : e1 = ((2 * j + 1 : Nat) : Int) := by omega
      have hp2 : e2 = ((2 * j + 2 : Nat) : Int) := by omega
      replace hga : 2 * j + 1 < ls.length ∧ ls.getD (2 * j + 1) [] = a := ⟨by omega, hga⟩
      replace hgb : 2 * j + 2 < ls.length ∧ ls.getD (2 * j + 2) [] = b := ⟨by omega, hgb⟩
      have hgc2 : j ≤ n ∧ bel ls j = c := ⟨by omega, hgc⟩
      clear h00 hg0
      k_steps
      all_goals (refine' LEnd.intro ?rF ?rN ?rj; (case rF => k_asm); (case rN => (refine' kst_newsOf ?ra ?rb; (case ra => k_asm); (case rb => walk_at "m_sub"))); (case rj => exact j2_turn (j := j) (by omega) hgc))
    case done =>
      intro h' tk m' o' F₁ N₁ hJ
      obtain ⟨u4, u5, t8, rfl, rfl⟩ := hJ
      dsimp only at F₁
      dsimp only
      k_steps
      unfold StopHere
      refine' listL (J3 _ _) ?hL rfl ?hF ?hN ?hm ?h0 ?turn ?done
      case hF => k_asm
      case hN => k_asm
      case hm => k_mem
      case h0 => exact j3_start
      case hL => exact rfl
      case turn =>
        intro i v I oI m₁ o₁ h₁ tk₁ hx hID hJ F₁ N₁
        obtain ⟨u6, rfl, rfl⟩ := hJ
        dsimp only at F₁
        obtain ⟨l, tl, rfl, hl⟩ := part_at hvs hlb hx
        have hS1 : (S l).length ≤ 1000 := by rw [S_len]; exact hl
        have hq3 := quote_len3 hl
        have hq4 := quote_len4 hl
        have hF := lastF_S l hl
        have hT := lastT_S l
        clear h00 hg0
        rcases hF with ⟨h1, h2, h3⟩ | ⟨b1, b2, h1, h2, h3, h4, h5, h6⟩ | ⟨b1, b2, a, b, r, h1, h2, h3, h4, h5, h6, ha, hb, hr, h7, h8⟩
        all_goals (rcases hT with ⟨g1, g2⟩ | ⟨g1, g2, g3⟩)
        all_goals (try (exact absurd (h1.symm.trans g1) (by decide)))
        all_goals (k_steps)
        all_goals (refine' LEnd.intro ?rF ?rN ?rj; (case rF => k_asm); (case rN => (refine' kst_newsOf ?ra ?rb; (case ra => k_asm); (case rb => walk_at "m_sub"))); (case rj => exact j3_turn))
      case done =>
        intro h' tk m' o' F₁ N₁ hJ
        obtain ⟨u6, rfl, rfl⟩ := hJ
        dsimp only at F₁
        dsimp only
        k_steps)
end
end Mine
open PySem PySem.W PyProof.Rows
set_option maxRecDepth 100000 in
set_option maxHeartbeats 8000000 in
theorem PySem.Challenge.cw_ij0155_01_holds : PySem.Challenge.rw_ij0155_01.Holds := by
  exact Mine.lawx
