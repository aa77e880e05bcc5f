import PyProof.Rows.All
import Wide.All
import OpenK.AllK
import Wide.FinOn
import PySem.Challenge.RW_xo0024_01
open PySem PySem.W PyProof.Rows
set_option Elab.async false
set_option linter.unusedVariables false
section
open PySem PySem.W PyProof.Rows
set_option maxRecDepth 100000
set_option maxHeartbeats 8000000
namespace Mine
/-- of the text the law alone: all else is read from the heap's own objects -/
noncomputable def view : Program := { PySem.Challenge.pw_xo0024_01 with main := { PySem.Challenge.pw_xo0024_01.main with body := PySem.Challenge.pw_xo0024_01.main.body.drop 64 } }
theorem well_said : OpenLaw.wellSaid PySem.Challenge.rw_xo0024_01 = true := by
  unfold OpenLaw.wellSaid OpenRow.wellSaid OpenRow.partSaid looksOpen
  (repeat' with_reducible apply look_both) <;> decide +kernel
theorem left_of {p q : Program} {loose : List Str} {Xt : Shared → Bool} {α : Type} {Yf : Shared → α} {Ya : World → α} {N : Nat} {g0 : Bool} (row : String)
    (hf : ∀ w : World, (openEnds treeTable p (w.withFollow row false) N).map (fun s => (openSeen q loose (importedModules p.main.body) Xt g0 s, Yf s)) = some (openGood q loose, Ya (w.withFollow row false)))
    (ht : ∀ w : World, (openEnds treeTable p (w.withFollow row true) N).map (fun s => (openSeen q loose (importedModules p.main.body) Xt g0 s, Yf s)) = some (openGood q loose, Ya (w.withFollow row true))) :
    LeftO p q loose Xt Yf Ya N g0 := fun w => by
  have e := World.withFollow_self w row
  cases hb : w.params.followText row <;> rw [hb] at e
  · have h := hf w; rw [e] at h; exact h
  · have h := ht w; rw [e] at h; exact h
theorem aside {P : Prop} (_ : True) (h : P) : P := h
section
local macro_rules | `(tactic| o_law) => `(tactic| refine holds_law well_said fun said => ?_)
local macro_rules | `(tactic| o_head $_) => `(tactic| refine aside ?hw ?_)
local macro_rules | `(tactic| w_witness2) => `(tactic| trivial)
open_top fr for PySem.Challenge.rw_xo0024_01
end
noncomputable abbrev PR : Program := (OpenRow.toRowW (OpenLaw.row PySem.Challenge.rw_xo0024_01)).1
noncomputable abbrev HK : Hook := kHook fr.heap_1 [2, 3, 6, 15, 17, 18, 20, 21, 22, 24, 25, 27, 28, 29, 31, 32, 34, 35, 36, 38, 39, 41, 42, 43, 45, 46, 48, 49, 50, 53, 55, 56, 58, 59, 60, 62, 63, 65, 66, 67, 69, 70, 72, 73, 74, 76, 77, 79, 80, 81, 84, 85] (fun _ => by kernel_rfl)
noncomputable abbrev LS : List Str := PR.boundNames.filter fun n => !(n == Str.ofString "law")
noncomputable abbrev XT (s : Shared) : Bool := xlAt view [] s && recOk (RowW.records (OpenRow.toRowW (OpenLaw.row PySem.Challenge.rw_xo0024_01))) s
theorem left_f : ∀ w : World, (openEnds treeTable PR (w.withFollow "special-get-raises" false) 3650).map (fun s => (openSeen view LS (importedModules PR.main.body) XT true s, HK.obs s)) = some (openGood view LS, HK.val (w.withFollow "special-get-raises" false)) := fun w => by kernel_rfl
theorem left_t : ∀ w : World, (openEnds treeTable PR (w.withFollow "special-get-raises" true) 3650).map (fun s => (openSeen view LS (importedModules PR.main.body) XT true s, HK.obs s)) = some (openGood view LS, HK.val (w.withFollow "special-get-raises" true)) := fun w => by kernel_rfl
section
local macro_rules | `(tactic| o_law) => `(tactic| refine holds_law well_said fun said => ?_)
local macro_rules | `(tactic| k_head) => `(tactic| refine holds_open (q := view) (loose := LS) (Xt := XT) (XP := XL view []) (Yf := HK.obs) (Ya := HK.val) (YP := HK.says) (N := 3650) (left_of "special-get-raises" left_f left_t) HK.of HK.keeps (fun s e => xl_of s (Bool.and_eq_true_iff.mp e).1) XL.keeps (by rfl) (by rfl) (by rfl) (fun s e => recFacts_of (Bool.and_eq_true_iff.mp e).2) (by rfl) (by assumption) (by decide +kernel) ⟨rfl, rfl, rfl, rfl, rfl, by decide +kernel⟩ ?hw ?hc)
open_top hd for PySem.Challenge.rw_xo0024_01
end
end Mine
end
section
open PySem PySem.W PyProof.Rows
set_option maxRecDepth 100000
set_option maxHeartbeats 8000000
noncomputable section
namespace Mine
noncomputable abbrev K0 (w : World) := fr.heap_1 w.params
noncomputable abbrev PG := PySem.Challenge.rw_xo0024_01.row.prog
noncomputable abbrev LW := looseW view LS
noncomputable abbrev Clm (w : World) (mean : ExcName → Option Value) (mg mb : Str → Option Value) (f : Addr) (rm : Nat) (vs : List Value)
    (R : Heap → Addr → (Str → Option Value) → List (Addr × Obj) → Shared → (Value → Shared → Prop) → Prop) : Prop :=
  ∀ (news : List (Addr × Obj)) (dp un : Nat) (gd : Option (List Code)) (cn : Str) (cs : Scope) (a : Addr) (ccd : Value) (cl : List (Str × Addr)) (outer : List Env) (A₀ : Around) (base h₀ : Heap) (L : Addr) (m : Str → Option Value) (s : Shared) (Q E : Value → Shared → Prop),
    Below A₀ base outer h₀ → Fr h₀ L s.heap m → (K0 w).In h₀ → News h₀ L s.heap news → Top view LW mean mg mb h₀ → cs.kind = .function →
      dp + rm < recursionLimit → un + 8 * rm < cLine → R h₀ L m news s Q →
      wpAny (model PG w) (ktrTop dp un gd cn cs L a ccd cl outer) (call (.ref f) vs) Q E s
noncomputable abbrev RetV (R : Tok → Value) (h₀ : Heap) (L : Addr) (m : Str → Option Value) (news : List (Addr × Obj)) (s : Shared) (Q : Value → Shared → Prop) : Prop :=
  ∀ (t : Tok) (h' : Heap) (tk' : Nat), Fr h₀ L h' m → News h₀ L h' news → Q (R t) { s with heap := h', toks := tk' }
noncomputable abbrev RetL (ns : List Int) (h₀ : Heap) (L : Addr) (m : Str → Option Value) (news : List (Addr × Obj)) (s : Shared) (Q : Value → Shared → Prop) : Prop :=
  ∀ (D : Addr) (vs : List Value) (c : Nat) (h' : Heap) (tk' : Nat), Fr h₀ L h' m → News h₀ L h' ((D, W.listOf vs.toArray c) :: news) → (∀ p ∈ news, p.1 < D) → IntsAre vs ns → Q (.ref D) { s with heap := h', toks := tk' }
noncomputable abbrev ClmO (w : World) (mean : ExcName → Option Value) (mg mb : Str → Option Value) (f : Addr) (rm : Nat) (own : List (Addr × Obj)) (vs : List Value)
    (R : Heap → Addr → (Str → Option Value) → List (Addr × Obj) → Shared → (Value → Shared → Prop) → Prop) : Prop :=
  ∀ (news : List (Addr × Obj)) (dp un : Nat) (gd : Option (List Code)) (cn : Str) (cs : Scope) (a : Addr) (ccd : Value) (cl : List (Str × Addr)) (outer : List Env) (A₀ : Around) (base h₀ : Heap) (L : Addr) (m : Str → Option Value) (s : Shared) (Q E : Value → Shared → Prop),
    Below A₀ base outer h₀ → Fr h₀ L s.heap m → (K0 w).In h₀ → News h₀ L s.heap (own ++ news) → Top view LW mean mg mb h₀ → cs.kind = .function →
      dp + rm < recursionLimit → un + 8 * rm < cLine → R h₀ L m (own ++ news) s Q →
      wpAny (model PG w) (ktrTop dp un gd cn cs L a ccd cl outer) (call (.ref f) vs) Q E s
/-- a new list of ints, told by what it says -/
noncomputable abbrev RetP (P : List Int → Prop) (h₀ : Heap) (L : Addr) (m : Str → Option Value) (news : List (Addr × Obj)) (s : Shared) (Q : Value → Shared → Prop) : Prop :=
  ∀ (D : Addr) (vs : List Value) (ns : List Int) (c : Nat) (h' : Heap) (tk' : Nat), Fr h₀ L h' m → News h₀ L h' ((D, W.listOf vs.toArray c) :: news) → (∀ p ∈ news, p.1 < D) → IntsAre vs ns → P ns → Q (.ref D) { s with heap := h', toks := tk' }
noncomputable def Hold (P : Prop) : Prop := P
theorem hold {P : Prop} (h : Hold P) : P := h
end Mine
end
end
section
open PySem PySem.W PyProof.Rows
set_option maxRecDepth 100000
set_option maxHeartbeats 8000000
noncomputable section
namespace Mine
open PySem.Builtin PySem.Builtin.Str
/-- one sign replaced -/
noncomputable def sub (c : Nat) (z l : List Nat) : List Nat := l.flatMap fun a => if a = c then z else [a]
theorem sub_append (c : Nat) (z a b : List Nat) : sub c z (a ++ b) = sub c z a ++ sub c z b := by simp [sub]
theorem sub_free (c : Nat) (z : List Nat) : ∀ l : List Nat, c ∉ l → sub c z l = l
  | [], _ => rfl
  | k :: r, h => by
    have h1 : ¬ k = c := fun e => h (e ▸ List.mem_cons_self ..)
    have h2 : c ∉ r := fun m => h (List.mem_cons_of_mem _ m)
    have ih := sub_free c z r h2
    unfold sub at ih ⊢
    rw [List.flatMap_cons, ih, if_neg h1]; rfl
theorem sub_join (c : Nat) (z : Str) : ∀ parts : List Str, (∀ p ∈ parts, c ∉ p.cps.toList) →
    sub c z.cps.toList (Str.join ⟨#[c]⟩ parts).cps.toList = (Str.join z parts).cps.toList
  | [], _ => rfl
  | [p], h => sub_free c _ _ (h p (List.mem_singleton.mpr rfl))
  | p :: q :: r, h => by
    have ih := sub_join c z (q :: r) fun a ha => h a (List.mem_cons_of_mem _ ha)
    show sub c z.cps.toList (p ++ ⟨#[c]⟩ ++ Str.join ⟨#[c]⟩ (q :: r)).cps.toList = (p ++ z ++ Str.join z (q :: r)).cps.toList
    simp only [Str.cps_append, Array.toList_append]
    rw [sub_append, sub_append, ih, sub_free c _ _ (h p (List.mem_cons_self ..))]
    have e : sub c z.cps.toList [c] = z.cps.toList := by simp [sub]
    rw [e]
theorem sub_replace (x z : Str) (c : Nat) : (Txt.replace x ⟨#[c]⟩ z).cps.toList = sub c z.cps.toList x.cps.toList := by
  rw [StrLaws.replace_one, ← sub_join c z _ (StrLaws.split_free x c), StrLaws.join_split]
theorem occ_free {x : Str} {c : Nat} (h : (occurrences x ⟨#[c]⟩ 0 x.length 1).isEmpty = true) : c ∉ x.cps.toList := by
  have := StrLaws.found_one x c
  rw [h] at this
  intro hm
  simp [hm] at this
theorem occ_has {x : Str} {c : Nat} (h : (occurrences x ⟨#[c]⟩ 0 x.length 1).isEmpty = false) : c ∈ x.cps.toList := by
  have := StrLaws.found_one x c
  rw [h] at this
  simpa using this
theorem lit1 (t : String) (c : Nat) (h : Str.ofString t = ⟨#[c]⟩ := by decide +kernel) : Str.ofString t = ⟨#[c]⟩ := h
noncomputable def enc (a : Nat) : List Nat := if a = 38 then [38, 97, 109, 112, 59] else if a = 60 then [38, 108, 116, 59] else if a = 62 then [38, 103, 116, 59] else [a]
noncomputable def escL (l : List Nat) : List Nat := l.flatMap enc
noncomputable def escS (x : Str) : Str := ⟨(escL x.cps.toList).toArray⟩
theorem escL_cons (a : Nat) (l : List Nat) : escL (a :: l) = enc a ++ escL l := rfl
theorem escL_append (a b : List Nat) : escL (a ++ b) = escL a ++ escL b := by simp [escL]
theorem sub3 (l : List Nat) : sub 62 [38, 103, 116, 59] (sub 60 [38, 108, 116, 59] (sub 38 [38, 97, 109, 112, 59] l)) = escL l := by
  induction l with
  | nil => rfl
  | cons a r ih =>
    have e : ∀ c z, sub c z (a :: r) = (if a = c then z else [a]) ++ sub c z r := fun _ _ => rfl
    rw [e, escL_cons, ← ih]
    rw [sub_append, sub_append]
    congr 1
    unfold enc
    by_cases h1 : a = 38
    · subst h1; rfl
    · rw [if_neg h1, if_neg h1]
      by_cases h2 : a = 60
      · subst h2; rfl
      · rw [if_neg h2]
        by_cases h3 : a = 62
        · subst h3; rfl
        · simp [sub, h2, h3]
/-- one if of the escapes -/
noncomputable def Stp (c : Nat) (z x y : Str) : Prop := (y = x ∧ c ∉ x.cps.toList) ∨ y = Txt.replace x ⟨#[c]⟩ z
theorem Stp.eq {c : Nat} {z x y : Str} (h : Stp c z x y) : y.cps.toList = sub c z.cps.toList x.cps.toList := by
  rcases h with ⟨rfl, h⟩ | rfl
  · rw [sub_free c _ _ h]
  · exact sub_replace _ _ _
theorem stp_yes (t u : String) (c : Nat) {x : Str} (h : Str.ofString t = ⟨#[c]⟩ := by decide +kernel) : Stp c (Str.ofString u) x (Txt.replace x (Str.ofString t) (Str.ofString u)) := by
  rw [h]; exact .inr rfl
theorem stp_no (t u : String) (c : Nat) {x : Str} (ho : (occurrences x (Str.ofString t) 0 x.length 1).isEmpty = true) (h : Str.ofString t = ⟨#[c]⟩ := by decide +kernel) : Stp c (Str.ofString u) x x := by
  rw [h] at ho; exact .inl ⟨rfl, occ_free ho⟩
theorem str_ext {a b : Str} (h : a.cps.toList = b.cps.toList) : a = b := Str.ext' (Array.toList_inj.mp h)
theorem esc_of {a b d e : Str} (h3 : Stp 62 (Str.ofString "&gt;") d e) (h2 : Stp 60 (Str.ofString "&lt;") b d) (h1 : Stp 38 (Str.ofString "&amp;") a b) : e = escS a := by
  refine str_ext ?_
  rw [h3.eq, h2.eq, h1.eq, show (Str.ofString "&gt;").cps.toList = [38, 103, 116, 59] from by decide +kernel, show (Str.ofString "&lt;").cps.toList = [38, 108, 116, 59] from by decide +kernel,
    show (Str.ofString "&amp;").cps.toList = [38, 97, 109, 112, 59] from by decide +kernel, sub3]
  simp [escS]
noncomputable def Hi (x : Str) : Prop := ∀ a ∈ x.cps.toList, 35 < a
theorem hi_rep {x z : Str} {c : Nat} (h : Hi x) (hz : ∀ a ∈ z.cps.toList, 35 < a) : Hi (Txt.replace x ⟨#[c]⟩ z) := by
  unfold Hi; rw [sub_replace]
  intro a ha
  obtain ⟨b, hb, ha⟩ := List.mem_flatMap.mp ha
  split at ha
  · exact hz a ha
  · rw [List.mem_singleton.mp ha]; exact h b hb
theorem hi_rep' (t u : String) {x : Str} (h : Hi x) (c : Nat) (ht : Str.ofString t = ⟨#[c]⟩) (hz : (Str.ofString u).cps.toList.all (35 < ·) = true) : Hi (Txt.replace x (Str.ofString t) (Str.ofString u)) := by
  rw [ht]; exact hi_rep h fun a ha => by simpa using List.all_eq_true.mp hz a ha
theorem hi_no (t : String) {x : Str} (h : Hi x) (c : Nat) (ht : Str.ofString t = ⟨#[c]⟩) (hc : c ≤ 35) (ho : (occurrences x (Str.ofString t) 0 x.length 1).isEmpty = false) : False := by
  rw [ht] at ho
  have := h c (occ_has ho); omega
theorem len_flat {f : Nat → List Nat} {k : Nat} (hf : ∀ a, (f a).length ≤ k) (l : List Nat) : (l.flatMap f).length ≤ l.length * k := by
  induction l with
  | nil => simp
  | cons a r ih => rw [List.flatMap_cons, List.length_append, List.length_cons, Nat.succ_mul]; have := hf a; omega
theorem len_rep {x z : Str} {c n : Nat} (hx : x.length ≤ n) (hz : z.length ≤ 5) : (Txt.replace x ⟨#[c]⟩ z).length ≤ n * 5 := by
  have e : (Txt.replace x ⟨#[c]⟩ z).length = (Txt.replace x ⟨#[c]⟩ z).cps.toList.length := by simp [Str.length]
  have e2 : x.length = x.cps.toList.length := by simp [Str.length]
  rw [e, sub_replace]
  refine Nat.le_trans (len_flat (k := 5) (fun a => ?_) _) (Nat.mul_le_mul_right 5 (by rw [← e2]; exact hx))
  split
  · simpa [Str.length] using hz
  · simp
section
variable {prog : Program} {w : World} {A : Around} {E : Value → Shared → Prop} {s : Shared} {Q : Value → Shared → Prop}
theorem rep_step {x : Str} {t u v : Tok} {c : Nat} {n : Nat} {a b : String} (hu : u ≠ 0) (hv : v ≠ 0) (huv : u ≠ v) (hx : x.length ≤ n) (hn : n ≤ 100000)
    (ha : Str.ofString a = ⟨#[c]⟩) (hb : (Str.ofString b).length ≤ 5) (hne : (Str.ofString a == Str.ofString b) = false)
    (hq : ∀ t' k, (Txt.replace x (Str.ofString a) (Str.ofString b)).length ≤ n * 5 → Q (.str (Txt.replace x (Str.ofString a) (Str.ofString b)) t') { s with toks := k }) :
    wpAny (model prog w) A (call (.builtin "str.replace") [.str x t, .str (Str.ofString a) u, .str (Str.ofString b) v]) Q E s :=
  SC.replaceW hu hv huv hne (by omega) (by omega) fun t' k => hq t' k (by rw [ha]; exact len_rep hx hb)
theorem gentoks {α : Type} {M : Model} {t : Sem α} {E : Value → Shared → Prop} {Q : α → Shared → Prop} {h : Heap} {g d Y o} (hh : ∀ tk, 0 < tk → wpAny M A t Q E ⟨h, g, d, tk, o⟩) : wpAny M A t Q E ⟨h, g, d, Y + 1, o⟩ := hh _ (Nat.succ_pos _)
theorem in_low {x : Str} {a : String} {t u : Tok} (c : Nat) (hx : Hi x) (ha : Str.ofString a = ⟨#[c]⟩) (hc : c ≤ 35) (h : Q (.bool false) s) : wpAny (model prog w) A (compareOp .In (.str (Str.ofString a) u) (.str x t)) Q E s := by
  refine in_str ?_
  cases ho : (occurrences x (Str.ofString a) 0 x.length 1).isEmpty with
  | true => simpa using h
  | false => exact (hi_no a hx c ha hc ho).elim
theorem rep_abs {x : Str} {t u v : Tok} {n : Nat} {a b : String} (c : Nat) (hu : u ≠ 0) (hv : v ≠ 0) (huv : u ≠ v) (hi : Hi x) (hx : x.length ≤ n) (hn : n ≤ 100000)
    (ha : Str.ofString a = ⟨#[c]⟩) (hb : (Str.ofString b).length ≤ 5) (hne : (Str.ofString a == Str.ofString b) = false) (hz : (Str.ofString b).cps.toList.all (35 < ·) = true)
    (hq : ∀ T t' k, Stp c (Str.ofString b) x T → Hi T → T.length ≤ n * 5 → Q (.str T t') { s with toks := k }) :
    wpAny (model prog w) A (call (.builtin "str.replace") [.str x t, .str (Str.ofString a) u, .str (Str.ofString b) v]) Q E s :=
  rep_step hu hv huv hx hn ha hb hne fun t' k hl => hq _ t' k (stp_yes a b c ha) (hi_rep' a b hi c ha hz) hl
end
end Mine
end
end
section
open PySem PySem.W PyProof.Rows
set_option maxRecDepth 100000
set_option maxHeartbeats 8000000
noncomputable section
namespace Mine
open PySem.Builtin PySem.Builtin.Str
local macro_rules | `(tactic| walk_at "execs cons") => `(tactic| (k_here; with_reducible refine gentoks ?_; intro tk htk))
local macro_rules | `(tactic| walk_at "call builtin:str.replace") => `(tactic| (
  (first
   | refine rep_abs (n := 20) 38 ?_ ?_ ?_ ?_ ?_ (by decide) (by decide +kernel) (by decide +kernel) (by decide +kernel) (by decide +kernel) ?_
   | refine rep_abs (n := 100) 60 ?_ ?_ ?_ ?_ ?_ (by decide) (by decide +kernel) (by decide +kernel) (by decide +kernel) (by decide +kernel) ?_
   | refine rep_abs (n := 500) 62 ?_ ?_ ?_ ?_ ?_ (by decide) (by decide +kernel) (by decide +kernel) (by decide +kernel) (by decide +kernel) ?_);
  (first | omega | (show @Ne Nat _ _; omega)); (first | omega | (show @Ne Nat _ _; omega)); (first | omega | (show @Ne Nat _ _; omega)); assumption; omega; intro T t' k hS hH hL))
local macro_rules | `(tactic| walk_at "compareOp In str str") => `(tactic| first
  | (refine in_low 34 ?_ (by decide +kernel) (by decide) ?_; assumption)
  | (refine in_low 13 ?_ (by decide +kernel) (by decide) ?_; assumption)
  | (refine in_low 10 ?_ (by decide +kernel) (by decide) ?_; assumption)
  | (refine in_low 9 ?_ (by decide +kernel) (by decide) ?_; assumption))
theorem retS {h₀ h' : Heap} {L : Addr} {m : Str → Option Value} {news : List (Addr × Obj)} {s : Shared} {Q : Value → Shared → Prop} {t : Tok} {tk' : Nat} {a x b d : Str}
    (hret : ∀ (t : Tok) (h' : Heap) (tk' : Nat), Fr h₀ L h' m → News h₀ L h' news → Q (.str (escS a) t) { s with heap := h', toks := tk' })
    (h3 : Stp 62 (Str.ofString "&gt;") d x) (h2 : Stp 60 (Str.ofString "&lt;") b d) (h1 : Stp 38 (Str.ofString "&amp;") a b)
    (F : Fr h₀ L h' m) (N : News h₀ L h' news) : Q (.str x t) { s with heap := h', toks := tk' } := by
  rw [esc_of h3 h2 h1]; exact hret t h' tk' F N
section
variable (w : World) (mean : ExcName → Option Value) (mg mb : Str → Option Value) (a : Str) (ta : Tok) (ha : Hi a) (hl : a.length ≤ 20)
include ha hl
theorem esc1 : Clm w mean mg mb 28 20 [.str a ta] (RetV fun t => .str (escS a) t) := by
  dsimp only [Clm, RetV, K0, PG, LW]; w_top off; k_fill; k_with_none; intros; rename_i hret
  refine wpAny_call ?_
  k_dflt cell_enter
  k_steps
  all_goals exact retS hret (by first | assumption | exact stp_no ">" "&gt;" 62 (by assumption) (by decide +kernel)) (by first | assumption | exact stp_no "<" "&lt;" 60 (by assumption) (by decide +kernel)) (by first | assumption | exact stp_no "&" "&amp;" 38 (by assumption) (by decide +kernel)) (by k_asm) (by k_asm)
theorem esc2 : Clm w mean mg mb 35 20 [.str a ta] (RetV fun t => .str (escS a) t) := by
  dsimp only [Clm, RetV, K0, PG, LW]; w_top off; k_fill; k_with_none; intros; rename_i hret
  refine wpAny_call ?_
  k_dflt cell_enter
  k_steps
  all_goals exact retS hret (by first | assumption | exact stp_no ">" "&gt;" 62 (by assumption) (by decide +kernel)) (by first | assumption | exact stp_no "<" "&lt;" 60 (by assumption) (by decide +kernel)) (by first | assumption | exact stp_no "&" "&amp;" 38 (by assumption) (by decide +kernel)) (by k_asm) (by k_asm)
theorem esc3 : Clm w mean mg mb 42 20 [.str a ta] (RetV fun t => .str (escS a) t) := by
  dsimp only [Clm, RetV, K0, PG, LW]; w_top off; k_fill; k_with_none; intros; rename_i hret
  refine wpAny_call ?_
  k_dflt cell_enter
  k_steps
  all_goals exact retS hret (by first | assumption | exact stp_no ">" "&gt;" 62 (by assumption) (by decide +kernel)) (by first | assumption | exact stp_no "<" "&lt;" 60 (by assumption) (by decide +kernel)) (by first | assumption | exact stp_no "&" "&amp;" 38 (by assumption) (by decide +kernel)) (by k_asm) (by k_asm)
end
end Mine
end
end
section
open PySem PySem.W PyProof.Rows
set_option maxRecDepth 100000
set_option maxHeartbeats 8000000
noncomputable section
namespace Mine
local macro_rules | `(tactic| walk_at "call ref") => `(tactic| (k_here; (first | k_dflt (refine' esc1 _ _ _ _ _ _ ?p1 ?p2 _ _ _ _ _ _ _ _ _ _ _ _ _ _ _ _ _ _ ?k1 ?k2 ?k3 ?k4 ?k5 ?k6 ?k7 ?k8 ?_) | k_dflt (refine' esc2 _ _ _ _ _ _ ?p1 ?p2 _ _ _ _ _ _ _ _ _ _ _ _ _ _ _ _ _ _ ?k1 ?k2 ?k3 ?k4 ?k5 ?k6 ?k7 ?k8 ?_) | k_dflt (refine' esc3 _ _ _ _ _ _ ?p1 ?p2 _ _ _ _ _ _ _ _ _ _ _ _ _ _ _ _ _ _ ?k1 ?k2 ?k3 ?k4 ?k5 ?k6 ?k7 ?k8 ?_)); (case k1 => k_asm); (case k2 => k_asm); (case k3 => k_asm); (case k4 => k_asm); (case k5 => k_asm); (case k6 => exact rfl); (case p1 => assumption); (case p2 => assumption); (case k7 => (first | omega | (dsimp only; omega) | ktr_room)); (case k8 => (first | omega | (dsimp only; omega) | ktr_units)); intro t9 h9 tk9 F9 N9; (try dsimp only); (try k_fold)))
section
variable (w : World) (mean : ExcName → Option Value) (mg mb : Str → Option Value) (a : Str) (ta : Tok) (hand : Int) (th : Tok) (ha : Hi a) (hl : a.length ≤ 20)
include ha hl
theorem written : Clm w mean mg mb 66 30 [.int hand th, .str a ta] (RetV fun t => .str (escS a) t) := by
  dsimp only [Clm, RetV, K0, PG, LW]; w_top off; k_fill; k_with_none; intros; rename_i hret
  refine wpAny_call ?_
  k_dflt cell_enter
  k_steps
  all_goals exact hret _ _ _ (by k_asm) (by k_asm)
end
end Mine
end
end
section
open PySem PySem.W PyProof.Rows
set_option maxRecDepth 100000
set_option maxHeartbeats 2000000
noncomputable section
namespace Mine
open PySem.Builtin PySem.Builtin.Str
theorem slice_hi (x : Str) (l : Option Int) {j : Int} (h : (x.length : Int) ≤ j) : StrLaws.sliceText x l (some j) = StrLaws.sliceText x l (some (x.length : Int)) := by
  have e : max (0 : Int) (min j (x.length : Int)) = max 0 (min (x.length : Int) (x.length : Int)) := by omega
  have e2 : ¬ j < 0 := by omega
  have e3 : ¬ ((x.length : Int)) < 0 := by omega
  have e4 : min j (x.length : Int) = min (x.length : Int) (x.length : Int) := by omega
  have e5 : (1 : Int) > 0 := by decide
  simp only [StrLaws.sliceText, strSliceIndices, e5, if_true, e, e2, e3, e4, if_false]
theorem slice_list (x : Str) {i j : Int} (h0 : 0 ≤ i) (hij : i ≤ j) (hi : i ≤ x.length) : (Txt.slice x (some i) (some j)).cps.toList = (x.cps.toList.drop i.toNat).take (j - i).toNat := by
  have el : x.cps.toList.length = x.length := by simp [Str.length]
  show (StrLaws.sliceText x (some i) (some j)).cps.toList = _
  rcases Int.le_total j x.length with h | h
  · rw [StrLaws.sliceText_plain ⟨h0, hij, by rw [el]; exact h⟩]
  · rw [slice_hi x (some i) h, StrLaws.sliceText_plain ⟨h0, hi, by rw [el]; exact Int.le_refl _⟩]
    show ((x.cps.toList.drop i.toNat).take ((x.length : Int) - i).toNat) = _
    rw [List.take_of_length_le (by rw [List.length_drop, el]; omega), List.take_of_length_le (by rw [List.length_drop, el]; omega)]
theorem slice_list0 (x : Str) {j : Int} (h0 : 0 ≤ j) : (Txt.slice x none (some j)).cps.toList = x.cps.toList.take j.toNat := by
  have el : x.cps.toList.length = x.length := by simp [Str.length]
  show (StrLaws.sliceText x none (some j)).cps.toList = _
  rcases Int.le_total j x.length with h | h
  · rw [StrLaws.sliceText_to ⟨h0, by rw [el]; exact h⟩]; simp
  · rw [slice_hi x none h, StrLaws.sliceText_to ⟨by omega, by rw [el]; exact Int.le_refl _⟩]
    simp only [Int.toNat_zero, List.drop_zero, Int.sub_zero, Int.toNat_natCast]
    rw [List.take_of_length_le (by rw [el]; omega), List.take_of_length_le (by rw [el]; omega)]
theorem eq_lit {x : Str} {t : String} {l : List Nat} (h : x.cps.toList = l) (e : (Str.ofString t).cps.toList = l) : (x == Str.ofString t) = true := by
  rw [beq_iff_eq]; exact str_ext (h.trans e.symm)
theorem ne_lit {x : Str} {t : String} {l : List Nat} (h : x.cps.toList = l) (e : (Str.ofString t).cps.toList ≠ l) : (x == Str.ofString t) = false := by
  rw [beq_eq_false_iff_ne]; intro q; subst q; exact e h
/-- what the page says at a place -/
theorem at_item {page : Str} {pre r : List Nat} {b : Nat} (h : page.cps.toList = pre ++ b :: r) : Txt.item page (pre.length : Nat) = ⟨#[b]⟩ := by
  refine item_meets (by omega) ?_
  rw [← Array.getElem?_toList, h]; simp
theorem at_slice {page : Str} {pre r : List Nat} {b : Nat} (h : page.cps.toList = pre ++ b :: r) : (Txt.slice page (some ((pre.length : Nat) + 1)) (some ((pre.length : Nat) + 5))).cps.toList = r.take 4 := by
  have el : page.length = page.cps.toList.length := by simp [Str.length]
  rw [slice_list page (by omega) (by omega) (by rw [el, h]; simp only [List.length_append, List.length_cons]; omega)]
  rw [h, show ((pre.length : Int) + 1).toNat = pre.length + 1 from by omega, show ((pre.length : Int) + 5 - ((pre.length : Int) + 1)).toNat = 4 from by omega]
  congr 1
  rw [List.drop_append]; simp
theorem amp_yes {page : Str} {pre r : List Nat} (h : page.cps.toList = pre ++ (enc 38 ++ r)) : (Txt.slice page (some ((pre.length : Nat) + 1)) (some ((pre.length : Nat) + 5)) == Str.ofString "amp;") = true :=
  eq_lit (at_slice (r := 97 :: 109 :: 112 :: 59 :: r) (b := 38) h) (by simp; decide +kernel)
theorem lt_no {page : Str} {pre r : List Nat} (h : page.cps.toList = pre ++ (enc 60 ++ r)) : (Txt.slice page (some ((pre.length : Nat) + 1)) (some ((pre.length : Nat) + 5)) == Str.ofString "amp;") = false :=
  ne_lit (at_slice (r := 108 :: 116 :: 59 :: r) (b := 38) h) (by rw [show (Str.ofString "amp;").cps.toList = [97, 109, 112, 59] from by decide +kernel]; simp)
theorem lt_yes {page : Str} {pre r : List Nat} (h : page.cps.toList = pre ++ (enc 60 ++ r)) : (Txt.slice (Txt.slice page (some ((pre.length : Nat) + 1)) (some ((pre.length : Nat) + 5))) none (some 3) == Str.ofString "lt;") = true :=
  eq_lit (l := [108, 116, 59]) (by rw [slice_list0 _ (by decide), at_slice (r := 108 :: 116 :: 59 :: r) (b := 38) h]; simp) (by decide +kernel)
theorem gt_no {page : Str} {pre r : List Nat} (h : page.cps.toList = pre ++ (enc 62 ++ r)) : (Txt.slice page (some ((pre.length : Nat) + 1)) (some ((pre.length : Nat) + 5)) == Str.ofString "amp;") = false :=
  ne_lit (at_slice (r := 103 :: 116 :: 59 :: r) (b := 38) h) (by rw [show (Str.ofString "amp;").cps.toList = [97, 109, 112, 59] from by decide +kernel]; simp)
theorem gt_no2 {page : Str} {pre r : List Nat} (h : page.cps.toList = pre ++ (enc 62 ++ r)) : (Txt.slice (Txt.slice page (some ((pre.length : Nat) + 1)) (some ((pre.length : Nat) + 5))) none (some 3) == Str.ofString "lt;") = false :=
  ne_lit (l := [103, 116, 59]) (by rw [slice_list0 _ (by decide), at_slice (r := 103 :: 116 :: 59 :: r) (b := 38) h]; simp) (by decide +kernel)
theorem gt_yes {page : Str} {pre r : List Nat} (h : page.cps.toList = pre ++ (enc 62 ++ r)) : (Txt.slice (Txt.slice page (some ((pre.length : Nat) + 1)) (some ((pre.length : Nat) + 5))) none (some 3) == Str.ofString "gt;") = true :=
  eq_lit (l := [103, 116, 59]) (by rw [slice_list0 _ (by decide), at_slice (r := 103 :: 116 :: 59 :: r) (b := 38) h]; simp) (by decide +kernel)
theorem escL_at {l : List Nat} {i a : Nat} (h : l[i]? = some a) : escL l = escL (l.take i) ++ (enc a ++ escL (l.drop (i + 1))) := by
  have hi : i < l.length := (List.getElem?_eq_some_iff.mp h).1
  have e : l = l.take i ++ (a :: l.drop (i + 1)) := by
    have e1 : l[i] = a := (List.getElem?_eq_some_iff.mp h).2
    rw [← e1, ← List.drop_eq_getElem_cons hi, List.take_append_drop]
  conv => lhs; rw [e]
  rw [escL_append, escL_cons]
theorem escL_take {l : List Nat} {i a : Nat} (h : l[i]? = some a) : (escL (l.take (i + 1))).length = (escL (l.take i)).length + (enc a).length := by
  rw [List.take_add_one, h, escL_append, List.length_append]; simp [escL]
end Mine
end
end
section
open PySem PySem.W PyProof.Rows
set_option maxRecDepth 100000
set_option maxHeartbeats 1500000
noncomputable section
namespace Mine
noncomputable def num (a : Nat) : Int := if a = 38 then 19 else if a = 60 then 20 else if a = 62 then 21 else if a = 40 then 7 else if a = 41 then 8 else if a = 42 then 16 else if a = 43 then 14 else if a = 44 then 12 else if a = 45 then 15 else if a = 46 then 23 else if a = 47 then 17 else if a = 58 then 11 else 13
noncomputable def Sg (a : Nat) : Prop := a = 38 ∨ a = 60 ∨ a = 62 ∨ a = 40 ∨ a = 41 ∨ a = 42 ∨ a = 43 ∨ a = 44 ∨ a = 45 ∨ a = 46 ∨ a = 47 ∨ a = 58 ∨ a = 59
local macro_rules | `(tactic| walk_at "compareOp Eq str str") => `(tactic| k_extra "compareOp Eq str str")
local macro_rules | `(tactic| walk_at "call builtin:list.append") => `(tactic| k_extra "call builtin:list.append")
local macro_rules | `(tactic| walk_at "compareOp Eq int int") => `(tactic| k_extra "compareOp Eq int int")
local macro_rules | `(tactic| walk_at "exec While Compare cons nil") => `(tactic| refine hold ?_)
/-- the state of the loop: the place in the word, the list's items and its room -/
structure NumS where
  i : Nat
  vs : List Value
  c : Nat
  t : Tok
theorem in_eq {prog : Program} {w : World} {A : Around} {E : Value → Shared → Prop} {s : Shared} {Q : Value → Shared → Prop} {x y : Str} {t u : Tok} (h : Q (.bool (x == y)) s) : wpAny (model prog w) A (compareOp .Eq (.str x t) (.str y u)) Q E s := eq_str h
theorem int_eq {a b : Int} {t : Tok} (h : a = b) : some (Value.int a t) = some (Value.int b t) := by rw [h]
theorem eq_int_no {prog : Program} {w : World} {A : Around} {E : Value → Shared → Prop} {s : Shared} {Q : Value → Shared → Prop} {x y : Int} {t u : Tok} (hn : x ≠ y) (h : Q (.bool false) s) : wpAny (model prog w) A (compareOp .Eq (.int x t) (.int y u)) Q E s := by
  refine eq_int ?_
  have e : (x == y) = false := by simpa using hn
  rw [e]; exact h
theorem flat_conv {v : Value} {d d' : PyData} (h : PyProof.V.Flat v d) (e : d = d') : PyProof.V.Flat v d' := e ▸ h
section
variable (w : World) (mean : ExcName → Option Value) (mg mb : Str → Option Value) (l : List Nat) (page : Str) (ta : Tok) (hs : ∀ a ∈ l, Sg a) (hpg : page.cps.toList = escL l) (hpl : page.length ≤ 100) (hl : l.length ≤ 20)
include hs hpg hpl hl
theorem numbers : Clm w mean mg mb 73 30 [.str page ta] (RetL (l.map num)) := by
  dsimp only [Clm, RetL, K0, PG, LW]; w_top off; k_fill; k_with_none; intro news dp un gd cn cs aa ccd cl outer A₀ base h₀ L m s Q E hB hF hK hN hT hcs hdp hun hret
  refine wpAny_call ?_
  k_dflt cell_enter
  k_steps
  unfold Hold
  rename Fr _ _ _ _ => F
  rename News _ _ _ ((_, W.listOf _ _) :: _) => N
  rename_i g' L' h3 FG hB' hK' hT' tk0 l' h2 hlt h1 h'
  k_dflt (refine' ksw_while (σ := NumS) (fun c => (l', W.listOf c.vs.toArray c.c) :: news) (fun c => [(Str.ofString "place", .int ((escL (l.take c.i)).length : Nat) c.t)]) (fun _ => True) [Str.ofString "number", Str.ofString "name"] (fun c => IntsAre c.vs ((l.take c.i).map num) ∧ c.i ≤ l.length) (fun c => l.length - c.i) ⟨0, [], 0, tk⟩ F N trivial ?hk ?hp ?turn)
  case hk => simp [escL]
  case hp => simp; exact .nil
  clear F N
  have kM := kstMark
  intro c u h tk9 _ hP F N
  obtain ⟨i, vs, cap, t⟩ := c
  obtain ⟨hv, hi⟩ := hP
  dsimp only [kstB] at hv hi F N
  dsimp only
  rcases Nat.lt_or_ge i l.length with hilt | hige
  case' inr =>
    have hii : i = l.length := by omega
    subst hii
    have el : page.length = page.cps.toList.length := by simp [Str.length]
    have hnl : ¬ ((escL (l.take l.length)).length : Int) < (page.length : Nat) := by rw [List.take_length, el, hpg]; omega
    rw [List.take_length] at hv
    k_steps
    rename News _ _ _ ((_, W.listOf _ _) :: _) => N
    exact hret _ _ _ _ _ (by k_asm) N hlt hv
  obtain ⟨a, ha⟩ : ∃ a, l[i]? = some a := ⟨l[i], by simp [hilt]⟩
  have hSg := hs a (List.mem_of_getElem? ha)
  have hsplit : page.cps.toList = escL (l.take i) ++ (enc a ++ escL (l.drop (i + 1))) := by rw [hpg]; exact escL_at ha
  have hplt : ((escL (l.take i)).length : Int) < (page.length : Nat) := by
    have el : page.length = page.cps.toList.length := by simp [Str.length]
    have e2 : 0 < (enc a).length := by unfold enc; (repeat' split) <;> simp
    rw [el, hsplit]; simp only [List.length_append]; omega
  have hvl : vs.length ≤ 20 := by have := hv.length; simp only [List.length_map, List.length_take] at this; omega
  k_with_none
  k_with "compareOp Eq int int" => (refine eq_int_no hne ?_)
  k_with "call builtin:list.append" => (k_dflt (refine' append_K ?k1 ?k2 (Upd.head (fun p hp => Nat.ne_of_lt (hlt p hp))) ?_ ?z); (case k1 => k_asm); (case k2 => k_asm); (case z => (rw [List.size_toArray, sizeLine_eq]; omega)); k_whole; intro h' F' N'; (try k_sweep))
  k_with "compareOp Eq str str" => (refine in_eq ?_; first | rw [hc1] | rw [hc2] | rw [hc3])
  by_cases h3 : a = 38 ∨ a = 60 ∨ a = 62
  · have hitem : Txt.item page ((escL (l.take i)).length : Nat) = ⟨#[38]⟩ := by
      rcases h3 with rfl | rfl | rfl
      · exact at_item (r := 97 :: 109 :: 112 :: 59 :: escL (l.drop (i + 1))) hsplit
      · exact at_item (r := 108 :: 116 :: 59 :: escL (l.drop (i + 1))) hsplit
      · exact at_item (r := 103 :: 116 :: 59 :: escL (l.drop (i + 1))) hsplit
    k_steps
    rename PyProof.V.Flat _ _ => hv'
    rename Fr _ _ _ _ => F
    rename News _ _ _ ((_, W.listOf _ _) :: _) => N
    rw [hitem] at hv'
    obtain ⟨t9, rfl⟩ := PyProof.V.Flat.int_inv (flat_conv (d' := PyData.int 19) hv' (by with_unfolding_all rfl))
    clear hv'
    rcases h3 with rfl | rfl | rfl
    · have hc1 := amp_yes hsplit
      have hen : (enc 38).length = 5 := rfl
      k_steps
      rename Fr _ _ _ _ => F
      rename News _ _ _ ((_, W.listOf _ _) :: _) => N
      simp only [List.push_toArray] at N
      refine' ksw_end (⟨i + 1, _, cap + 1, _⟩ : NumS) F N (fun p hp => hp) trivial ?hk ?hs ⟨?hv, ?hi⟩ ?hm
      case hs => ksw_same
      case hi => (dsimp only; omega)
      case hm => (dsimp only; omega)
      case hk =>
        intro p hp
        rcases List.mem_singleton.mp hp with rfl
        dsimp only
        rw [if_pos rfl]
        refine' int_eq ?_; rw [escL_take ha, hen]; omega
      case hv =>
        dsimp only
        rw [List.take_add_one, ha]
        simp only [Option.toList_some, List.map_append, List.map_cons, List.map_nil]
        exact hv.append (.cons _ _ .nil)
    · have hc1 := lt_no hsplit
      have hc2 := lt_yes hsplit
      have hen : (enc 60).length = 4 := rfl
      k_steps
      rename Fr _ _ _ _ => F
      rename News _ _ _ ((_, W.listOf _ _) :: _) => N
      simp only [List.push_toArray] at N
      refine' ksw_end (⟨i + 1, _, cap + 1, _⟩ : NumS) F N (fun p hp => hp) trivial ?hk ?hs ⟨?hv, ?hi⟩ ?hm
      case hs => ksw_same
      case hi => (dsimp only; omega)
      case hm => (dsimp only; omega)
      case hk =>
        intro p hp
        rcases List.mem_singleton.mp hp with rfl
        dsimp only
        rw [if_pos rfl]
        refine' int_eq ?_; rw [escL_take ha, hen]; omega
      case hv =>
        dsimp only
        rw [List.take_add_one, ha]
        simp only [Option.toList_some, List.map_append, List.map_cons, List.map_nil]
        exact hv.append (.cons _ _ .nil)
    · have hc1 := gt_no hsplit
      have hc2 := gt_no2 hsplit
      have hc3 := gt_yes hsplit
      have hen : (enc 62).length = 4 := rfl
      k_steps
      rename Fr _ _ _ _ => F
      rename News _ _ _ ((_, W.listOf _ _) :: _) => N
      simp only [List.push_toArray] at N
      refine' ksw_end (⟨i + 1, _, cap + 1, _⟩ : NumS) F N (fun p hp => hp) trivial ?hk ?hs ⟨?hv, ?hi⟩ ?hm
      case hs => ksw_same
      case hi => (dsimp only; omega)
      case hm => (dsimp only; omega)
      case hk =>
        intro p hp
        rcases List.mem_singleton.mp hp with rfl
        dsimp only
        rw [if_pos rfl]
        refine' int_eq ?_; rw [escL_take ha, hen]; omega
      case hv =>
        dsimp only
        rw [List.take_add_one, ha]
        simp only [Option.toList_some, List.map_append, List.map_cons, List.map_nil]
        exact hv.append (.cons _ _ .nil)
  · have hen : enc a = [a] := by unfold enc; rw [if_neg (by omega), if_neg (by omega), if_neg (by omega)]
    have henl : (enc a).length = 1 := by rw [hen]; rfl
    have hitem : Txt.item page ((escL (l.take i)).length : Nat) = ⟨#[a]⟩ := at_item (r := escL (l.drop (i + 1))) (by rw [hsplit, hen]; rfl)
    k_steps
    rename PyProof.V.Flat _ _ => hv'
    rename Fr _ _ _ _ => F
    rename News _ _ _ ((_, W.listOf _ _) :: _) => N
    rw [hitem] at hv'
    have hne : num a ≠ 19 := by rcases hSg with rfl | rfl | rfl | rfl | rfl | rfl | rfl | rfl | rfl | rfl | rfl | rfl | rfl <;> first | omega | decide
    obtain ⟨t9, rfl⟩ := PyProof.V.Flat.int_inv (flat_conv (d' := PyData.int (num a)) hv' (by rcases hSg with rfl | rfl | rfl | rfl | rfl | rfl | rfl | rfl | rfl | rfl | rfl | rfl | rfl <;> first | (exfalso; omega) | with_unfolding_all rfl))
    clear hv'
    k_steps
    rename Fr _ _ _ _ => F
    rename News _ _ _ ((_, W.listOf _ _) :: _) => N
    simp only [List.push_toArray] at N
    refine' ksw_end (⟨i + 1, _, cap + 1, _⟩ : NumS) F N (fun p hp => hp) trivial ?hk ?hs ⟨?hv, ?hi⟩ ?hm
    case hs => ksw_same
    case hi => (dsimp only; omega)
    case hm => (dsimp only; omega)
    case hk =>
      intro p hp
      rcases List.mem_singleton.mp hp with rfl
      dsimp only
      rw [if_pos rfl]
      refine' int_eq ?_; rw [escL_take ha, henl]; omega
    case hv =>
      dsimp only
      rw [List.take_add_one, ha]
      simp only [Option.toList_some, List.map_append, List.map_cons, List.map_nil]
      exact hv.append (.cons _ _ .nil)
end
end Mine
end
end
section
open PySem PySem.W PyProof.Rows
set_option maxRecDepth 100000
set_option maxHeartbeats 1500000
noncomputable section
namespace Mine
open PySem.Calls PyProof.V PySem.Spec
section
variable {prog : Program} {w : World} {A : Around} {E : Value → Shared → Prop} {s : Shared} {h₀ : Heap} {L : Addr} {m : Str → Option Value} {news : List (Addr × Obj)} {Q : Value → Shared → Prop}
theorem sort_new {h : Heap} {D : Addr} {tk : Nat} {vs : List Value} {ns : List Int} (F : Fr h₀ L h m) (N : News h₀ L h ((D, W.listOf vs.toArray 0) :: news)) (hlt : ∀ q ∈ news, q.1 < D) (hI : IntsAre vs ns) (h64 : vs.length < 64)
    (hq : ∀ vs' ns' c h', Fr h₀ L h' m → News h₀ L h' ((D, W.listOf vs'.toArray c) :: news) → IntsAre vs' ns' → ns'.Perm ns → ns'.Pairwise (· ≤ ·) → Q (.ref D) { s with heap := h', toks := tk }) :
    wpAny (model prog w) A (call (.builtin "list.sort") [.ref D]) (fun _ s' => Q (.ref D) s') E { s with heap := h, toks := tk } := by
  have z := N _ (.head _)
  have ho : h.get? D = some (seqObj "list" vs.toArray 0) := z.1
  refine wpAny_call_entry PyProof.Rows.slot_list_sort ⟨_, z.1, rfl⟩ PyProof.Rows.entry_list_sort (list_sort_tree (n := 0) (vs := vs) ho hI h64 fun out ns' a1 a2 a3 => ⟨.none, rfl, ?_⟩) (PyProof.Rows.args_list_sort _)
  obtain ⟨e, he⟩ := sortedHeap_at (vs := vs) (out := out) ho
  refine hq out.toList ns' e _ ?_ ?_ a1 a2 a3
  · obtain ⟨oL, b1, b2, hL, b3⟩ := F.ns
    refine ⟨⟨oL, b1, b2, ?_, b3⟩, fun b o eb => ?_, F.above⟩
    · rw [sortedHeap_old (Ne.symm z.2.1) (Heap.lt_size hL)]; exact hL
    · have hb : b ≠ D := fun q => by rw [q, z.2.2] at eb; cases eb
      rw [sortedHeap_old hb (Heap.lt_size (F.keep b o eb))]; exact F.keep b o eb
  · intro p hp
    rcases List.mem_cons.mp hp with rfl | hp
    · exact ⟨by rw [Array.toArray_toList]; exact he, z.2⟩
    · have y := N p (.tail _ hp)
      exact ⟨by rw [sortedHeap_old (Nat.ne_of_lt (hlt p hp)) (Heap.lt_size y.1)]; exact y.1, y.2⟩
theorem sorted_src {T : String} {r d : Addr} {n : Nat} {P : Nat → Value → Prop} {OK : Heap → Prop} (K : KdlSrc prog w T r d n P OK) (hh : A.handled = none) (F : Fr h₀ L s.heap m) (N : News h₀ L s.heap news) (hok : OK s.heap) (hn : n < 64) (ns : List Int)
    (hP : ∀ vs : List Value, vs.length = n → (∀ (j : Nat) (v : Value), vs[j]? = some v → P j v) → ∃ ns', IntsAre vs ns' ∧ ns'.Perm ns)
    (h : ∀ D vs' ns' c h' tk, Fr h₀ L h' m → News h₀ L h' ((D, W.listOf vs'.toArray c) :: news) → (∀ q ∈ news, q.1 < D) → IntsAre vs' ns' → ns'.Perm ns → ns'.Pairwise (· ≤ ·) → Q (.ref D) { s with heap := h', toks := tk }) :
    wpAny (model prog w) A (call (.builtin "sorted") [.ref r]) Q E s := by
  refine kdu_sorted K hh F N hok (by rw [sizeLine_eq]; omega) fun D h' tk vs F' N' hlt hl hv => ?_
  obtain ⟨ns', hI, hp⟩ := hP vs hl hv
  exact sort_new F' N' hlt hI (by omega) fun vs' ns'' c h'' F'' N'' b1 b2 b3 => h D vs' ns'' c h'' tk F'' N'' hlt b1 (b2.trans hp) b3
theorem sorted_vals {v d : Addr} {c : List (Int × Int)} (hh : A.handled = none) (F : Fr h₀ L s.heap m) (N : News h₀ L s.heap news) (hv : (v, { cls := .type "dict_values", data := .fields #[.ref d] }) ∈ news) (T : IntTab prog w s.heap d (kdfD c)) (hc : c.length < 64)
    (h : ∀ D vs' ns' n h' tk, Fr h₀ L h' m → News h₀ L h' ((D, W.listOf vs'.toArray n) :: news) → (∀ q ∈ news, q.1 < D) → IntsAre vs' ns' → ns'.Perm (c.map (·.2)) → ns'.Pairwise (· ≤ ·) → Q (.ref D) { s with heap := h', toks := tk }) :
    wpAny (model prog w) A (call (.builtin "sorted") [.ref v]) Q E s := by
  obtain ⟨lo, kvs, hD, hf⟩ := T
  obtain ⟨ep, hat⟩ := hD.dictAt
  have hlen : kvs.length = c.length := by rw [← hf.length, kdfD_length]
  refine sorted_src (kdl_values (knd := PySem.intKind prog w) (kvs := kvs) (ep := ep)) hh F N ⟨⟨_, (N _ hv).1, rfl, rfl⟩, hat⟩ (by omega) (c.map (·.2)) (fun vs hl hw => ⟨_, kdy_ints (by rw [hl, hlen, List.length_map]) fun j x hj => ?_, .refl _⟩) h
  obtain ⟨k, hx⟩ := hw j x hj
  obtain ⟨p, hp, t, rfl⟩ := kdy_valAt hf hx
  exact ⟨p.2, by rw [List.getElem?_map, hp]; rfl, t, rfl⟩
end
end Mine
end
end
section
open PySem PySem.W PyProof.Rows
set_option maxRecDepth 100000
set_option maxHeartbeats 1500000
noncomputable section
namespace Mine
/-- the inner loop's turn -/
noncomputable def inS (ρ : List Int) (q : Nat) (st : Int × List (Int × Int)) (p : Nat) : Int × List (Int × Int) :=
  if p = 12 - q ∨ ρ.getD p 0 ≠ ρ.getD (p + q) 0 then
    ((p : Int) + 1, if (q : Int) ≤ (p : Int) - st.1 ∧ kdfHas st.2 (20 * st.1 + ((p : Int) + q)) = false then kdfPut st.2 (20 * st.1 + ((p : Int) + q)) (400 * st.1 + 20 * ((p : Int) + q) + q) else st.2)
  else st
noncomputable def inner (ρ : List Int) (q : Nat) (c : List (Int × Int)) (n : Nat) : Int × List (Int × Int) := (List.range n).foldl (inS ρ q) (0, c)
noncomputable def runsD (ρ : List Int) (n : Nat) : List (Int × Int) := (List.range n).foldl (fun c i => (inner ρ (i + 1) c (13 - (i + 1))).2) []
theorem inS_len (ρ : List Int) (q : Nat) (st : Int × List (Int × Int)) (p : Nat) : (inS ρ q st p).2.length ≤ st.2.length + 1 := by
  unfold inS
  split
  · dsimp only
    split
    · exact kdfPut_len _ _ _
    · omega
  · omega
theorem inner_succ (ρ : List Int) (q : Nat) (c : List (Int × Int)) (n : Nat) : inner ρ q c (n + 1) = inS ρ q (inner ρ q c n) n := by
  unfold inner; rw [List.range_succ, List.foldl_append]; rfl
theorem inner_len (ρ : List Int) (q : Nat) (c : List (Int × Int)) : ∀ n, (inner ρ q c n).2.length ≤ c.length + n
  | 0 => Nat.le_refl _
  | n + 1 => by rw [inner_succ]; have := inS_len ρ q (inner ρ q c n) n; have := inner_len ρ q c n; omega
theorem runsD_succ (ρ : List Int) (n : Nat) : runsD ρ (n + 1) = (inner ρ (n + 1) (runsD ρ n) (13 - (n + 1))).2 := by
  unfold runsD; rw [List.range_succ, List.foldl_append]; rfl
theorem runsD_len (ρ : List Int) : ∀ n, n ≤ 6 → (runsD ρ n).length ≤ 12 * n
  | 0, _ => Nat.le_refl _
  | n + 1, h => by rw [runsD_succ]; have := inner_len ρ (n + 1) (runsD ρ n) (13 - (n + 1)); have := runsD_len ρ n (by omega); omega
theorem runsD_len6 (ρ : List Int) : (runsD ρ 6).length ≤ 57 := by
  have a : ∀ n, (runsD ρ (n + 1)).length ≤ (runsD ρ n).length + (13 - (n + 1)) := fun n => by rw [runsD_succ]; exact inner_len ρ (n + 1) (runsD ρ n) (13 - (n + 1))
  have h1 : (runsD ρ 1).length ≤ (runsD ρ 0).length + 12 := a 0
  have h2 : (runsD ρ 2).length ≤ (runsD ρ 1).length + 11 := a 1
  have h3 : (runsD ρ 3).length ≤ (runsD ρ 2).length + 10 := a 2
  have h4 : (runsD ρ 4).length ≤ (runsD ρ 3).length + 9 := a 3
  have h5 : (runsD ρ 5).length ≤ (runsD ρ 4).length + 8 := a 4
  have h6 : (runsD ρ 6).length ≤ (runsD ρ 5).length + 7 := a 5
  have h0 : (runsD ρ 0).length = 0 := rfl
  omega
theorem inS_same {ρ : List Int} {q p : Nat} {st : Int × List (Int × Int)} (h1 : p ≠ 12 - q) (h2 : ρ.getD p 0 = ρ.getD (p + q) 0) : inS ρ q st p = st := by
  unfold inS; rw [if_neg (fun h => h.elim h1 (fun h => h h2))]
theorem inS_put {ρ : List Int} {q p : Nat} {f : Int} {c : List (Int × Int)} (h1 : p = 12 - q ∨ ρ.getD p 0 ≠ ρ.getD (p + q) 0) (h2 : (q : Int) ≤ (p : Int) - f) (h3 : kdfHas c (20 * f + ((p : Int) + q)) = false) :
    inS ρ q (f, c) p = ((p : Int) + 1, kdfPut c (20 * f + ((p : Int) + q)) (400 * f + 20 * ((p : Int) + q) + q)) := by
  unfold inS; rw [if_pos h1]; dsimp only; rw [if_pos ⟨h2, h3⟩]
theorem inS_no {ρ : List Int} {q p : Nat} {f : Int} {c : List (Int × Int)} (h1 : p = 12 - q ∨ ρ.getD p 0 ≠ ρ.getD (p + q) 0) (h2 : ¬ (q : Int) ≤ (p : Int) - f ∨ kdfHas c (20 * f + ((p : Int) + q)) = true) :
    inS ρ q (f, c) p = ((p : Int) + 1, c) := by
  unfold inS; rw [if_pos h1]; dsimp only; rw [if_neg]
  rintro ⟨a, b⟩
  rcases h2 with h2 | h2
  · exact h2 a
  · rw [h2] at b; cases b
theorem two_ne {ρ : List Int} {q p : Nat} (h : ρ.getD ((p : Int)).toNat 0 ≠ ρ.getD ((p : Int) + (q : Int)).toNat 0) : ρ.getD p 0 ≠ ρ.getD (p + q) 0 := by
  rwa [show ((p : Int)).toNat = p from by omega, show ((p : Int) + (q : Int)).toNat = p + q from by omega] at h
theorem two_eq {ρ : List Int} {q p : Nat} (h : ρ.getD ((p : Int)).toNat 0 = ρ.getD ((p : Int) + (q : Int)).toNat 0) : ρ.getD p 0 = ρ.getD (p + q) 0 := by
  rwa [show ((p : Int)).toNat = p from by omega, show ((p : Int) + (q : Int)).toNat = p + q from by omega] at h
local macro_rules | `(tactic| walk_at "no such key") => `(tactic| fail)
local macro_rules | `(tactic| walk_at "setItem ref int") => `(tactic| k_extra "setItem ref int")
local macro_rules | `(tactic| walk_at "call builtin:sorted") => `(tactic| k_extra "call builtin:sorted")
local macro_rules | `(tactic| walk_at "exec For Name Call cons nil") => `(tactic| (k_here; (rename Fr _ _ _ _ => lF'); (with_unfolding_all refine' For_invVF lF' ?k1 ?k2 ?_; (case k1 => exact rfl); (case k2 => exact rfl); k_whole)))
local macro_rules | `(tactic| walk_at "pyIter ref") => `(tactic| refine hold ?_)
structure RunS where
  o : Obj
  kvs : List (Int × Value)
  c : List (Int × Int)
structure RunI where
  o : Obj
  kvs : List (Int × Value)
  c : List (Int × Int)
  f : Int
  t : Tok
section
variable (w : World) (mean : ExcName → Option Value) (mg mb : Str → Option Value) (ρ : List Int) (Dr : Addr) (rs : List Value) (rc : Nat) (hr : IntsAre rs ρ) (hl : ρ.length = 12)
include hr hl
theorem runs : ClmO w mean mg mb 80 30 [(Dr, W.listOf rs.toArray rc)] [.ref Dr] (RetP fun ns => ns.Perm ((runsD ρ 6).map (·.2)) ∧ ns.Pairwise (· ≤ ·)) := by
  dsimp only [ClmO, RetP, K0, PG, LW, List.cons_append, List.nil_append]; w_top off; k_fill; k_with_none; intro news dp un gd cn cs aa ccd cl outer A₀ base h₀ L m s Q E hB hF hK hN hT hcs hdp hun hret
  refine wpAny_call ?_
  k_dflt cell_enter
  k_steps
  unfold Hold
  rename IsRange _ _ _ _ _ _ _ _ => hR
  rename_i g' L' h3 FG hB' hK' hT' d' h2 o' lo' hs' fs' hi' fi' hlt h1 F1 N1 h' tk1 t1 u1 v1 F N hkp
  clear F1 N1
  k_dflt (refine' kst_range (σ := RunS) (fun c => (d', c.o) :: (Dr, W.listOf rs.toArray rc) :: news) (fun _ => []) (fun c => c.o.IsDictOf (intKind PG w) c.kvs ∧ PyProof.V.FlatPairs PyData.int c.kvs (kdfD c.c)) [Str.ofString "first", Str.ofString "place", Str.ofString "last"] (fun pre c => c.c = runsD ρ pre.length) ⟨o', [], []⟩ (n := 6) rfl hR ?hsm ?hn F N ⟨hi', fi'⟩ (fun p hp => by cases hp) ?hp ?turn ?done)
  case hsm => rw [hl]; decide
  case hn => rw [hl]; rfl
  case hp => rfl
  case done =>
    intro c u h tk hf hp F N
    obtain ⟨o, kvs, c⟩ := c
    obtain ⟨hd1, hd2⟩ := hf
    dsimp only [kstB] at hp F N hd1 hd2
    rw [rangeKs_length] at hp
    dsimp only
    have hc57 := runsD_len6 ρ
    rw [← hp] at hc57
    subst hp
    k_with_none
    k_with "call builtin:sorted" => (k_dflt (refine' sorted_vals (c := runsD ρ 6) rfl ?k1 ?k2 (.head _) ?k3 ?k4 ?_); (case k1 => k_asm); (case k2 => k_asm); (case k3 => exact TabAt.ofNews (by k_asm) (by k_mem) (by k_asm) (by k_asm) (by k_asm)); (case k4 => omega); intro D9 vs9 ns9 n9 h9 tk9 F9 N9 hlt9 hI9 hP9 hS9; (try dsimp only); (try k_fold))
    k_steps
    rename News h₀ L _ _ => kN
    exact hret D9 vs9 ns9 n9 h9 tk9 (by k_asm) (kst_newsOf kN fun p hp => List.mem_cons.mpr ((List.mem_cons.mp hp).imp_right fun q => .tail _ (.tail _ q))) (fun p hp => hlt9 p (.tail _ (.tail _ hp))) hI9 ⟨hP9, hS9⟩
  intro c pre k t u h tk own hk hlt6 hoff hf hp F N
  obtain ⟨o, kvs, c⟩ := c
  obtain ⟨hd1, hd2⟩ := hf
  dsimp only [kstB] at hp F N hd1 hd2
  simp only [List.cons_append, List.map_cons] at N hoff
  dsimp only
  obtain ⟨hltD, hltN⟩ := hlt
  obtain ⟨nw, hnw⟩ : ∃ nw, nw = news ++ own := ⟨_, rfl⟩
  have hnwd : ∀ p ∈ ((Dr, W.listOf rs.toArray rc) :: nw), p.1 ≠ d' := by
    intro p hp
    rcases List.mem_cons.mp hp with rfl | hp
    · exact Nat.ne_of_lt hltD
    · rw [hnw] at hp
      rcases List.mem_append.mp hp with hp | hp
      · exact Nat.ne_of_lt (kst_ltOf hltN p hp)
      · exact hoff p hp _ (.head _)
  have hsub : ∀ p ∈ news, p ∈ nw := fun p hp => by rw [hnw]; exact List.mem_append_left _ hp
  have hsubo : ∀ p ∈ own, p ∈ nw := fun p hp => by rw [hnw]; exact List.mem_append_right _ hp
  rw [← hnw] at N
  clear hnw
  have hcl : c.length ≤ 60 := by rw [hp]; have := runsD_len ρ pre.length (by omega); omega
  k_steps
  unfold Hold
  rename IsRange _ _ _ _ _ _ _ _ => hR2
  rename Fr _ _ _ _ => F3
  rename News _ _ _ _ => N3
  rename_i h5 F4 N4 h6 tk6 t6 u6 v6 hkp6
  clear F4 N4
  obtain ⟨q, hq⟩ : ∃ q, q = pre.length + 1 := ⟨_, rfl⟩
  have hkq : k = (q : Nat) := by omega
  have hq1 : 1 ≤ q ∧ q ≤ 6 := by omega
  subst hkq
  k_dflt (refine' kst_range (σ := RunI) (fun c => (d', c.o) :: (Dr, W.listOf rs.toArray rc) :: nw) (fun c => [(Str.ofString "first", .int c.f c.t)]) (fun c => c.o.IsDictOf (intKind PG w) c.kvs ∧ PyProof.V.FlatPairs PyData.int c.kvs (kdfD c.c)) [Str.ofString "last"] (fun pre2 c2 => (c2.f, c2.c) = inner ρ q c pre2.length) ⟨o, kvs, c, 0, _⟩ (n := 13 - q) rfl hR2 ?hsm ?hn F3 N3 ⟨hd1, hd2⟩ ?hk ?hp ?turn2 ?done2)
  case hsm => exact small_one (by omega) (by omega) (by omega) (by omega)
  case hn => rw [rangeSize_nat, hl]; omega
  case hk => (intro p hp; rcases List.mem_singleton.mp hp with rfl; rfl)
  case hp => rfl
  case done2 =>
    intro c2 u2 h7 tk7 hf2 hp2 F N
    obtain ⟨o2, kvs2, c2, f2, t2⟩ := c2
    dsimp only [kstB] at hp2 F N hf2
    rw [rangeKs_length] at hp2
    obtain ⟨hd3, hd4⟩ := hf2
    dsimp only
    k_steps
    refine' kst_end (⟨o2, kvs2, c2⟩ : RunS) F N ?hn ?ho rfl ⟨hd3, hd4⟩ (fun p hp => by cases hp) ?hr ?hp
    case hn => exact fun p hp => List.mem_cons.mpr ((List.mem_cons.mp hp).imp_right fun hp => List.mem_cons.mpr ((List.mem_cons.mp hp).imp_right (hsub p)))
    case ho => exact fun p hp => .tail _ (.tail _ (hsubo p hp))
    case hr => kst_same
    case hp =>
      dsimp only
      rw [List.length_append, List.length_cons, List.length_nil, runsD_succ, ← hp, ← hq, ← hp2]
  intro c2 pre2 k2 t2 u2 h7 tk7 own2 hk2 hlt2 hoff2 hf2 hp2 F N
  obtain ⟨o2, kvs2, c2, f2, tf2⟩ := c2
  obtain ⟨hd3, hd4⟩ := hf2
  dsimp only [kstB] at hp2 F N hd3 hd4
  simp only [List.cons_append, List.map_cons] at N hoff2
  obtain ⟨p2, hp3⟩ : ∃ p2, p2 = pre2.length := ⟨_, rfl⟩
  have hkp2 : k2 = (p2 : Nat) := by omega
  subst hkp2
  rw [← hp3] at hlt2 hp2
  have hin : inner ρ q c (pre2 ++ [(p2 : Int)]).length = inS ρ q (f2, c2) p2 := by
    rw [List.length_append, List.length_cons, List.length_nil, ← hp3, inner_succ, ← hp2]
  have hc2 : c2.length ≤ 80 := by
    have h1 := inner_len ρ q c p2
    rw [← hp2] at h1
    have h2 : c2.length ≤ c.length + p2 := h1
    omega
  have hall : ∀ p ∈ ((Dr, W.listOf rs.toArray rc) :: (nw ++ own2)), p.1 ≠ d' := by
    intro p hp
    rcases List.mem_cons.mp hp with rfl | hp
    · exact hnwd _ (.head _)
    · rcases List.mem_append.mp hp with hp | hp
      · exact hnwd p (.tail _ hp)
      · exact hoff2 p hp _ (.head _)
  have hn9 : ∀ (o : Obj), ∀ p ∈ ((d', o) :: (Dr, W.listOf rs.toArray rc) :: nw), p ∈ ((d', o) :: (Dr, W.listOf rs.toArray rc) :: (nw ++ own2)) := fun o p hp =>
    List.mem_cons.mpr ((List.mem_cons.mp hp).imp_right fun hp => List.mem_cons.mpr ((List.mem_cons.mp hp).imp_right fun hp => List.mem_append_left _ hp))
  have ho9 : ∀ (o : Obj), ∀ p ∈ own2, p ∈ ((d', o) :: (Dr, W.listOf rs.toArray rc) :: (nw ++ own2)) := fun o p hp => .tail _ (.tail _ (List.mem_append_right _ hp))
  dsimp only
  k_with_none
  k_with "setItem ref int" => (k_dflt (refine' kdf_setItem (c := c2) ?k1 ?k2 (.head hall) hd3 hd4 ?k3 ?_); (case k1 => k_asm); (case k2 => k_asm); (case k3 => omega); k_whole; intro h9 o9 kvs9 F9 N9 hd9 hf9; (try dsimp only at N9); (try k_sweep))
  k_steps
  all_goals (rename Fr _ _ _ _ => F9; rename News _ _ _ _ => N9)
  all_goals first
    | (refine' kst_end (⟨o9, kvs9, _, _, _⟩ : RunI) F9 N9 (hn9 _) (ho9 _) rfl ⟨hd9, hf9⟩ ?hk ?hr ?hp
       case hk => (intro p hp; rcases List.mem_singleton.mp hp with rfl; rfl)
       case hr => kst_same
       case hp => (dsimp only; rw [hin]; exact (inS_put (by first | exact .inl (by omega) | exact .inr (two_ne (by assumption))) (by assumption) (by assumption)).symm))
    | (refine' kst_end (⟨o2, kvs2, c2, _, _⟩ : RunI) F9 N9 (hn9 _) (ho9 _) rfl ⟨hd3, hd4⟩ ?hk ?hr ?hp
       case hk => (intro p hp; rcases List.mem_singleton.mp hp with rfl; rfl)
       case hr => kst_same
       case hp => (dsimp only; rw [hin]; exact (inS_no (by first | exact .inl (by omega) | exact .inr (two_ne (by assumption))) (by first | exact .inl (by assumption) | exact .inr (by assumption))).symm))
    | (refine' kst_end (⟨o2, kvs2, c2, _, _⟩ : RunI) F9 N9 (hn9 _) (ho9 _) rfl ⟨hd3, hd4⟩ ?hk ?hr ?hp
       case hk => (intro p hp; rcases List.mem_singleton.mp hp with rfl; rfl)
       case hr => kst_same
       case hp => (dsimp only; rw [hin]; exact (inS_same (by omega) (two_eq (by assumption))).symm))
end
end Mine
end
end
section
open PySem PySem.W PyProof.Rows
set_option maxRecDepth 100000
set_option maxHeartbeats 1500000
noncomputable section
namespace Mine
section
variable {prog : Program} {w : World} {A : Around} {E : Value → Shared → Prop} {s : Shared} {h₀ : Heap} {L : Addr} {m : Str → Option Value} {news : List (Addr × Obj)}
theorem enum_made {as : List Int} {l : Addr} {vs : List Value} {c : Nat} {Q : Value → Shared → Prop} (hh : A.handled = none) (hi : IntsAre vs as)
    (F : Fr h₀ L s.heap m) (N : News h₀ L s.heap ((l, W.listOf vs.toArray c) :: news)) (hlt : ∀ q ∈ news, q.1 < l)
    (h : ∀ h' e, Fr h₀ L h' m → News h₀ L h' news → PairSrcL prog w A E h₀ L ItemKind.int as (.ref e) { s with heap := h' } m news → Q (.ref e) { s with heap := h' }) :
    wpAny (model prog w) A (call (.type "enumerate") [.ref l]) Q E s := by
  have z := N _ (.head _)
  have hls : s.heap.IsList l vs.toArray := ⟨_, z.1, rfl, c, rfl⟩
  have hLs : L < s.heap.objs.size := F.ns.lt
  have hab : h₀.objs.size ≤ L := F.above
  refine call_enumerate_list hls fun h' he hit hsz hk => ?_
  have F' : Fr h₀ L h' m := ⟨F.ns.keeps hk, fun b o e => hk b o (F.keep b o e), F.above⟩
  have N' : News h₀ L h' news := fun p hp => ⟨hk _ _ (N p (.tail _ hp)).1, (N p (.tail _ hp)).2⟩
  refine h h' _ F' N' fun env hL => ?_
  subst hL
  have hl2 : l < s.heap.objs.size := Heap.lt_size z.1
  refine enumSrc (Draws.list (A := A.in1) hh s.heap.objs.size l (Nat.ne_of_lt hl2) vs.toArray) he ⟨hit, hls.at fun o e => hk l o e⟩ (Nat.succ_ne_self _) ?_ (by simp) ?_
    (Heap.get?_none_of_le (Nat.le_trans hab (Nat.le_of_lt (Nat.lt_succ_of_lt hLs)))) (Heap.get?_none_of_le (Nat.le_trans hab (Nat.le_of_lt hLs))) ?_ (by simp [hi.length]) (fun i x hx => hi.areOf.get i x (by simpa using hx)) F' N'
  · intro hm
    rcases List.mem_cons.mp hm with e | hm
    · exact Nat.succ_ne_self _ e
    · exact Nat.ne_of_gt (Nat.lt_succ_of_lt hl2) (List.mem_singleton.mp hm)
  · intro hm
    rcases List.mem_cons.mp hm with e | hm
    · exact Nat.ne_of_lt (Nat.lt_succ_of_lt hLs) e
    · rcases List.mem_cons.mp hm with e | hm
      · exact Nat.ne_of_lt hLs e
      · exact z.2.1 (List.mem_singleton.mp hm).symm
  · intro b hb q hq e
    have hq1 : q.1 < s.heap.objs.size := Heap.lt_size (N q (.tail _ hq)).1
    rcases List.mem_cons.mp hb with e1 | hb
    · exact Nat.ne_of_gt (Nat.lt_succ_of_lt hq1) (e1.symm.trans e)
    · rcases List.mem_cons.mp hb with e1 | hb
      · exact Nat.ne_of_gt hq1 (e1.symm.trans e)
      · have e2 := List.mem_singleton.mp hb
        exact Nat.ne_of_lt (hlt q hq) (e.symm.trans e2)
/-- the cells at the turn's end -/
noncomputable def CellsEnd (h₀ : Heap) (L lc : Addr) (rest own : List (Addr × Obj)) (xi xc : Str) (m : Str → Option Value) (s₁ s₂ : Shared) : Prop :=
  ∃ h' tk' m' vs cs c, s₂ = { s₁ with heap := h', toks := tk' } ∧ Fr h₀ L h' m' ∧ News h₀ L h' ((lc, W.listOf vs.toArray c) :: (rest ++ own)) ∧ (∀ z, z ≠ xc → z ≠ xi → m' z = m z) ∧ IntsAre vs cs ∧ cs.length = 13 ∧ ∀ x ∈ cs, 0 ≤ x
noncomputable def CellsPost (h₀ : Heap) (L lc : Addr) (rest own : List (Addr × Obj)) (xi xc : Str) (m : Str → Option Value) (s₁ : Shared) (Q : Flow → Shared → Prop) (f : Flow) (s₂ : Shared) : Prop :=
  match f with
  | .ret v => Q (.ret v) s₂
  | .brk => Q .next s₂
  | _ => CellsEnd h₀ L lc rest own xi xc m s₁ s₂
theorem enum_cells {env : Env} {as : List Int} {xv : Value} {lc : Addr} {vs0 : List Value} {cs0 : List Int} {c0 : Nat} {rest : List (Addr × Obj)} {xi xc : Str} {body : List Stmt} {Q : Flow → Shared → Prop}
    (S : PairSrcL prog w A E h₀ env.locals ItemKind.int as xv s m ((lc, W.listOf vs0.toArray c0) :: rest)) (hI : IntsAre vs0 cs0) (h13 : cs0.length = 13) (hpos : ∀ x ∈ cs0, 0 ≤ x) (hrest : ∀ p ∈ rest, p.1 ≠ lc)
    (turn : ∀ (i : Nat) a t tv vs cs c h tk own, as[i]? = some a → IntsAre vs cs → cs.length = 13 → (∀ x ∈ cs, 0 ≤ x) → (∀ p ∈ rest ++ own, p.1 ≠ lc) →
      Fr h₀ env.locals h (fun y => if y = xc then some (.int a tv) else if y = xi then some (.int i t) else m y) → News h₀ env.locals h ((lc, W.listOf vs.toArray c) :: (rest ++ own)) →
      wpAny (model prog w) A (execs body env) (CellsPost h₀ env.locals lc rest own xi xc m { s with heap := h, toks := tk } Q) E { s with heap := h, toks := tk })
    (done : ∀ vs cs c h tk (m' : Str → Option Value), IntsAre vs cs → cs.length = 13 → (∀ x ∈ cs, 0 ≤ x) → (∀ z, z ≠ xc → z ≠ xi → m' z = m z) → Fr h₀ env.locals h (fun y => if y = xc then m' y else if y = xi then m' y else m y) → News h₀ env.locals h ((lc, W.listOf vs.toArray c) :: rest) → Q .next { s with heap := h, toks := tk }) :
    wpAny (model prog w) A (pyIter xv) (fun it s₂ => PairAt3 prog w A h₀ env xi xc body Q E it s₂) E s := by
  refine S env rfl xi xc body Q (fun i m₁ news₁ => (∀ z, z ≠ xc → z ≠ xi → m₁ z = m z) ∧ ∃ vs cs c, news₁ = (lc, W.listOf vs.toArray c) :: rest ∧ IntsAre vs cs ∧ cs.length = 13 ∧ ∀ x ∈ cs, 0 ≤ x) ⟨fun _ _ _ => rfl, vs0, cs0, c0, rfl, hI, h13, hpos⟩ ?_ ?_
  · rintro i a t v m₁ news₁ s₁ own ⟨h, tk, rfl⟩ hai ⟨tv, rfl⟩ ⟨hm, vs, cs, c, rfl, h1, h2, h3⟩ _ hoff F₁ N₁
    have eF : (fun y => if y = xc then some (Value.int a tv) else if y = xi then some (Value.int i t) else m₁ y) = fun y => if y = xc then some (Value.int a tv) else if y = xi then some (Value.int i t) else m y := by
      funext y
      by_cases e1 : y = xc
      · rw [if_pos e1, if_pos e1]
      · rw [if_neg e1, if_neg e1]
        by_cases e2 : y = xi
        · rw [if_pos e2, if_pos e2]
        · rw [if_neg e2, if_neg e2]; exact hm y e1 e2
    have F₂ : Fr h₀ env.locals h (fun y => if y = xc then some (Value.int a tv) else if y = xi then some (Value.int i t) else m y) := eF ▸ F₁
    have N₂ : News h₀ env.locals h ((lc, W.listOf vs.toArray c) :: (rest ++ own)) := fun p hp => N₁ p (by
      rcases List.mem_cons.mp hp with rfl | hp
      · exact List.mem_append_right _ (.head _)
      · rcases List.mem_append.mp hp with hp | hp
        · exact List.mem_append_right _ (.tail _ hp)
        · exact List.mem_append_left _ hp)
    refine wpAny_mono (turn i a t tv vs cs c h tk own hai h1 h2 h3 (fun p hp => ?_) F₂ N₂) (fun f s₂ hf => ?_) fun _ _ e => e
    · rcases List.mem_append.mp hp with hp | hp
      · exact hrest p hp
      · exact hoff p hp _ (.head _)
    · have fin : CellsEnd h₀ env.locals lc rest own xi xc m { s with heap := h, toks := tk } s₂ → LoopStep2 h₀ env.locals own ((lc, W.listOf vs.toArray c) :: rest) (fun m₁ news₁ => (∀ z, z ≠ xc → z ≠ xi → m₁ z = m z) ∧ ∃ vs cs c, news₁ = (lc, W.listOf vs.toArray c) :: rest ∧ IntsAre vs cs ∧ cs.length = 13 ∧ ∀ x ∈ cs, 0 ≤ x) { s with heap := h, toks := tk } .next s₂ := by
        rintro ⟨h', tk', m', vs', cs', c', rfl, F', N', hm', h1', h2', h3'⟩
        refine ⟨rfl, h', tk', m', (lc, W.listOf vs'.toArray c') :: rest, rfl, F', fun p hp => N' p ?_, rfl, hm', vs', cs', c', rfl, h1', h2', h3'⟩
        rcases List.mem_append.mp hp with hp | hp
        · exact .tail _ (List.mem_append_right _ hp)
        · rcases List.mem_cons.mp hp with rfl | hp
          · exact .head _
          · exact .tail _ (List.mem_append_left _ hp)
      cases f with
      | ret v => exact hf
      | brk => exact hf
      | next => exact fin hf
      | cont => exact fin hf
  · rintro h' tk m' news' F' N' _ ⟨hm, vs, cs, c, rfl, h1, h2, h3⟩
    refine done vs cs c h' tk m' h1 h2 h3 hm ?_ N'
    have e : (fun y => if y = xc then m' y else if y = xi then m' y else m y) = m' := by
      funext y
      by_cases e1 : y = xc
      · rw [if_pos e1]
      · rw [if_neg e1]
        by_cases e2 : y = xi
        · rw [if_pos e2]
        · rw [if_neg e2]; exact (hm y e1 e2).symm
    rw [e]; exact F'
theorem fmod_nn (a : Int) {b : Int} (h : 0 < b) : 0 ≤ a.fmod b := by rw [Int.fmod_eq_emod_of_nonneg _ (Int.le_of_lt h)]; exact Int.emod_nonneg _ (Int.ne_of_gt h)
theorem fmod_lt (a : Int) {b : Int} (h : 0 < b) : a.fmod b < b := by rw [Int.fmod_eq_emod_of_nonneg _ (Int.le_of_lt h)]; exact Int.emod_lt_of_pos _ h
theorem getD_nn {cs : List Int} (h : ∀ x ∈ cs, 0 ≤ x) (j : Nat) : 0 ≤ cs.getD j 0 := by
  rcases Nat.lt_or_ge j cs.length with q | q
  · have e : cs.getD j 0 = cs[j] := by simp [q]
    rw [e]; exact h _ (List.getElem_mem q)
  · have e : cs.getD j 0 = 0 := by simp [q]
    rw [e]; exact Int.le_refl _
theorem set_nn {cs : List Int} (h : ∀ x ∈ cs, 0 ≤ x) {j : Nat} {v : Int} (hv : 0 ≤ v) : ∀ x ∈ cs.set j v, 0 ≤ x := fun x hx =>
  (List.mem_or_eq_of_mem_set hx).elim (h x) fun e => e ▸ hv
theorem idx_ok {k sz : Int} (h : 0 < sz) (h2 : sz ≤ 12) : 0 ≤ 1 + k.fmod sz ∧ 1 + k.fmod sz < 13 := by
  have a := fmod_nn k h
  have b := fmod_lt k h
  omega
noncomputable def RowJ (h₀ : Heap) (L : Addr) (m : Str → Option Value) (D : Addr) (rest : List (Addr × Obj)) (s s' : Shared) : Prop :=
  ∃ vs' ρ c h' tk', s' = { s with heap := h', toks := tk' } ∧ Fr h₀ L h' m ∧ News h₀ L h' ((D, W.listOf vs'.toArray c) :: rest) ∧ IntsAre vs' ρ ∧ ρ.length = 12 ∧ ∀ x ∈ ρ, 0 ≤ x ∧ x < 3
theorem join_row {env : Env} {st : Stmt} {more : List Stmt} {D : Addr} {ys : List Value} {ns : List Int} {c0 : Nat} {rest : List (Addr × Obj)} {Q : Flow → Shared → Prop} (F : Fr h₀ L s.heap m) (N : News h₀ L s.heap ((D, W.listOf ys.toArray c0) :: rest)) (hI : IntsAre ys ns) (h12 : ns.length = 12) (h3 : ∀ x ∈ ns, 0 ≤ x ∧ x < 3)
    (h1 : wpAny (model prog w) A (exec st env) (fun f s' => f = .next ∧ RowJ h₀ L m D rest s s') E s)
    (h2 : ∀ vs' ρ c h' tk', Fr h₀ L h' m → News h₀ L h' ((D, W.listOf vs'.toArray c) :: rest) → IntsAre vs' ρ → ρ.length = 12 → (∀ x ∈ ρ, 0 ≤ x ∧ x < 3) → wpAny (model prog w) A (execs more env) Q E { s with heap := h', toks := tk' }) :
    wpAny (model prog w) A (exec st env) (fun f s' => match f with | .next => wpAny (model prog w) A (execs more env) Q E s' | f => Q f s') E s := by
  refine wpAny_mono h1 (fun f s' hf => ?_) fun _ _ e => e
  obtain ⟨rfl, vs', ρ, c, h', tk', rfl, F', N', a1, a2, a3⟩ := hf
  exact h2 vs' ρ c h' tk' F' N' a1 a2 a3
noncomputable def Pl (c : Nat) : Prop := c = 40 ∨ c = 41 ∨ c = 42 ∨ c = 43 ∨ c = 44 ∨ c = 45 ∨ c = 46 ∨ c = 47 ∨ c = 58 ∨ c = 59
theorem sign_item (k : Int) : ∃ sg, Pl sg ∧ Txt.item (Str.ofString "()*+,-./:;") (k.fmod 10) ++ Str.ofString "<>" = ⟨#[sg, 60, 62]⟩ := by
  have a := fmod_nn k (b := 10) (by decide)
  have b := fmod_lt k (b := 10) (by decide)
  have hh : k.fmod 10 = 0 ∨ k.fmod 10 = 1 ∨ k.fmod 10 = 2 ∨ k.fmod 10 = 3 ∨ k.fmod 10 = 4 ∨ k.fmod 10 = 5 ∨ k.fmod 10 = 6 ∨ k.fmod 10 = 7 ∨ k.fmod 10 = 8 ∨ k.fmod 10 = 9 := by omega
  rcases hh with e | e | e | e | e | e | e | e | e | e <;> rw [e]
  · exact ⟨40, by unfold Pl; omega, by decide +kernel⟩
  · exact ⟨41, by unfold Pl; omega, by decide +kernel⟩
  · exact ⟨42, by unfold Pl; omega, by decide +kernel⟩
  · exact ⟨43, by unfold Pl; omega, by decide +kernel⟩
  · exact ⟨44, by unfold Pl; omega, by decide +kernel⟩
  · exact ⟨45, by unfold Pl; omega, by decide +kernel⟩
  · exact ⟨46, by unfold Pl; omega, by decide +kernel⟩
  · exact ⟨47, by unfold Pl; omega, by decide +kernel⟩
  · exact ⟨58, by unfold Pl; omega, by decide +kernel⟩
  · exact ⟨59, by unfold Pl; omega, by decide +kernel⟩
theorem row_b {g : Int → Int} {l : List Int} : ∀ x ∈ l.map (fun k => (g k).fmod 3), 0 ≤ x ∧ x < 3 := by
  intro x hx
  obtain ⟨k, _, rfl⟩ := List.mem_map.mp hx
  exact ⟨fmod_nn _ (by decide), fmod_lt _ (by decide)⟩
theorem set_b {cs : List Int} (h : ∀ x ∈ cs, 0 ≤ x ∧ x < 3) {j : Nat} {v : Int} : ∀ x ∈ cs.set j (v.fmod 3), 0 ≤ x ∧ x < 3 := fun x hx =>
  (List.mem_or_eq_of_mem_set hx).elim (h x) fun e => e ▸ ⟨fmod_nn _ (by decide), fmod_lt _ (by decide)⟩
end
end Mine
end
end
section
open PySem PySem.W PyProof.Rows
set_option maxRecDepth 100000
set_option maxHeartbeats 1500000
noncomputable section
namespace Mine
open PySem.Calls PyProof.V PySem.Spec LCg
section
variable {prog : Program} {w : World} {A : Around} {E : Value → Shared → Prop} {s : Shared} {h₀ : Heap} {L : Addr} {m : Str → Option Value} {news : List (Addr × Obj)} {env : Env} {elt : Expr} {x : Str} {scope : Scope} {cl : List (Str × Addr)}
noncomputable def KEl (news : List (Addr × Obj)) (G : Value → Prop) (y : Value) (news' : List (Addr × Obj)) : Prop := news' = news ∧ G y
theorem comp_all {S : List (Addr × Obj) → Prop} {P : Nat → Value → Prop} {Fin : List Value → List (Addr × Obj) → Prop} {n : Nat} (G : Nat → Value → Prop)
    (turn : ∀ i v I oI C oC D m₂ ys h tk (E' : Value → Shared → Prop), i < n → P i v → LCg.NsObj oC m₂ → m₂ x = some v → Fr h₀ L h m → News h₀ L h ((I, oI) :: (C, oC) :: (D, LCg.lst ys) :: news) → LCg.Off3 I C D news → ((@Ne Nat I C) ∧ (@Ne Nat I D) ∧ (@Ne Nat C D)) →
      wpAny (model prog w) A (eval elt (compEnvC scope cl C env)) (LCg.CompEnd h₀ L m { s with heap := h, toks := tk } I oI C oC D (LCg.lst ys) S (KEl news (G i))) E' { s with heap := h, toks := tk })
    (fin : ∀ ys : List Value, ys.length = n → (∀ i y, ys[i]? = some y → G i y) → Fin ys news) : LCg.CompRest prog w A h₀ L m env elt x scope cl s S P Fin n 0 [] news := by
  have key : ∀ (j i : Nat) (ys : List Value), i + j = n → ys.length = i → (∀ k y, ys[k]? = some y → G k y) → LCg.CompRest prog w A h₀ L m env elt x scope cl s S P Fin j i ys news := by
    intro j
    induction j with
    | zero =>
      intro i ys hi hl hy
      exact LCg.CompRest.zero (fin ys (by omega) hy)
    | succ j ih =>
      intro i ys hi hl hy
      refine LCg.CompRest.succ ?_
      intro v I oI C oC D m₂ h tk E' hv hC hx F N off ne
      refine wpAny_mono (turn i v I oI C oC D m₂ ys h tk E' (by omega) hv hC hx F N off ne) (fun y s₂ hq => ?_) fun _ _ e => e
      obtain ⟨h', tk', nw, e, F', N', off', hS, hn, hG⟩ := hq
      rw [hn] at N' off' hS
      refine ⟨h', tk', news, e, F', N', off', hS, ih (i + 1) _ (by omega) (by rw [List.length_append, hl]; rfl) fun k z hz => ?_⟩
      rcases Nat.lt_trichotomy k i with q | q | q
      · rw [List.getElem?_append_left (by omega)] at hz; exact hy k z hz
      · subst q
        rw [List.getElem?_append_right (by omega), hl, Nat.sub_self] at hz
        simp at hz; subst hz; exact hG
      · rw [List.getElem?_eq_none (by rw [List.length_append, hl]; simp; omega)] at hz; cases hz
  exact key n 0 [] (by omega) rfl (fun k y hk => by simp at hk)
theorem el_ints {ys : List Value} {ns : List Int} (hl : ys.length = ns.length) (h : ∀ i y, ys[i]? = some y → ∃ t, y = Value.int (ns.getD i 0) t) : IntsAre ys ns :=
  kdy_ints hl fun j v hv => by
    obtain ⟨t, e⟩ := h j v hv
    have hj : j < ns.length := by rw [← hl]; exact (List.getElem?_eq_some_iff.mp hv).1
    exact ⟨ns.getD j 0, by simp [hj], t, e⟩
theorem el_strs {ys : List Value} {ns : List Str} (hl : ys.length = ns.length) (h : ∀ i y, ys[i]? = some y → ∃ t, y = Value.str (ns.getD i Str.empty) t) : StrsAre ys ns :=
  kdy_strs hl fun j v hv => by
    obtain ⟨t, e⟩ := h j v hv
    have hj : j < ns.length := by rw [← hl]; exact (List.getElem?_eq_some_iff.mp hv).1
    exact ⟨ns.getD j Str.empty, by simp [hj], t, e⟩
/-- a list comprehension over the signs of a text -/
theorem ListComp_S {iter : Expr} {px : Pos} {pos : Pos} {Q : Value → Shared → Prop} {n : Nat} (_F₀ : Fr h₀ L s.heap m) (_N₀ : News h₀ L s.heap news) (hh : A.handled = none) (G : Str → Nat → Value → Prop)
    (hclos : closureFor scope env = pure cl) (hcell : ∀ y ∈ scope.names, y.2 ≠ .cell) (hkind : scope.kind = .function)
    (hnames : ∀ y ∈ scope.names, y.2 = .local → scope.names.lookup y.1 = some .local) (hx : scope.names.lookup x = some .local)
    (h : wpAny (model prog w) A (eval iter env) (fun xv s₁ => ∃ (X : Str) (t : Tok), xv = .str X t ∧ X.cps.size = n ∧ n ≤ sizeLine ∧ Fr h₀ L s₁.heap m ∧ News h₀ L s₁.heap news ∧
      (∀ i v I oI C oC D m₂ ys h tk (E' : Value → Shared → Prop), i < n → SignAt X i v → LCg.NsObj oC m₂ → m₂ x = some v → Fr h₀ L h m → News h₀ L h ((I, oI) :: (C, oC) :: (D, LCg.lst ys) :: news) → LCg.Off3 I C D news → ((@Ne Nat I C) ∧ (@Ne Nat I D) ∧ (@Ne Nat C D)) →
        wpAny (model prog w) A (eval elt (compEnvC scope cl C env)) (LCg.CompEnd h₀ L m { s₁ with heap := h, toks := tk } I oI C oC D (LCg.lst ys) (fun _ => True) (KEl news (G X i))) E' { s₁ with heap := h, toks := tk }) ∧
      (∀ ys : List Value, ys.length = n → (∀ i y, ys[i]? = some y → G X i y) → ∀ D h tk, Fr h₀ L h m → News h₀ L h ((D, LCg.lst ys) :: news) → LCg.Off1 D news → Q (.ref D) { s₁ with heap := h, toks := tk })) E s)
    (hs : ∀ x, foldedSetIterable iter env x = pure x := by intro _; rfl) :
    wpAny (model prog w) A (eval (.ListComp elt [⟨.Name x px, iter, [], 0⟩] scope pos) env) Q E s := by
  rw [eval_ListComp]
  refine wpAny_comprehension_free (use := none) rfl hs hclos hkind hnames (wpAny_mono h (fun xv s₁ h₁ => ?_) fun _ _ e => e)
  obtain ⟨X, t, rfl, hX, hsz, F, N, turn, fin⟩ := h₁
  cases ha : X.cps.all (· < 128)
  · refine wpAny_pyIter_wide ha ?_
    refine block_U (S := fun _ => True) (Walks.strWide hh s₁.heap.objs.size X t) (by rw [hX]; exact hsz) (fun i h st => by obtain ⟨o, e, _⟩ := st; exact ⟨o, e⟩)
      (fun i h h' o nw st e e' _ _ _ => by obtain ⟨o', e1, r⟩ := st; rw [e] at e1; cases e1; exact ⟨o, e', r⟩) hcell hkind hx ⟨_, Heap.get?_push_size _ rfl, rfl, rfl⟩ (fun b hb => ?_)
      (F.keeps fun _ _ e => Heap.get?_push_of_some _ e) (N.grown fun _ _ e => Heap.get?_push_of_some _ e) (Nat.ne_of_lt F.ns.lt) (next_is_new F) (fun p hp => Nat.ne_of_lt (Heap.lt_size (N p hp).1)) trivial
      (Fin := fun ys news' => news' = news ∧ ys.length = n ∧ ∀ i y, ys[i]? = some y → G X i y) (by rw [hX]; exact comp_all (G X) turn (fun ys a b => ⟨rfl, a, b⟩)) ?_
    · rw [List.mem_singleton.mp hb]
      show s₁.heap.objs.size < (s₁.heap.push _).objs.size
      rw [Heap.size_push]; exact Nat.lt_succ_self _
    · intro D C h tk m' ys news' F' N' o1 hn hC₀ hD₀ hCL hDL hCD offC hfin
      obtain ⟨rfl, a, b⟩ := hfin
      refine ⟨m', hn, fun h'' hs'' => fin ys a b D h'' tk (F'.change hs'' hCL hC₀) (fun p hp => ?_) o1⟩
      refine ⟨hs''.extBut _ _ ?_ (N' p hp).1, (N' p hp).2⟩
      rcases List.mem_cons.mp hp with rfl | hp
      · exact Ne.symm hCD
      · exact offC p hp
  · refine wpAny_pyIter_ascii ha ?_
    refine block_U (S := fun _ => True) (Walks.strAscii hh s₁.heap.objs.size X t) (by rw [hX]; exact hsz) (fun i h st => by obtain ⟨o, e, _⟩ := st; exact ⟨o, e⟩)
      (fun i h h' o nw st e e' _ _ _ => by obtain ⟨o', e1, r⟩ := st; rw [e] at e1; cases e1; exact ⟨o, e', r⟩) hcell hkind hx ⟨_, Heap.get?_push_size _ rfl, rfl, rfl⟩ (fun b hb => ?_)
      (F.keeps fun _ _ e => Heap.get?_push_of_some _ e) (N.grown fun _ _ e => Heap.get?_push_of_some _ e) (Nat.ne_of_lt F.ns.lt) (next_is_new F) (fun p hp => Nat.ne_of_lt (Heap.lt_size (N p hp).1)) trivial
      (Fin := fun ys news' => news' = news ∧ ys.length = n ∧ ∀ i y, ys[i]? = some y → G X i y) (by rw [hX]; exact comp_all (G X) turn (fun ys a b => ⟨rfl, a, b⟩)) ?_
    · rw [List.mem_singleton.mp hb]
      show s₁.heap.objs.size < (s₁.heap.push _).objs.size
      rw [Heap.size_push]; exact Nat.lt_succ_self _
    · intro D C h tk m' ys news' F' N' o1 hn hC₀ hD₀ hCL hDL hCD offC hfin
      obtain ⟨rfl, a, b⟩ := hfin
      refine ⟨m', hn, fun h'' hs'' => fin ys a b D h'' tk (F'.change hs'' hCL hC₀) (fun p hp => ?_) o1⟩
      refine ⟨hs''.extBut _ _ ?_ (N' p hp).1, (N' p hp).2⟩
      rcases List.mem_cons.mp hp with rfl | hp
      · exact Ne.symm hCD
      · exact offC p hp
end
noncomputable def sgn (sg : Nat) (x : Int) : Nat := if x = 0 then sg else if x = 1 then 60 else 62
theorem item_sgn {sg : Nat} {x : Int} (h : 0 ≤ x ∧ x < 3) : Txt.item ⟨#[sg, 60, 62]⟩ x = ⟨#[sgn sg x]⟩ := by
  have hh : x = 0 ∨ x = 1 ∨ x = 2 := by omega
  rcases hh with rfl | rfl | rfl
  · exact item_meets (by decide) rfl
  · exact item_meets (by decide) rfl
  · exact item_meets (by decide) rfl
theorem getD_b {cs : List Int} (h : ∀ x ∈ cs, 0 ≤ x ∧ x < 3) (j : Nat) : 0 ≤ cs.getD j 0 ∧ cs.getD j 0 < 3 := by
  rcases Nat.lt_or_ge j cs.length with q | q
  · have e : cs.getD j 0 = cs[j] := by simp [q]
    rw [e]; exact h _ (List.getElem_mem q)
  · have e : cs.getD j 0 = 0 := by simp [q]
    rw [e]; decide
theorem strs_at {vs : List Value} {ns : List Str} (h : StrsAre vs ns) {i : Nat} {v : Value} (e : vs.toArray[i]? = some v) : ∃ t, v = .str (ns.getD i Str.empty) t := by
  have e' : vs[i]? = some v := by simpa using e
  obtain ⟨n, t, rfl, hn⟩ := h.item i v e'
  exact ⟨t, by simp [hn]⟩
theorem ints_at {vs : List Value} {ns : List Int} (h : IntsAre vs ns) {i : Nat} {v : Value} (e : vs.toArray[i]? = some v) : ∃ t, v = .int (ns.getD i 0) t := by
  have e' : vs[i]? = some v := by simpa using e
  obtain ⟨n, t, rfl, hn⟩ := h.at i v e'
  exact ⟨t, by simp [hn]⟩
theorem word_strs {sg : Nat} {ρ : List Int} {ys : List Value} (hl : ys.length = ρ.length) (h : ∀ i y, ys[i]? = some y → ∃ t, y = Value.str ⟨#[sgn sg (ρ.getD i 0)]⟩ t) : StrsAre ys ((ρ.map (sgn sg)).map fun k => (⟨#[k]⟩ : Str)) :=
  el_strs (by rw [hl, List.length_map, List.length_map]) fun i y e => by
    obtain ⟨t, rfl⟩ := h i y e
    have hi : i < ρ.length := by rw [← hl]; exact (List.getElem?_eq_some_iff.mp e).1
    exact ⟨t, by simp [hi]⟩
theorem ones_sum : ∀ l : List Nat, ((l.map fun k => (⟨#[k]⟩ : Str)).map (·.length)).sum = l.length
  | [] => rfl
  | k :: r => by
    have ih := ones_sum r
    simp only [List.map_cons, List.sum_cons, List.length_cons, ih]
    show 1 + r.length = _; omega
theorem word_join (l : List Nat) : Txt.join (Str.ofString "") (l.map fun k => (⟨#[k]⟩ : Str)) = ⟨l.toArray⟩ := by
  have e := eq_of_beq (join_plain_closes (Str.ofString "") (l.map fun k => (⟨#[k]⟩ : Str)))
  rw [e, show Str.ofString "" = ⟨#[]⟩ from by decide +kernel, join_ones]
theorem word_eq (l : List Nat) : (⟨l.toArray⟩ : Str) ++ Str.ofString "&" = ⟨(l ++ [38]).toArray⟩ := by
  rw [show Str.ofString "&" = ⟨#[38]⟩ from by decide +kernel]
  exact str_ext (by simp [Str.cps_append])
theorem sgn_sg {sg : Nat} (h : Pl sg) (x : Int) : Sg (sgn sg x) := by
  unfold sgn Sg; unfold Pl at h
  split
  · omega
  · split <;> omega
theorem word_sg {sg : Nat} (h : Pl sg) (ρ : List Int) : ∀ a ∈ ρ.map (sgn sg) ++ [38], Sg a := by
  intro a ha
  rcases List.mem_append.mp ha with ha | ha
  · obtain ⟨x, _, rfl⟩ := List.mem_map.mp ha
    exact sgn_sg h x
  · rw [List.mem_singleton.mp ha]; unfold Sg; omega
theorem hi_of {word : Str} {l : List Nat} (e : word.cps.toList = l) (h : ∀ a ∈ l, Sg a) : Hi word := by
  intro a ha
  rw [e] at ha
  have := h a ha
  unfold Sg at this; omega
theorem len_of {word : Str} {l : List Nat} (e : word.cps.toList = l) : word.length = l.length := by rw [← e]; simp [Str.length]
theorem escS_list (x : Str) : (escS x).cps.toList = escL x.cps.toList := by simp [escS]
theorem enc_len (a : Nat) : (enc a).length ≤ 5 := by unfold enc; (repeat' split) <;> simp
theorem escS_len (x : Str) : (escS x).length ≤ x.length * 5 := by
  rw [len_of (escS_list x)]
  have := len_flat enc_len x.cps.toList
  simpa [escL, Str.length] using this
section
variable {prog : Program} {w : World} {A : Around} {E : Value → Shared → Prop} {s : Shared}
theorem sign_tail {sg : Nat} {value slice : Expr} {k : Int} {t u : Tok} {Q : Value → Shared → Prop} (hk : 0 ≤ k ∧ k < 3) (h : ∀ t', Q (.str ⟨#[sgn sg k]⟩ t') { s with toks := s.toks + 1 })
    (hs : subscripted slice false (.str ⟨#[sg, 60, 62]⟩ t) (.int k u) = operate [.str ⟨#[sg, 60, 62]⟩ t, .int k u] (getItem (.str ⟨#[sg, 60, 62]⟩ t) (.int k u)) := by with_unfolding_all rfl)
    (ht : ∀ r, letTemporaryGo value (.str ⟨#[sg, 60, 62]⟩ t) r = pure () := by intro _; with_unfolding_all rfl) :
    wpAny (model prog w) A (subscriptTail value slice (.str ⟨#[sg, 60, 62]⟩ t) (.int k u)) Q E s := by
  have hl : (⟨#[sg, 60, 62]⟩ : Str).length = 3 := rfl
  refine item_str ?_ (by rw [hl]; omega) (by rw [hl]; omega) (fun _ => by rw [item_sgn hk]; exact h _) hs ht
  simp only [fitsSsize]; simp; omega
end
end Mine
end
end
section
open PySem PySem.W PyProof.Rows
set_option maxRecDepth 100000
set_option maxHeartbeats 1500000
noncomputable section
namespace Mine
open PySem.Builtin PySem.Builtin.Str
theorem find_sign {c : Nat} (hc : Sg c) : Txt.find (Str.ofString "()[]:,;+-*/|&<>=.%") ⟨#[c]⟩ = num c - 7 ∧ (occurrences (Str.ofString "()[]:,;+-*/|&<>=.%") ⟨#[c]⟩ 0 (Str.ofString "()[]:,;+-*/|&<>=.%").length 1).isEmpty = false := by
  rcases hc with rfl | rfl | rfl | rfl | rfl | rfl | rfl | rfl | rfl | rfl | rfl | rfl | rfl <;> exact ⟨by decide +kernel, by decide +kernel⟩
theorem num_get {l : List Nat} {i c : Nat} (h : l[i]? = some c) : 7 + (num c - 7) = (l.map num).getD i 0 := by
  have e : (l.map num).getD i 0 = num c := by simp [h]
  rw [e]; omega
section
variable {prog : Program} {w : World} {A : Around} {E : Value → Shared → Prop} {s : Shared} {Q : Value → Shared → Prop}
theorem idx_sign {c : Nat} {t u : Tok} (hA : A.handled = none) (hc : Sg c) (h : Q (.int (num c - 7) s.toks) { s with toks := s.toks + 1 }) :
    wpAny (model prog w) A (call (.builtin "str.index") [.str (Str.ofString "()[]:,;+-*/|&<>=.%") t, .str ⟨#[c]⟩ u]) Q E s := by
  obtain ⟨a, b⟩ := find_sign hc
  refine index_or hA (fun _ ho => ?_) fun _ _ => ?_
  · rw [b] at ho; cases ho
  · rw [a]; exact h
end
end Mine
end
end
section
open PySem PySem.W PyProof.Rows
set_option maxRecDepth 100000
set_option maxHeartbeats 1500000
noncomputable section
namespace Mine
section
variable {prog : Program} {w : World} {A : Around} {E : Value → Shared → Prop} {s : Shared} {env : Env} {h₀ : Heap} {x : Str} {body : List Stmt} {Q : Flow → Shared → Prop}
/-- a for over a made list of any values, by an invariant over its whole state -/
theorem kst_vals {σ : Type} {l : Addr} {its : Array Value} {n9 : Nat} {m₀ : Str → Option Value} (Led : σ → List (Addr × Obj)) (ps : σ → List (Str × Value)) (Facts : σ → Prop) (stored : List Str) (P : Nat → σ → Prop) (c₀ : σ)
    (hh : A.handled = none) (F : Fr h₀ env.locals s.heap m₀) (N : News h₀ env.locals s.heap ((l, W.listOf its n9) :: Led c₀)) (hlo : ∀ p ∈ Led c₀, p.1 ≠ l) (hf : Facts c₀) (hk : ∀ p ∈ ps c₀, m₀ p.1 = some p.2) (hp : P 0 c₀)
    (turn : ∀ (c : σ) i v (u : Str → Option Value) h tk own, i < its.size → its[i]? = some v → OwnOff own ((Led c₀).map (·.1)) → Facts c → P i c →
      Fr h₀ env.locals h (fun y => if y = x then some v else kstB (fun z => if stored.contains z then u z else m₀ z) (ps c) y) → News h₀ env.locals h (Led c ++ own) →
      wpAny (model prog w) A (execs body env) (InvPostN h₀ env.locals (KstS Led ps Facts x stored m₀ (fun pre c => P pre.length c) (List.replicate (i + 1) 0)) own ((Led c₀).map (·.1)) { s with heap := h, toks := tk } Q) E { s with heap := h, toks := tk })
    (done : ∀ (c : σ) (u : Str → Option Value) h tk, Facts c → P its.size c → Fr h₀ env.locals h (fun y => if y = x then u y else kstB (fun z => if stored.contains z then u z else m₀ z) (ps c) y) → News h₀ env.locals h (Led c) → Q .next { s with heap := h, toks := tk }) :
    wpAny (model prog w) A (pyIter (.ref l)) (fun it s₂ => LoopAtV prog w A h₀ env x body Q E it s₂) E s := by
  have z := N _ (.head _)
  have hls : s.heap.IsList l its := ⟨_, z.1, rfl, n9, rfl⟩
  have hlt : l < s.heap.objs.size := Heap.lt_size z.1
  refine wpAny_pyIter_list hls ?_
  have N' : News h₀ env.locals s.heap (Led c₀) := fun p hp => N p (.tail _ hp)
  refine loop_invN (fun i m nx => KstS Led ps Facts x stored m₀ (fun pre c => P pre.length c) (List.replicate i 0) m nx) (Walks.list hh s.heap.objs.size l (Nat.ne_of_lt hlt) its) ?_ ?_ ?_ ?_ ⟨⟨_, Heap.get?_push_size _ rfl, rfl, rfl⟩, hls.at fun o e => Heap.get?_push_of_some _ e⟩ (F.push _) (fun p hp => ⟨Heap.get?_push_of_some _ (N' p hp).1, (N' p hp).2⟩) ⟨c₀, rfl, hf, hk, fun _ _ _ _ => rfl, by simpa using hp⟩ ?_ ?_
  · intro hm
    rcases List.mem_cons.mp hm with e | hm
    · exact absurd F.ns.lt (e ▸ Nat.lt_irrefl _)
    · exact z.2.1 (List.mem_singleton.mp hm).symm
  · intro b hb
    rw [List.mem_singleton.mp hb]
    exact next_is_new F
  · intro p hp hI
    exact absurd (Heap.lt_size (N' p hp).1) ((List.mem_singleton.mp hI) ▸ Nat.lt_irrefl _)
  · intro p hp hI
    rcases List.mem_cons.mp hI with e | hI
    · exact absurd (Heap.lt_size (N' p hp).1) (e ▸ Nat.lt_irrefl _)
    · exact hlo p hp (List.mem_singleton.mp hI)
  · rintro i v m₁ nx h tk own hi hv _ hoff ⟨c, rfl, hf', h1, h2, hp'⟩ F₁ N₁
    rw [List.length_replicate] at hp'
    exact turn c i v m₁ h tk own hi hv hoff hf' hp' (kst_fr h1 h2 F₁) N₁
  · rintro m₁ nx h tk ⟨c, rfl, hf', h1, h2, hp'⟩ F₁ N₁
    rw [List.length_replicate] at hp'
    exact done c m₁ h tk hf' hp' (kst_frOut h1 h2 F₁) N₁
end
noncomputable def tl (sg : Nat) (ρ : List Int) (i : Nat) : Str := ⟨((ρ.map (sgn sg) ++ [38]).drop i).toArray⟩
noncomputable def tails0 (sg : Nat) (ρ : List Int) : List Str := (List.range 12).map (tl sg ρ)
noncomputable def tails1 (sg : Nat) (ρ : List Int) : List Str := (tails0 sg ρ).map escS
theorem tl_list (sg : Nat) (ρ : List Int) (i : Nat) : (tl sg ρ i).cps.toList = (ρ.map (sgn sg) ++ [38]).drop i := by simp [tl]
theorem tl_slice {sg : Nat} {ρ : List Int} {word : Str} (h : word.cps.toList = ρ.map (sgn sg) ++ [38]) (hl : word.length = 13) {i : Nat} (hi : i < 12) : Txt.slice word (some (0 + (i : Int))) none = tl sg ρ i := by
  rw [slice_from_eq (b := 13) (by omega) (by omega) (by rw [hl]; rfl)]
  refine str_ext ?_
  rw [tl_list, ← h, show (0 + (i : Int)).toNat = i from by omega]
  show ((word.cps.toList.drop i).take (13 - (0 + (i : Int))).toNat) = _
  rw [List.take_of_length_le]
  have := len_of (rfl : word.cps.toList = word.cps.toList)
  rw [List.length_drop]; omega
theorem tails0_len (sg : Nat) (ρ : List Int) : (tails0 sg ρ).length = 12 := by simp [tails0]
theorem tails0_get (sg : Nat) (ρ : List Int) {i : Nat} (h : i < 12) : (tails0 sg ρ).getD i Str.empty = tl sg ρ i := by simp [tails0, h]
theorem tails1_len (sg : Nat) (ρ : List Int) : (tails1 sg ρ).length = 12 := by simp [tails1, tails0_len]
theorem tails1_get (sg : Nat) (ρ : List Int) {i : Nat} (h : i < 12) : (tails1 sg ρ).getD i Str.empty = escS (tl sg ρ i) := by simp [tails1, tails0, h]
end Mine
end
end
section
open PySem PySem.W PyProof.Rows
set_option maxRecDepth 100000
set_option maxHeartbeats 1500000
noncomputable section
namespace Mine
noncomputable def coll (a b : Str) : Int := b2i (decide (b.cps.toList < a.cps.toList)) - b2i (decide (a.cps.toList < b.cps.toList))
section
variable (w : World) (mean : ExcName → Option Value) (mg mb : Str → Option Value)
theorem strcoll (a : Str) (ta : Tok) (b : Str) (tb : Tok) : Clm w mean mg mb 49 20 [.str a ta, .str b tb] (RetV fun t => .int (coll a b) t) := by
  dsimp only [Clm, RetV, K0, PG, LW]; w_top off; k_fill; k_with_none; intros; rename_i hret
  refine wpAny_call ?_
  k_dflt cell_enter
  k_steps
  all_goals exact hret _ _ _ (by k_asm) (by k_asm)
theorem iseof (a : Int) (ta : Tok) : Clm w mean mg mb 59 20 [.int a ta] (RetV fun _ => .bool (a == 0)) := by
  dsimp only [Clm, RetV, K0, PG, LW]; w_top off; k_fill; k_with_none; intros; rename_i hret
  refine wpAny_call ?_
  k_dflt cell_enter
  k_steps
  all_goals exact hret 0 _ _ (by k_asm) (by k_asm)
theorem iseof_yes (a : Int) (ta : Tok) (ha : a = 0) : Clm w mean mg mb 59 20 [.int a ta] (RetV fun _ => .bool true) := by
  have h := iseof w mean mg mb a ta
  rw [show (a == 0) = true from by simpa using ha] at h
  exact h
theorem iseof_no (a : Int) (ta : Tok) (ha : a ≠ 0) : Clm w mean mg mb 59 20 [.int a ta] (RetV fun _ => .bool false) := by
  have h := iseof w mean mg mb a ta
  rw [show (a == 0) = false from by simpa using ha] at h
  exact h
end
section
variable {prog : Program} {w : World} {A : Around} {E : Value → Shared → Prop} {s : Shared} {h₀ : Heap} {L : Addr} {news : List (Addr × Obj)}
theorem item_strs_made {l : Addr} {vs : List Value} {T : List Str} {c : Nat} {value slice : Expr} {k : Int} {u : Tok} {Q : Value → Shared → Prop} (N : News h₀ L s.heap news) (hm : (l, W.listOf vs.toArray c) ∈ news) (hT : StrsAre vs T) (h0 : 0 ≤ k) (h1 : k < T.length) (hfit : k < 2 ^ 63)
    (h : ∀ t, Q (.str (T.getD k.toNat Str.empty) t) s) (hs : subscripted slice false (.ref l) (.int k u) = operate [.ref l, .int k u] (getItem (.ref l) (.int k u)) := by with_unfolding_all rfl) :
    wpAny (model prog w) A (subscriptTail value slice (.ref l) (.int k u)) Q E s := by
  have hl : s.heap.IsList l vs.toArray := ⟨_, (N _ hm).1, rfl, c, rfl⟩
  have hlen := StrsAre.len_eq hT
  have hk : k.toNat < vs.length := by omega
  obtain ⟨y, t, e, hy⟩ := hT.item k.toNat vs[k.toNat] (by simp [hk])
  have hy2 : T.getD k.toNat Str.empty = y := by simp [hy]
  have hx : vs[k.toNat]? = some (.str (T.getD k.toNat Str.empty) t) := by rw [hy2, ← e]; simp [hk]
  exact tail_any hl.typeIs slot_list_getitem.lookup (wpAny_getItem_list hl h0 hfit (by simpa using hx) (h t)) hs
variable {x y : Int} {t u : Tok} {Q : Value → Shared → Prop}
theorem eq_int_yes (hn : x = y) (h : Q (.bool true) s) : wpAny (model prog w) A (compareOp .Eq (.int x t) (.int y u)) Q E s := by
  refine eq_int ?_
  have e : (x == y) = true := by simpa using hn
  rw [e]; exact h
theorem ne_int_no (hn : x = y) (h : Q (.bool false) s) : wpAny (model prog w) A (compareOp .NotEq (.int x t) (.int y u)) Q E s := by
  refine ne_int ?_
  have e : (x != y) = false := by simpa using hn
  rw [e]; exact h
end
end Mine
end
end
section
open PySem PySem.W PyProof.Rows
set_option maxRecDepth 100000
set_option maxHeartbeats 1500000
noncomputable section
namespace Mine
noncomputable def TT (sg : Nat) (ρ : List Int) (o : Nat) : List Str := if o = 0 then tails0 sg ρ else tails1 sg ρ
noncomputable def NN (sg : Nat) (ρ : List Int) : List Int := (ρ.map (sgn sg) ++ [38]).map num
theorem TT_len (sg : Nat) (ρ : List Int) (o : Nat) : (TT sg ρ o).length = 12 := by
  unfold TT; split
  · exact tails0_len _ _
  · exact tails1_len _ _
noncomputable def tA (T : List Str) (i : Nat) : Str := T.getD i Str.empty
noncomputable def nA (N : List Int) (i : Nat) : Int := N.getD i 0
/-- where the first later tail that is less stands -/
noncomputable def NB (T : List Str) (p b : Nat) : Prop := p < b ∧ b ≤ 12 ∧ (∀ j, p < j → j < b → coll (tA T j) (tA T p) = 1) ∧ (b < 12 → coll (tA T b) (tA T p) ≠ 1)
noncomputable def LeftX (N : List Int) (q p f : Nat) : Prop := f ≤ p ∧ (∀ i, f ≤ i → i < p → nA N i = nA N (i + q)) ∧ (0 < f → nA N (f - 1) ≠ nA N (f - 1 + q))
noncomputable def RightX (N : List Int) (q b l : Nat) : Prop := b ≤ l ∧ l ≤ 12 ∧ (∀ i, b ≤ i → i < l → nA N i = nA N (i - q)) ∧ (l < 12 → nA N l ≠ nA N (l - q))
structure Cand (T : List Str) (N : List Int) (p b f l : Nat) : Prop where
  nb : NB T p b
  left : LeftX N (b - p) p f
  right : RightX N (b - p) b l
  long : 2 * (b - p) ≤ l - f
noncomputable def val (f l q : Nat) : Int := 400 * (f : Int) + 20 * (l : Int) + (q : Int)
noncomputable def Bef (o p o' p' : Nat) : Prop := (o' < o ∧ p' < 12) ∨ (o' = o ∧ p' < p)
theorem NB.uniq {T : List Str} {p b b' : Nat} (h : NB T p b) (h' : NB T p b') : b = b' := by
  obtain ⟨a1, a2, a3, a4⟩ := h
  obtain ⟨c1, c2, c3, c4⟩ := h'
  rcases Nat.lt_trichotomy b b' with q | q | q
  · exact absurd (c3 b a1 q) (a4 (by omega))
  · exact q
  · exact absurd (a3 b' c1 q) (c4 (by omega))
theorem LeftX.uniq {N : List Int} {q p f f' : Nat} (h : LeftX N q p f) (h' : LeftX N q p f') : f = f' := by
  obtain ⟨a1, a2, a3⟩ := h
  obtain ⟨c1, c2, c3⟩ := h'
  rcases Nat.lt_trichotomy f f' with g | g | g
  · exact absurd (a2 (f' - 1) (by omega) (by omega)) (c3 (by omega))
  · exact g
  · exact absurd (c2 (f - 1) (by omega) (by omega)) (a3 (by omega))
theorem RightX.uniq {N : List Int} {q b l l' : Nat} (h : RightX N q b l) (h' : RightX N q b l') : l = l' := by
  obtain ⟨a1, a2, a3, a4⟩ := h
  obtain ⟨c1, c2, c3, c4⟩ := h'
  rcases Nat.lt_trichotomy l l' with g | g | g
  · exact absurd (c3 l (by omega) g) (a4 (by omega))
  · exact g
  · exact absurd (a3 l' (by omega) g) (c4 (by omega))
theorem Bef.succ {o p o' p' : Nat} : Bef o (p + 1) o' p' ↔ Bef o p o' p' ∨ (o' = o ∧ p' = p) := by unfold Bef; omega
theorem Bef.turn {o o' p' : Nat} : Bef (o + 1) 0 o' p' ↔ Bef o 12 o' p' := by unfold Bef; omega
section
variable {sg : Nat} {ρ : List Int} {o p : Nat} {fl : List Int} {c : List (Int × Int)}
noncomputable def FInv (sg : Nat) (ρ : List Int) (o p : Nat) (fl : List Int) : Prop :=
  (∀ v, v ∈ fl ↔ ∃ o' p' b f l, Bef o p o' p' ∧ Cand (TT sg ρ o') (NN sg ρ) p' b f l ∧ v = val f l (b - p')) ∧ fl.length ≤ 12 * o + p
noncomputable def OInv (sg : Nat) (ρ : List Int) (o p : Nat) (c : List (Int × Int)) : Prop :=
  (∀ k v, (k, v) ∈ c → ∃ o' p' b f l, Bef o p o' p' ∧ Cand (TT sg ρ o') (NN sg ρ) p' b f l ∧ f < p' ∧ k = ((p' : Nat) : Int) ∧ v = val f l (b - p')) ∧
  (∀ o' p' b f l, Bef o p o' p' → Cand (TT sg ρ o') (NN sg ρ) p' b f l → f < p' → (((p' : Nat) : Int), val f l (b - p')) ∈ c) ∧ c.length ≤ 12 * o + p
theorem FInv.start : FInv sg ρ 0 0 [] := by
  refine ⟨fun v => ⟨fun h => (by cases h), ?_⟩, Nat.le_refl _⟩
  rintro ⟨o', p', b, f, l, h, _⟩
  unfold Bef at h; omega
theorem OInv.start : OInv sg ρ 0 0 [] := by
  refine ⟨fun k v h => (by cases h), ?_, Nat.le_refl _⟩
  intro o' p' b f l h
  unfold Bef at h; omega
theorem FInv.turn (h : FInv sg ρ o 12 fl) : FInv sg ρ (o + 1) 0 fl :=
  ⟨fun v => (h.1 v).trans ⟨fun ⟨o', p', b, f, l, a, r⟩ => ⟨o', p', b, f, l, Bef.turn.mpr a, r⟩, fun ⟨o', p', b, f, l, a, r⟩ => ⟨o', p', b, f, l, Bef.turn.mp a, r⟩⟩, by have := h.2; omega⟩
theorem OInv.turn (h : OInv sg ρ o 12 c) : OInv sg ρ (o + 1) 0 c :=
  ⟨fun k v hk => let ⟨o', p', b, f, l, a, r⟩ := h.1 k v hk; ⟨o', p', b, f, l, Bef.turn.mpr a, r⟩, fun o' p' b f l a => h.2.1 o' p' b f l (Bef.turn.mp a), by have := h.2.2; omega⟩
variable {b f l : Nat}
theorem cand_uniq {T : List Str} {N : List Int} (h1 : NB T p b) (h2 : LeftX N (b - p) p f) (h3 : RightX N (b - p) b l) {b' f' l' : Nat} (h : Cand T N p b' f' l') : b' = b ∧ f' = f ∧ l' = l := by
  have e := h.nb.uniq h1
  subst e
  exact ⟨rfl, h.left.uniq h2, h.right.uniq h3⟩
theorem FInv.no (h : FInv sg ρ o p fl) (h1 : NB (TT sg ρ o) p b) (h2 : LeftX (NN sg ρ) (b - p) p f) (h3 : RightX (NN sg ρ) (b - p) b l) (hn : ¬ 2 * (b - p) ≤ l - f) : FInv sg ρ o (p + 1) fl := by
  refine ⟨fun v => (h.1 v).trans ⟨fun ⟨o', p', b', f', l', a, r⟩ => ⟨o', p', b', f', l', Bef.succ.mpr (.inl a), r⟩, ?_⟩, by have := h.2; omega⟩
  rintro ⟨o', p', b', f', l', a, hc, e⟩
  rcases Bef.succ.mp a with a | ⟨rfl, rfl⟩
  · exact ⟨o', p', b', f', l', a, hc, e⟩
  · obtain ⟨rfl, rfl, rfl⟩ := cand_uniq h1 h2 h3 hc
    exact absurd hc.long hn
theorem FInv.yes (h : FInv sg ρ o p fl) (h1 : NB (TT sg ρ o) p b) (h2 : LeftX (NN sg ρ) (b - p) p f) (h3 : RightX (NN sg ρ) (b - p) b l) (hn : 2 * (b - p) ≤ l - f) : FInv sg ρ o (p + 1) (fl ++ [val f l (b - p)]) := by
  refine ⟨fun v => ⟨fun hv => ?_, ?_⟩, by rw [List.length_append]; have := h.2; simp; omega⟩
  · rcases List.mem_append.mp hv with hv | hv
    · obtain ⟨o', p', b', f', l', a, r⟩ := (h.1 v).mp hv
      exact ⟨o', p', b', f', l', Bef.succ.mpr (.inl a), r⟩
    · exact ⟨o, p, b, f, l, Bef.succ.mpr (.inr ⟨rfl, rfl⟩), ⟨h1, h2, h3, hn⟩, List.mem_singleton.mp hv⟩
  · rintro ⟨o', p', b', f', l', a, hc, e⟩
    rcases Bef.succ.mp a with a | ⟨rfl, rfl⟩
    · exact List.mem_append_left _ ((h.1 v).mpr ⟨o', p', b', f', l', a, hc, e⟩)
    · obtain ⟨rfl, rfl, rfl⟩ := cand_uniq h1 h2 h3 hc
      exact List.mem_append_right _ (List.mem_singleton.mpr e)
theorem OInv.no (h : OInv sg ρ o p c) (h1 : NB (TT sg ρ o) p b) (h2 : LeftX (NN sg ρ) (b - p) p f) (h3 : RightX (NN sg ρ) (b - p) b l) (hn : ¬ (2 * (b - p) ≤ l - f ∧ f < p)) : OInv sg ρ o (p + 1) c := by
  refine ⟨fun k v hk => let ⟨o', p', b, f, l, a, r⟩ := h.1 k v hk; ⟨o', p', b, f, l, Bef.succ.mpr (.inl a), r⟩, fun o' p' b' f' l' a hc hf => ?_, by have := h.2.2; omega⟩
  rcases Bef.succ.mp a with a | ⟨rfl, rfl⟩
  · exact h.2.1 o' p' b' f' l' a hc hf
  · obtain ⟨rfl, rfl, rfl⟩ := cand_uniq h1 h2 h3 hc
    exact absurd ⟨hc.long, hf⟩ hn
theorem mem_put {c : List (Int × Int)} {k v k' v' : Int} (h : (k', v') ∈ kdfPut c k v) : (k' = k ∧ v' = v) ∨ (k' ≠ k ∧ (k', v') ∈ c) := by
  unfold kdfPut at h
  split at h
  · obtain ⟨⟨a, b⟩, hab, e⟩ := List.mem_map.mp h
    by_cases ha : a = k
    · rw [if_pos (by simpa using ha)] at e
      injection e with e1 e2
      exact .inl ⟨e1.symm.trans ha, e2.symm⟩
    · rw [if_neg (by simpa using ha)] at e
      injection e with e1 e2
      subst e1; subst e2
      exact .inr ⟨ha, hab⟩
  · rename_i hc
    rcases List.mem_append.mp h with h | h
    · refine .inr ⟨fun e => hc ?_, h⟩
      exact List.any_eq_true.mpr ⟨_, h, by simpa using e⟩
    · have := List.mem_singleton.mp h
      injection this with e1 e2
      exact .inl ⟨e1, e2⟩
theorem put_new (c : List (Int × Int)) (k v : Int) : (k, v) ∈ kdfPut c k v := by
  unfold kdfPut
  split
  · rename_i h
    obtain ⟨⟨a, b⟩, hab, e⟩ := List.any_eq_true.mp h
    have e' : a = k := by simpa using e
    refine List.mem_map.mpr ⟨(a, b), hab, ?_⟩
    rw [if_pos (by simpa using e'), e']
  · exact List.mem_append_right _ (.head _)
theorem put_old {c : List (Int × Int)} {k v k' v' : Int} (hk : k' ≠ k) (h : (k', v') ∈ c) : (k', v') ∈ kdfPut c k v := by
  unfold kdfPut
  split
  · exact List.mem_map.mpr ⟨_, h, by rw [if_neg (by simpa using hk)]⟩
  · exact List.mem_append_left _ h
theorem look_mem {c : List (Int × Int)} {k d : Int} : kdfLook c k d = d ∨ (k, kdfLook c k d) ∈ c := by
  unfold kdfLook
  cases hf : c.find? fun p => decide (p.1 = k) with
  | none => exact .inl rfl
  | some p =>
    have hm := List.mem_of_find?_eq_some hf
    have hk := List.find?_some hf
    simp only [decide_eq_true_eq] at hk
    right
    obtain ⟨a, b⟩ := p
    simp only at hk
    subst hk
    exact hm
/-- what the plain law says of a row -/
structure Plain (sg : Nat) (ρ : List Int) : Prop where
  less : ∀ o p b, o < 2 → NB (TT sg ρ o) p b → b < 12 → coll (tA (TT sg ρ o) b) (tA (TT sg ρ o) p) = -1
  owner : ∀ o o' p b f l b' f' l', o < 2 → o' < 2 → Cand (TT sg ρ o) (NN sg ρ) p b f l → f < p → Cand (TT sg ρ o') (NN sg ρ) p b' f' l' → f' < p → val f l (b - p) = val f' l' (b' - p)
  sound : ∀ o p b f l, o < 2 → Cand (TT sg ρ o) (NN sg ρ) p b f l → val f l (b - p) ∈ (runsD ρ 6).map (·.2)
  whole : ∀ v ∈ (runsD ρ 6).map (·.2), ∃ o p b f l, o < 2 ∧ p < 12 ∧ Cand (TT sg ρ o) (NN sg ρ) p b f l ∧ f < p ∧ v = val f l (b - p)
  once : ((runsD ρ 6).map (·.2)).Nodup
theorem OInv.look (P : Plain sg ρ) (h : OInv sg ρ o p c) (ho : o < 2) (hc : Cand (TT sg ρ o) (NN sg ρ) p b f l) (hf : f < p) : kdfLook c (p : Nat) (val f l (b - p)) = val f l (b - p) := by
  rcases look_mem (c := c) (k := ((p : Nat) : Int)) (d := val f l (b - p)) with e | e
  · exact e
  · obtain ⟨o', p', b', f', l', a, hc', hf', hk, hv⟩ := h.1 _ _ e
    have hp : p' = p := by omega
    subst hp
    rw [hv]
    exact P.owner o' o p' b' f' l' b f l (by unfold Bef at a; omega) ho hc' hf' hc hf
theorem OInv.yes (P : Plain sg ρ) (h : OInv sg ρ o p c) (ho : o < 2) (hc : Cand (TT sg ρ o) (NN sg ρ) p b f l) (hf : f < p) : OInv sg ρ o (p + 1) (kdfPut c (p : Nat) (val f l (b - p))) := by
  refine ⟨fun k v hk => ?_, fun o' p' b' f' l' a hc' hf' => ?_, by have := kdfPut_len c ((p : Nat) : Int) (val f l (b - p)); have := h.2.2; omega⟩
  · rcases mem_put hk with ⟨rfl, rfl⟩ | ⟨_, hk⟩
    · exact ⟨o, p, b, f, l, Bef.succ.mpr (.inr ⟨rfl, rfl⟩), hc, hf, rfl, rfl⟩
    · obtain ⟨o', p', b', f', l', a, r⟩ := h.1 k v hk
      exact ⟨o', p', b', f', l', Bef.succ.mpr (.inl a), r⟩
  · by_cases hp : p' = p
    · subst hp
      have ho' : o' < 2 := by unfold Bef at a; omega
      rw [P.owner o' o p' b' f' l' b f l ho' ho hc' hf' hc hf]
      exact put_new _ _ _
    · rcases Bef.succ.mp a with a | ⟨_, q⟩
      · exact put_old (by omega) (h.2.1 o' p' b' f' l' a hc' hf')
      · exact absurd q hp
end
end Mine
end
end
section
open PySem PySem.W PyProof.Rows
set_option maxRecDepth 100000
set_option maxHeartbeats 1500000
noncomputable section
namespace Mine
structure NatS where
  b : Nat
  t : Tok
section
variable {prog : Program} {w : World} {A : Around} {E : Value → Shared → Prop} {s : Shared} {env : Env} {h₀ : Heap} {L : Addr} {m : Str → Option Value} {news : List (Addr × Obj)}
noncomputable def NatEnd (h₀ : Heap) (L : Addr) (m : Str → Option Value) (news : List (Addr × Obj)) (x : Str) (s : Shared) (P : Nat → Prop) (s' : Shared) : Prop :=
  ∃ b h' tk' m' t', s' = { s with heap := h', toks := tk' } ∧ Fr h₀ L h' m' ∧ News h₀ L h' news ∧ (∀ z, z ≠ x → m' z = m z) ∧ m' x = some (.int ((b : Nat) : Int) t') ∧ P b
noncomputable def NatPost (h₀ : Heap) (L : Addr) (m : Str → Option Value) (news : List (Addr × Obj)) (x : Str) (s : Shared) (P : Nat → Prop) (f : Flow) (s' : Shared) : Prop :=
  match f with
  | .ret _ => False
  | .brk => False
  | _ => NatEnd h₀ L m news x s P s'
theorem nat_fr {h' : Heap} {m' : Str → Option Value} {x : Str} {v : Value} (F : Fr h₀ L h' m') (h1 : ∀ z, z ≠ x → m' z = m z) (h2 : m' x = some v) : Fr h₀ L h' (fun z => if z = x then some v else m z) := by
  have e : m' = fun z => if z = x then some v else m z := by
    funext z
    by_cases q : z = x
    · rw [if_pos q, q, h2]
    · rw [if_neg q, h1 z q]
  rw [← e]; exact F
/-- a while that counts one int up or down -/
theorem while_nat {x : Str} {test : Expr} {body more : List Stmt} {pos : Pos} {Q : Flow → Shared → Prop} {b0 : Nat} {t0 : Tok} (F : Fr h₀ L s.heap m) (N : News h₀ L s.heap news) (hx : m x = some (.int ((b0 : Nat) : Int) t0)) (P : Nat → Prop) (μ : Nat → Nat) (R : Nat → Prop) (h0 : P b0)
    (turn : ∀ b t h tk, P b → Fr h₀ L h (fun z => if z = x then some (.int ((b : Nat) : Int) t) else m z) → News h₀ L h news →
      wpAny (model prog w) A (isTrue test env (eval test env)) (fun r s₂ => if r = true then wpAny (model prog w) A (execs body env) (NatPost h₀ L m news x s (fun b' => P b' ∧ μ b' < μ b)) E s₂ else NatEnd h₀ L m news x s R s₂) E { s with heap := h, toks := tk })
    (done : ∀ b t h tk, R b → Fr h₀ L h (fun z => if z = x then some (.int ((b : Nat) : Int) t) else m z) → News h₀ L h news → wpAny (model prog w) A (execs more env) Q E { s with heap := h, toks := tk })
    (hE : PassesOwn (model prog w) A env E := by passes_own) :
    wpAny (model prog w) A (exec (.While test body [] pos) env) (fun f s' => match f with | .next => wpAny (model prog w) A (execs more env) Q E s' | f => Q f s') E s := by
  refine wpAny_mono (Q := fun f s' => f = .next ∧ NatEnd h₀ L m news x s R s') ?_ (fun f s' hf => ?_) fun _ _ e => e
  · refine ksw_while (σ := NatS) (fun _ => news) (fun c => [(x, .int ((c.b : Nat) : Int) c.t)]) (fun _ => True) [] (fun c => P c.b) (fun c => μ c.b) ⟨b0, t0⟩ F N trivial (fun p hp => by rcases List.mem_singleton.mp hp with rfl; exact hx) h0 ?_ hE
    rintro ⟨b, t⟩ u h tk _ hp F' N'
    have F2 : Fr h₀ L h (fun z => if z = x then some (.int ((b : Nat) : Int) t) else m z) := nat_fr F' (fun z hz => by dsimp only [kstB]; rw [if_neg hz]; simp) (by dsimp only [kstB]; rw [if_pos rfl])
    refine wpAny_mono (turn b t h tk hp F2 N') (fun r s₂ q => ?_) fun _ _ e => e
    cases r with
    | false => simp only [Bool.false_eq_true, if_false] at q ⊢; exact ⟨trivial, q⟩
    | true =>
      simp only [if_true] at q ⊢
      refine wpAny_mono q (fun f s₃ q => ?_) fun _ _ e => e
      have fin : NatEnd h₀ L m news x s (fun b' => P b' ∧ μ b' < μ b) s₃ → KswEnd h₀ L s (fun _ : NatS => news) (fun c => [(x, Value.int ((c.b : Nat) : Int) c.t)]) (fun _ => True) [] m (fun c => P c.b) (fun c => μ c.b) ⟨b, t⟩ s₃ := by
        rintro ⟨b', h', tk', m', t', rfl, F', N', h1, h2, h3, h4⟩
        exact ksw_end ⟨b', t'⟩ F' N' (fun p hp => hp) trivial (fun p hp => by rcases List.mem_singleton.mp hp with rfl; exact h2) (fun z hz _ => h1 z (hz _ (.head _))) h3 h4
      cases f with
      | ret v => exact q.elim
      | brk => exact q.elim
      | next => exact fin q
      | cont => exact fin q
  · obtain ⟨rfl, b, h', tk', m', t', rfl, F', N', h1, h2, h3⟩ := hf
    exact done b t' h' tk' h3 (nat_fr F' h1 h2) N'
noncomputable def KeepP (h₀ : Heap) (L : Addr) (m : Str → Option Value) (news : List (Addr × Obj)) (s s' : Shared) : Prop := ∃ h' tk', s' = { s with heap := h', toks := tk' } ∧ Fr h₀ L h' m ∧ News h₀ L h' news
/-- a statement that leaves all as it was: its ways meet -/
theorem join_keep {st : Stmt} {more : List Stmt} {Q : Flow → Shared → Prop} (_F : Fr h₀ L s.heap m) (_N : News h₀ L s.heap news)
    (h1 : wpAny (model prog w) A (exec st env) (fun f s' => f = .next ∧ KeepP h₀ L m news s s') E s)
    (h2 : ∀ h' tk', Fr h₀ L h' m → News h₀ L h' news → wpAny (model prog w) A (execs more env) Q E { s with heap := h', toks := tk' }) :
    wpAny (model prog w) A (exec st env) (fun f s' => match f with | .next => wpAny (model prog w) A (execs more env) Q E s' | f => Q f s') E s := by
  refine wpAny_mono h1 (fun f s' hf => ?_) fun _ _ e => e
  obtain ⟨rfl, h', tk', rfl, F', N'⟩ := hf
  exact h2 h' tk' F' N'
theorem coll_self (a : Str) : coll a a = 0 := by unfold coll; omega
end
end Mine
end
end
section
open PySem PySem.W PyProof.Rows
set_option maxRecDepth 100000
set_option maxHeartbeats 1500000
namespace Mine
theorem below_go {xs : Array Nat} {j : Nat} (hs : xs.toList.Pairwise (· < ·)) : ∀ (fuel lo hi : Nat), hi ≤ xs.size → lo ≤ hi → hi - lo ≤ fuel →
    (∀ a, a < lo → ∀ h : a < xs.size, xs[a] < j) → (∀ a, hi ≤ a → ∀ h : a < xs.size, j ≤ xs[a]) →
    SetTable.below.go xs j fuel lo hi ≤ xs.size ∧ (∀ a, a < SetTable.below.go xs j fuel lo hi → ∀ h : a < xs.size, xs[a] < j) ∧ (∀ a, SetTable.below.go xs j fuel lo hi ≤ a → ∀ h : a < xs.size, j ≤ xs[a]) := by
  have hm : ∀ a b, a < b → ∀ (ha : a < xs.size) (hb : b < xs.size), xs[a] < xs[b] := by
    intro a b hab ha hb
    have := List.pairwise_iff_getElem.mp hs a b (by simpa using ha) (by simpa using hb) hab
    simpa using this
  intro fuel
  induction fuel with
  | zero =>
    intro lo hi h1 h2 h3 h4 h5
    unfold SetTable.below.go
    exact ⟨by omega, h4, fun a ha => h5 a (by omega)⟩
  | succ n ih =>
    intro lo hi h1 h2 h3 h4 h5
    unfold SetTable.below.go
    by_cases hlt : lo < hi
    · rw [if_pos hlt]
      have hmid : (lo + hi) / 2 < xs.size := by omega
      have e : xs.getD ((lo + hi) / 2) j = xs[(lo + hi) / 2] := by rw [Array.getD_eq_getD_getElem?, Array.getElem?_eq_getElem hmid]; rfl
      dsimp only
      rw [e]
      split
      · rename_i hc
        refine ih _ _ h1 (by omega) (by omega) (fun a ha h => ?_) h5
        by_cases q : a = (lo + hi) / 2
        · subst q; exact hc
        · exact Nat.lt_trans (hm a _ (by omega) h hmid) hc
      · rename_i hc
        refine ih _ _ (by omega) (by omega) (by omega) h4 (fun a ha h => ?_)
        by_cases q : a = (lo + hi) / 2
        · subst q; exact Nat.le_of_not_lt hc
        · exact Nat.le_trans (Nat.le_of_not_lt hc) (Nat.le_of_lt (hm _ a (by omega) hmid h))
    · rw [if_neg hlt]
      exact ⟨by omega, h4, fun a ha => h5 a (by omega)⟩
theorem below_is {xs : Array Nat} {j : Nat} (hs : xs.toList.Pairwise (· < ·)) :
    SetTable.below xs j ≤ xs.size ∧ (∀ a, a < SetTable.below xs j → ∀ h : a < xs.size, xs[a] < j) ∧ (∀ a, SetTable.below xs j ≤ a → ∀ h : a < xs.size, j ≤ xs[a]) :=
  below_go hs _ _ _ (Nat.le_refl _) (Nat.zero_le _) (by omega) (fun a h => absurd h (Nat.not_lt_zero _)) (fun a h1 h2 => absurd h2 (by omega))
theorem below_nth {xs : Array Nat} (hs : xs.toList.Pairwise (· < ·)) (i : Nat) (hi : i < xs.size) : SetTable.below xs xs[i] = i := by
  obtain ⟨a1, a2, a3⟩ := below_is (j := xs[i]) hs
  have hm : ∀ a b, a < b → ∀ (ha : a < xs.size) (hb : b < xs.size), xs[a] < xs[b] := by
    intro a b hab ha hb
    have := List.pairwise_iff_getElem.mp hs a b (by simpa using ha) (by simpa using hb) hab
    simpa using this
  rcases Nat.lt_trichotomy (SetTable.below xs xs[i]) i with h | h | h
  · have := a3 _ (Nat.le_refl _) (Nat.lt_trans h hi)
    have := hm _ _ h (Nat.lt_trans h hi) hi
    omega
  · exact h
  · have := a2 i h hi
    omega
theorem below_next {xs : Array Nat} (hs : xs.toList.Pairwise (· < ·)) (i : Nat) (hi : i < xs.size) : SetTable.below xs (xs[i] + 1) = i + 1 := by
  obtain ⟨a1, a2, a3⟩ := below_is (j := xs[i] + 1) hs
  have hm : ∀ a b, a < b → ∀ (ha : a < xs.size) (hb : b < xs.size), xs[a] < xs[b] := by
    intro a b hab ha hb
    have := List.pairwise_iff_getElem.mp hs a b (by simpa using ha) (by simpa using hb) hab
    simpa using this
  rcases Nat.lt_trichotomy (SetTable.below xs (xs[i] + 1)) (i + 1) with h | h | h
  · have := a3 i (by omega) hi
    omega
  · exact h
  · have := a2 (i + 1) h (by omega)
    have := hm i (i + 1) (by omega) hi (by omega)
    omega
theorem below_zero {xs : Array Nat} (hs : xs.toList.Pairwise (· < ·)) : SetTable.below xs 0 = 0 := by
  obtain ⟨a1, a2, a3⟩ := below_is (j := 0) hs
  rcases Nat.eq_zero_or_pos (SetTable.below xs 0) with h | h
  · exact h
  · exact absurd (a2 0 h (by omega)) (Nat.not_lt_zero _)
theorem slot_not {t : SetTable} {j : Nat} (hd : t.dummies = #[]) (h : j ∉ t.place.toList) : t.slot j = .empty := by
  unfold SetTable.slot
  have h1 : (t.place[SetTable.below t.place j]? == some j) = false := by
    refine beq_eq_false_iff_ne.mpr fun e => h ?_
    exact Array.mem_toList_iff.mpr (Array.mem_of_getElem? e)
  dsimp only
  rw [h1, hd]
  rfl
theorem slot_in {t : SetTable} {j : Nat} (hs : t.place.toList.Pairwise (· < ·)) (h : j ∈ t.place.toList) : ∃ i, t.slot j = .live i := by
  obtain ⟨i, hi, e⟩ := List.mem_iff_getElem.mp h
  have hi' : i < t.place.size := by simpa using hi
  have e' : t.place[i] = j := by simpa using e
  refine ⟨i, ?_⟩
  unfold SetTable.slot
  have hb := below_nth hs i hi'
  rw [e'] at hb
  dsimp only
  rw [hb, Array.getElem?_eq_getElem hi', e']
  simp
theorem insert_rise {xs : Array Nat} {j : Nat} (hs : xs.toList.Pairwise (· < ·)) (h : j ∉ xs.toList) : (SetTable.insertAt xs (SetTable.below xs j) j).toList.Pairwise (· < ·) := by
  obtain ⟨a1, a2, a3⟩ := below_is (j := j) hs
  rw [SetTable.toList_insertAt]
  have e : xs.toList = xs.toList.take (SetTable.below xs j) ++ xs.toList.drop (SetTable.below xs j) := (List.take_append_drop _ _).symm
  have hs' := hs
  rw [e] at hs'
  obtain ⟨b1, b2, b3⟩ := List.pairwise_append.mp hs'
  have c1 : ∀ a ∈ xs.toList.take (SetTable.below xs j), a < j := by
    intro a ha
    obtain ⟨i, hi, e⟩ := List.mem_iff_getElem.mp ha
    rw [List.length_take] at hi
    have := a2 i (by omega) (by simp at hi; omega)
    rw [List.getElem_take] at e
    rw [← e]; simpa using this
  have c2 : ∀ a ∈ xs.toList.drop (SetTable.below xs j), j < a := by
    intro a ha
    have hne : j ≠ a := fun q => h (by rw [q]; exact List.mem_of_mem_drop ha)
    obtain ⟨i, hi, e⟩ := List.mem_iff_getElem.mp ha
    rw [List.length_drop] at hi
    have := a3 (SetTable.below xs j + i) (by omega) (by simp at hi; omega)
    rw [List.getElem_drop] at e
    have : j ≤ a := by rw [← e]; simpa using this
    omega
  refine List.pairwise_append.mpr ⟨b1, List.pairwise_cons.mpr ⟨c2, b2⟩, ?_⟩
  intro a ha b hb
  rcases List.mem_cons.mp hb with rfl | hb
  · exact c1 a ha
  · exact b3 a ha b hb
theorem pigeon : ∀ (m : Nat) (l : List Nat), (∀ j, j < m → j ∈ l) → m ≤ l.length
  | 0, _, _ => Nat.zero_le _
  | m + 1, l, h => by
    have h1 := h m (Nat.lt_succ_self m)
    have h2 := pigeon m (l.erase m) fun j hj => (List.mem_erase_of_ne (by omega)).mpr (h j (by omega))
    rw [List.length_erase_of_mem h1] at h2
    have := List.length_pos_of_mem h1
    omega
/-- the probe, step by step -/
noncomputable def advN (t : SetTable) : Nat → SetTable.Probe → SetTable.Probe
  | 0, p => p
  | k + 1, p => advN t k (t.advance p)
theorem advN_add (t : SetTable) : ∀ (a b : Nat) (p : SetTable.Probe), advN t (a + b) p = advN t b (advN t a p)
  | 0, b, p => by rw [Nat.zero_add]; rfl
  | a + 1, b, p => by rw [Nat.succ_add]; exact advN_add t a b (t.advance p)
theorem adv_dummy (t : SetTable) (p : SetTable.Probe) : (t.advance p).dummy = p.dummy := by
  unfold SetTable.advance
  split <;> rfl
theorem probe_go {t : SetTable} {f : Nat → Int} {h : Int} (hf : ∀ i, (f i == h) = false) (hd : t.dummies = #[]) (hs : t.place.toList.Pairwise (· < ·)) : ∀ (fuel k : Nat) (p : SetTable.Probe), k < fuel → p.dummy = none → (advN t k p).j ∉ t.place.toList →
    ∃ j, SetTable.probe.go t f h fuel p = some (.empty j none) ∧ j ∉ t.place.toList
  | 0, k, p, hk, _, _ => absurd hk (Nat.not_lt_zero _)
  | fuel + 1, k, p, hk, hp, hj => by
    unfold SetTable.probe.go
    by_cases hin : p.j ∈ t.place.toList
    · obtain ⟨i, hi⟩ := slot_in hs hin
      rw [hi]
      dsimp only
      rw [hf i]
      cases k with
      | zero => exact absurd hin hj
      | succ k => exact probe_go hf hd hs fuel k _ (by omega) (by rw [adv_dummy]; exact hp) hj
    · rw [slot_not hd hin]
      exact ⟨p.j, by dsimp only; rw [hp], hin⟩
noncomputable def startAt (mask i pt : Nat) : SetTable.Probe := { j := i, more := SetTable.runEnd mask i - i, i, perturb := pt, dummy := none }
theorem adv_run (t : SetTable) (i pt : Nat) : ∀ (k j : Nat), advN t k { j, more := k, i, perturb := pt, dummy := none } = { j := j + k, more := 0, i, perturb := pt, dummy := none }
  | 0, j => rfl
  | k + 1, j => by
    show advN t k (t.advance _) = _
    have e : t.advance { j, more := k + 1, i, perturb := pt, dummy := none } = { j := j + 1, more := k, i, perturb := pt, dummy := none } := by
      unfold SetTable.advance
      rw [if_pos (Nat.succ_pos k)]; rfl
    rw [e, adv_run t i pt k (j + 1)]
    congr 1; omega
theorem advN_one (t : SetTable) (p : SetTable.Probe) : advN t 1 p = t.advance p := rfl
theorem adv_leap (t : SetTable) (i pt : Nat) : advN t (SetTable.runEnd t.mask i - i + 1) (startAt t.mask i pt) = startAt t.mask (SetTable.leap t.mask i pt).1 (SetTable.leap t.mask i pt).2 := by
  rw [advN_add]
  unfold startAt
  rw [adv_run, advN_one]
  unfold SetTable.advance
  rw [if_neg (Nat.lt_irrefl 0)]
theorem run_le (m i : Nat) : SetTable.runEnd m i - i ≤ 9 := by unfold SetTable.runEnd; split <;> omega
theorem adv_leap2 (t : SetTable) (i pt : Nat) : ∃ k i', k ≤ 10 ∧ i' < t.mask + 1 ∧ advN t k (startAt t.mask i pt) = startAt t.mask i' (pt / 32) :=
  ⟨_, _, Nat.succ_le_succ (run_le t.mask i), Nat.mod_lt _ (Nat.succ_pos _), adv_leap t i pt⟩
theorem adv_settle (t : SetTable) (i pt : Nat) (hp : pt < 32768) : ∃ k i', k ≤ 30 ∧ i' < t.mask + 1 ∧ advN t k (startAt t.mask i pt) = startAt t.mask i' 0 := by
  obtain ⟨k1, i1, a1, b1, c1⟩ := adv_leap2 t i pt
  obtain ⟨k2, i2, a2, b2, c2⟩ := adv_leap2 t i1 (pt / 32)
  obtain ⟨k3, i3, a3, b3, c3⟩ := adv_leap2 t i2 (pt / 32 / 32)
  refine ⟨k1 + (k2 + k3), i3, by omega, b3, ?_⟩
  rw [advN_add, c1, advN_add, c2, c3]
  congr 1; omega
noncomputable def visit (t : SetTable) : Nat → SetTable.Probe → List Nat
  | 0, _ => []
  | k + 1, p => p.j :: visit t k (t.advance p)
theorem visit_adv (t : SetTable) : ∀ (n : Nat) (p : SetTable.Probe) (r : Nat), r ∈ visit t n p → ∃ k, k < n ∧ (advN t k p).j = r
  | 0, _, _, h => by cases h
  | n + 1, p, r, h => by
    rcases List.mem_cons.mp h with rfl | h
    · exact ⟨0, Nat.succ_pos _, rfl⟩
    · obtain ⟨k, hk, e⟩ := visit_adv t n _ r h
      exact ⟨k + 1, by omega, e⟩
theorem adv_congr {t u : SetTable} (h : t.mask = u.mask) (p : SetTable.Probe) : t.advance p = u.advance p := by unfold SetTable.advance; rw [h]
theorem advN_congr {t u : SetTable} (h : t.mask = u.mask) : ∀ (k : Nat) (p : SetTable.Probe), advN t k p = advN u k p
  | 0, _ => rfl
  | k + 1, p => by show advN t k _ = advN u k _; rw [adv_congr h, advN_congr h k]
noncomputable def tab (m : Nat) : SetTable := { mask := m, place := #[], dummies := #[], finger := 0, led := true, moves := 0, plain := true }
theorem cover7 : ((List.range 8).all fun i => (List.range 8).all fun r => (visit (tab 7) 20 (startAt 7 i 0)).contains r) = true := by decide +kernel
theorem cover31 : ((List.range 32).all fun i => let v := visit (tab 31) 300 (startAt 31 i 0); (List.range 32).all fun r => v.contains r) = true := by decide +kernel
theorem cover {t : SetTable} (hm : t.mask = 7 ∨ t.mask = 31) (i r : Nat) (hi : i < t.mask + 1) (hr : r < t.mask + 1) : ∃ k, k < SetTable.turns t.mask * 10 - 30 ∧ (advN t k (startAt t.mask i 0)).j = r := by
  rcases hm with h | h
  · have c := List.all_eq_true.mp cover7 i (List.mem_range.mpr (by omega))
    have c2 := List.all_eq_true.mp c r (List.mem_range.mpr (by omega))
    obtain ⟨k, hk, e⟩ := visit_adv _ _ _ r (by simpa using c2)
    exact ⟨k, by rw [h]; show k < 190; omega, by rw [h, advN_congr (u := tab 7) h]; exact e⟩
  · have c := List.all_eq_true.mp cover31 i (List.mem_range.mpr (by omega))
    dsimp only at c
    have c2 := List.all_eq_true.mp c r (List.mem_range.mpr (by omega))
    obtain ⟨k, hk, e⟩ := visit_adv _ _ _ r (by simpa using c2)
    exact ⟨k, by rw [h]; show k < 430; omega, by rw [h, advN_congr (u := tab 31) h]; exact e⟩
theorem bits_small {h : Int} (h0 : 0 ≤ h) (h1 : h < 32768) : SetTable.bits h < 32768 := by unfold SetTable.bits; omega
theorem free_slot {t : SetTable} {h : Int} (hm : t.mask = 7 ∨ t.mask = 31) (hd : t.dummies = #[]) (hs : t.place.toList.Pairwise (· < ·)) (hz : t.place.size ≤ t.mask) (h0 : 0 ≤ h) (h1 : h < 32768) :
    ∃ j, t.freeSlot h = some (j, false) ∧ j ∉ t.place.toList := by
  obtain ⟨r, hr, hrn⟩ : ∃ r, r < t.mask + 1 ∧ r ∉ t.place.toList := by
    refine Classical.byContradiction fun hc => ?_
    have := pigeon (t.mask + 1) t.place.toList fun j hj => Classical.byContradiction fun q => hc ⟨j, hj, q⟩
    rw [Array.length_toList] at this
    omega
  have hst : t.probeStart h = startAt t.mask (SetTable.bits h % (t.mask + 1)) (SetTable.bits h) := rfl
  obtain ⟨k1, i', hk1, hi', e1⟩ := adv_settle t (SetTable.bits h % (t.mask + 1)) (SetTable.bits h) (bits_small h0 h1)
  obtain ⟨k2, hk2, e2⟩ := cover hm i' r hi' hr
  obtain ⟨j, hj, hn⟩ := probe_go (t := t) (f := fun _ => h + 1) (h := h) (fun _ => beq_eq_false_iff_ne.mpr (by omega)) hd hs (10 * SetTable.turns t.mask) (k1 + k2) (t.probeStart h) (by omega) rfl (by rw [hst, advN_add, e1, e2]; exact hrn)
  refine ⟨j, ?_, hn⟩
  unfold SetTable.freeSlot SetTable.probe
  rw [hj]
  rfl
end Mine
end
section
open PySem PySem.W PyProof.Rows
set_option maxRecDepth 100000
set_option maxHeartbeats 1500000
namespace Mine
/-- where a free search gets to -/
noncomputable def leaps : Nat → Nat × Nat → Nat × Nat
  | 0, p => p
  | k + 1, p => leaps k (SetTable.leap 31 p.1 p.2)
theorem leaps_add : ∀ (a b : Nat) (p : Nat × Nat), leaps (a + b) p = leaps b (leaps a p)
  | 0, b, p => by rw [Nat.zero_add]; rfl
  | a + 1, b, p => by rw [Nat.succ_add]; exact leaps_add a b _
theorem leaps_low : ((List.range 32).all fun i => (List.range 20).any fun k => decide ((leaps k (i, 0)).1 ≤ 22)) = true := by decide +kernel
theorem leaps_get (i pt : Nat) (hp : pt < 32768) : ∃ k, k < 23 ∧ (leaps k (i, pt)).1 ≤ 22 := by
  have e3 : leaps 3 (i, pt) = ((leaps 3 (i, pt)).1, 0) := by
    refine Prod.ext rfl ?_
    show pt / 32 / 32 / 32 = 0
    omega
  have hlt : (leaps 3 (i, pt)).1 < 32 := Nat.mod_lt _ (by decide)
  obtain ⟨k, hk, e⟩ := List.any_eq_true.mp (List.all_eq_true.mp leaps_low _ (List.mem_range.mpr hlt))
  refine ⟨3 + k, by have := List.mem_range.mp hk; omega, ?_⟩
  rw [leaps_add, e3]
  exact of_decide_eq_true e
noncomputable def somes (ow : Array (Option Nat)) : List Nat := ow.toList.filterMap id
theorem free_is {ow : Array (Option Nat)} (hsz : ow.size = 32) (hn : (somes ow).length ≤ 9) : ∀ (k fuel i pt : Nat), k < fuel → (leaps k (i, pt)).1 ≤ 22 → ∃ j, SetTable.layClean.free 31 ow fuel i pt = some j ∧ ow[j]? = some none
  | k, 0, _, _, hk, _ => absurd hk (Nat.not_lt_zero _)
  | k, fuel + 1, i, pt, hk, hl => by
    unfold SetTable.layClean.free
    cases hf : (List.range (SetTable.runEnd 31 i + 1 - i)).find? fun k => (ow.getD (i + k) (some 0)).isNone with
    | some x =>
      dsimp only
      refine ⟨i + x, rfl, ?_⟩
      have := List.find?_some hf
      rw [Array.getD_eq_getD_getElem?] at this
      cases hg : ow[i + x]? with
      | none => rw [hg] at this; simp at this
      | some y =>
        rw [hg] at this
        cases y with
        | none => rfl
        | some z => simp at this
    | none =>
      dsimp only
      cases k with
      | zero =>
        exfalso
        have hi : i ≤ 22 := hl
        have hre : SetTable.runEnd 31 i + 1 - i = 10 := by unfold SetTable.runEnd; rw [if_pos (by omega)]; omega
        rw [hre] at hf
        have hall := List.find?_eq_none.mp hf
        have h1 : ∀ x, x < 10 → ∃ y, ow[i + x]? = some (some y) := by
          intro x hx
          have := hall x (List.mem_range.mpr hx)
          rw [Array.getD_eq_getD_getElem?, Array.getElem?_eq_getElem (by omega : i + x < ow.size)] at this
          cases hg : ow[i + x]'(by omega) with
          | none => rw [hg] at this; simp at this
          | some y => exact ⟨y, by rw [Array.getElem?_eq_getElem (by omega : i + x < ow.size), hg]⟩
        have h2 : ((ow.toList.drop i).take 10).filterMap id = ((ow.toList.drop i).take 10).filterMap id := rfl
        have h3 : 10 ≤ (((ow.toList.drop i).take 10).filterMap id).length := by
          have h4 : ∀ x ∈ (ow.toList.drop i).take 10, (x : Option Nat).isSome = true := by
            intro x hx
            obtain ⟨j, hj, e⟩ := List.mem_iff_getElem.mp hx
            rw [List.length_take, List.length_drop, Array.length_toList] at hj
            rw [List.getElem_take, List.getElem_drop] at e
            obtain ⟨y, hy⟩ := h1 j (by omega)
            rw [Array.getElem?_eq_getElem (by omega : i + j < ow.size)] at hy
            have : x = some y := by rw [← e]; simpa using hy
            rw [this]; rfl
          have h5 : ∀ l : List (Option Nat), (∀ x ∈ l, x.isSome = true) → (l.filterMap id).length = l.length := by
            intro l
            induction l with
            | nil => intro _; rfl
            | cons a r ih =>
              intro h
              cases a with
              | none => exact absurd (h none (.head _)) (by decide)
              | some y => simp [ih (fun x hx => h x (.tail _ hx))]
          rw [h5 _ h4, List.length_take, List.length_drop, Array.length_toList]
          omega
        have h6 : (((ow.toList.drop i).take 10).filterMap id).length ≤ (somes ow).length := by
          unfold somes
          exact (((List.take_sublist 10 _).trans (List.drop_sublist i _)).filterMap id).length_le
        omega
      | succ k => exact free_is hsz hn k fuel _ _ (by omega) hl
theorem somes_set {ow : Array (Option Nat)} {j k : Nat} (h : ow[j]? = some none) : (somes (ow.setIfInBounds j (some k))).Perm (k :: somes ow) := by
  have hj : j < ow.size := by
    rcases Nat.lt_or_ge j ow.size with q | q
    · exact q
    · rw [Array.getElem?_eq_none q] at h; cases h
  have hjl : j < ow.toList.length := by simpa using hj
  have hn : ow.toList[j] = none := by
    rw [Array.getElem?_eq_getElem hj] at h
    simpa using h
  unfold somes
  rw [Array.toList_setIfInBounds, List.set_eq_take_append_cons_drop, if_pos hjl]
  have e : ow.toList = ow.toList.take j ++ ow.toList[j] :: ow.toList.drop (j + 1) := by
    rw [← List.drop_eq_getElem_cons hjl, List.take_append_drop]
  have e2 : ow.toList.filterMap id = (ow.toList.take j).filterMap id ++ (ow.toList.drop (j + 1)).filterMap id := by
    conv => lhs; rw [e, hn]
    rw [List.filterMap_append]
    rfl
  rw [e2, List.filterMap_append]
  exact List.perm_middle
theorem lay_fold : ∀ (hs : List Int) (ow : Array (Option Nat)) (k : Nat), ow.size = 32 → (somes ow).Perm (List.range k) → k + hs.length ≤ 9 → (∀ h ∈ hs, 0 ≤ h ∧ h < 32768) →
    ∃ ow', hs.foldl (fun acc h => do
    let (owner, k) ← acc
    let j ← SetTable.layClean.free 31 owner (SetTable.turns 31) (SetTable.bits h % (31 + 1)) (SetTable.bits h)
    pure (owner.setIfInBounds j (some k), k + 1)) (some (ow, k)) = some (ow', k + hs.length) ∧ ow'.size = 32 ∧ (somes ow').Perm (List.range (k + hs.length))
  | [], ow, k, hz, hp, _, _ => ⟨ow, rfl, hz, hp⟩
  | h :: hs, ow, k, hz, hp, hk, hh => by
    obtain ⟨h0, h1⟩ := hh h (.head _)
    obtain ⟨c, hc, hl⟩ := leaps_get (SetTable.bits h % (31 + 1)) (SetTable.bits h) (bits_small h0 h1)
    have hlen : (somes ow).length ≤ 9 := by rw [hp.length_eq, List.length_range]; simp at hk; omega
    obtain ⟨j, hj, hn⟩ := free_is hz hlen c (SetTable.turns 31) (SetTable.bits h % (31 + 1)) (SetTable.bits h) (Nat.lt_trans hc (by decide)) hl
    have hp2 : (somes (ow.setIfInBounds j (some k))).Perm (List.range (k + 1)) := by
      refine (somes_set hn).trans ((hp.cons k).trans ?_)
      rw [List.range_succ]
      exact (List.perm_append_singleton k _).symm
    obtain ⟨ow', e, z, p⟩ := lay_fold hs _ (k + 1) (by rw [Array.size_setIfInBounds]; exact hz) hp2 (by simp at hk; omega) (fun x hx => hh x (.tail _ hx))
    refine ⟨ow', ?_, z, ?_⟩
    · rw [List.foldl_cons]
      show List.foldl _ (do let j ← SetTable.layClean.free 31 ow (SetTable.turns 31) (SetTable.bits h % (31 + 1)) (SetTable.bits h); pure (ow.setIfInBounds j (some k), k + 1)) hs = _
      rw [hj]
      rw [List.length_cons, show k + (hs.length + 1) = k + 1 + hs.length by omega]
      exact e
    · rw [List.length_cons, show k + (hs.length + 1) = k + 1 + hs.length by omega]
      exact p
theorem somes_none : somes (Array.replicate 32 none) = [] := by
  unfold somes
  rw [Array.toList_replicate]
  decide
theorem lay_clean (hs : Array Int) (hz : hs.size ≤ 9) (hh : ∀ h ∈ hs.toList, 0 ≤ h ∧ h < 32768) : ∃ ow, SetTable.layClean 31 hs = some ow ∧ ow.size = 32 ∧ (somes ow).Perm (List.range hs.size) := by
  obtain ⟨ow, e, z, p⟩ := lay_fold hs.toList (Array.replicate 32 none) 0 (by simp) (by rw [somes_none]; exact .refl _) (by rw [Array.length_toList]; omega) hh
  refine ⟨ow, ?_, z, by simpa using p⟩
  unfold SetTable.layClean
  rw [← Array.foldl_toList]
  show Option.map _ (List.foldl _ (some (Array.replicate 32 none, 0)) _) = _
  rw [e]
  rfl
theorem live_fst (g : Nat → Option Nat) : ∀ l : List Nat, l.Pairwise (· < ·) → ((l.filterMap fun j => (g j).map (j, ·)).map (·.1)).Pairwise (· < ·) ∧ ∀ x ∈ (l.filterMap fun j => (g j).map (j, ·)).map (·.1), x ∈ l
  | [], _ => ⟨.nil, fun x h => h⟩
  | a :: l, h => by
    obtain ⟨h1, h2⟩ := List.pairwise_cons.mp h
    obtain ⟨i1, i2⟩ := live_fst g l h2
    cases hg : g a with
    | none =>
      rw [List.filterMap_cons_none (by rw [hg]; rfl)]
      exact ⟨i1, fun x hx => .tail _ (i2 x hx)⟩
    | some b =>
      rw [List.filterMap_cons_some (b := (a, b)) (by rw [hg]; rfl), List.map_cons]
      refine ⟨List.pairwise_cons.mpr ⟨fun x hx => h1 x (i2 x hx), i1⟩, fun x hx => ?_⟩
      rcases List.mem_cons.mp hx with rfl | hx
      · exact .head _
      · exact .tail _ (i2 x hx)
theorem live_snd (g : Nat → Option Nat) : ∀ l : List Nat, (l.filterMap fun j => (g j).map (j, ·)).map (·.2) = (l.map g).filterMap id
  | [] => rfl
  | a :: l => by
    cases hg : g a with
    | none => rw [List.filterMap_cons_none (by rw [hg]; rfl), List.map_cons, hg, List.filterMap_cons_none rfl, live_snd g l]
    | some b => rw [List.filterMap_cons_some (b := (a, b)) (by rw [hg]; rfl), List.map_cons, List.map_cons, hg, live_snd g l]; rfl
theorem map_getD (ow : Array (Option Nat)) : (List.range ow.size).map (fun j => ow.getD j none) = ow.toList := by
  refine List.ext_getElem (by simp) fun i h1 h2 => ?_
  have hi : i < ow.size := by simpa using h2
  rw [List.getElem_map, List.getElem_range, Array.getD_eq_getD_getElem?, Array.getElem?_eq_getElem hi]
  simp
theorem laid_is (finger moves : Nat) (led plain : Bool) (hs : Array Int) (hz : hs.size ≤ 9) (hh : ∀ h ∈ hs.toList, 0 ≤ h ∧ h < 32768) :
    ∃ pl order, SetTable.laid 31 finger moves led plain hs = some ({ mask := 31, place := pl, dummies := #[], finger, led, moves, plain }, order) ∧ pl.size = hs.size ∧ pl.toList.Pairwise (· < ·) ∧ order.toList.Perm (List.range hs.size) := by
  obtain ⟨ow, e, z, p⟩ := lay_clean hs hz hh
  have hr : (31 : Nat) + 1 = ow.size := by rw [z]
  have h2 := live_snd (fun j => ow.getD j none) (List.range (31 + 1))
  have h3 : ((List.range (31 + 1)).map fun j => ow.getD j none) = ow.toList := by rw [hr]; exact map_getD ow
  rw [h3] at h2
  have hperm : (((List.range (31 + 1)).filterMap fun j => (ow.getD j none).map (j, ·)).map (·.2)).Perm (List.range hs.size) := by rw [h2]; exact p
  refine ⟨(((List.range (31 + 1)).filterMap fun j => (ow.getD j none).map (j, ·)).map (·.1)).toArray, (((List.range (31 + 1)).filterMap fun j => (ow.getD j none).map (j, ·)).map (·.2)).toArray, ?_, ?_, ?_, ?_⟩
  · unfold SetTable.laid
    rw [e]
    rfl
  · rw [List.size_toArray, List.length_map]
    have := hperm.length_eq
    rw [List.length_map, List.length_range] at this
    exact this
  · exact (live_fst (fun j => ow.getD j none) _ List.pairwise_lt_range).1
  · exact hperm
end Mine
end
section
open PySem PySem.W PyProof.Rows
set_option maxRecDepth 100000
set_option maxHeartbeats 1500000
namespace Mine
theorem hash_small {k : Int} (h0 : 0 ≤ k) (h1 : k < 32768) : hashInt k = k := by
  have e : rawHash k = k := by
    have hm : k.natAbs % (2 ^ 61 - 1 : Nat) = k.natAbs := Nat.mod_eq_of_lt (Nat.lt_of_lt_of_le (by omega : k.natAbs < 32768) (by decide))
    simp only [rawHash]
    rw [← Int.natCast_emod, hm, if_neg (by omega : ¬ k < 0)]
    rw [if_neg (by first | (simp; done) | (simp; omega))]
    omega
  unfold hashInt
  rw [e, if_neg (by simp; omega)]
/-- the table of a small set of small ints -/
structure Laid (led : Bool) (n : Nat) (t : SetTable) : Prop where
  led : t.led = led
  plain : t.plain = true
  dum : t.dummies = #[]
  size : t.place.size = n
  rise : t.place.toList.Pairwise (· < ·)
  room : (t.mask = 7 ∧ n ≤ 4) ∨ (t.mask = 31 ∧ n ≤ 18)
theorem Laid.fresh (led : Bool) : Laid led 0 (.fresh 0 0 led) := ⟨rfl, rfl, rfl, rfl, .nil, .inl ⟨rfl, Nat.zero_le _⟩⟩
theorem Laid.fits {led : Bool} {n : Nat} {t : SetTable} (h : Laid led n t) : t.fits n = true := by
  unfold SetTable.fits SetTable.fill
  rw [h.size, h.dum]
  rcases h.room with ⟨a, b⟩ | ⟨a, b⟩ <;> simp [a] <;> omega
theorem insert_size {α : Type} (xs : Array α) (p : Nat) (x : α) : (SetTable.insertAt xs p x).size = xs.size + 1 := by
  have := (SetTable.insertAt_perm xs p x).length_eq
  simpa using this
/-- one more in the table: as it is, or to be laid anew -/
theorem lay_new {led : Bool} {t : SetTable} {es : Array (Int × Value)} {h : Int} {x : Value} (L : Laid led es.size t) (hn : es.size + 1 ≤ 18) (h0 : 0 ≤ h) (h1 : h < 32768) :
    ∃ p t', layNew t es h x = (SetTable.insertAt es p (h, x), t', false, false) ∧ t'.led = led ∧ t'.plain = true ∧ t'.dummies = #[] ∧ t'.place.size = es.size + 1 ∧ t'.place.toList.Pairwise (· < ·) ∧ t'.mask = t.mask ∧ t'.fits (es.size + 1) = true := by
  have hm : t.mask = 7 ∨ t.mask = 31 := L.room.imp (·.1) (·.1)
  obtain ⟨j, hj, hnj⟩ := free_slot hm L.dum L.rise (by rw [L.size]; rcases L.room with ⟨a, b⟩ | ⟨a, b⟩ <;> omega) h0 h1
  have hd : (SetTable.put t j).1.dummies = #[] := by
    unfold SetTable.put
    dsimp only
    rw [L.dum]
    rfl
  have hz : (SetTable.put t j).1.place.size = es.size + 1 := by
    show (SetTable.insertAt t.place _ j).size = _
    rw [insert_size, L.size]
  have hf : (SetTable.put t j).1.fits (es.size + 1) = true := by
    unfold SetTable.fits SetTable.fill
    rw [hz, hd]
    have e : (SetTable.put t j).1.mask = t.mask := rfl
    rw [e]
    rcases L.room with ⟨a, b⟩ | ⟨a, b⟩ <;> simp [a] <;> omega
  refine ⟨(SetTable.put t j).2, (SetTable.put t j).1, ?_, L.led, L.plain, hd, hz, insert_rise L.rise hnj, rfl, hf⟩
  unfold layNew
  rw [hj]
  dsimp only
  rw [insert_size, hf]
  unfold SetTable.orStandIn
  rw [if_pos hf]
  rfl
theorem relay {led : Bool} {t : SetTable} {es : Array (Int × Value)} (hl : t.led = led) (hp : t.plain = true) (hn : es.size = 5) (hh : ∀ e ∈ es.toList, 0 ≤ e.1 ∧ e.1 < 32768) :
    ∃ es' t', relayAll t es (SetTable.grown es.size) = (es', t', false) ∧ es'.size = 5 ∧ Laid led 5 t' := by
  obtain ⟨pl, order, e, z, r, p⟩ := laid_is t.finger (t.movedTo 31) t.led t.plain (es.map (·.1)) (by rw [Array.size_map, hn]; decide) (by
    intro h hh'
    rw [Array.toList_map] at hh'
    obtain ⟨e, he, rfl⟩ := List.mem_map.mp hh'
    exact hh e he)
  rw [Array.size_map] at z p
  have er : t.relaid (es.map (·.1)) (SetTable.grown es.size) = some ({ mask := 31, place := pl, dummies := #[], finger := t.finger, led := t.led, moves := t.movedTo 31, plain := t.plain }, order) := by
    unfold SetTable.relaid
    rw [hn, show SetTable.sizeAbove (SetTable.grown 5) - 1 = 31 by decide]
    exact e
  have hperm : (order.filterMap (es[·]?)).toList.Perm es.toList := by
    rw [Array.toList_filterMap]
    exact (p.filterMap _).trans (by rw [filterMap_getElem?_range])
  have hz2 : (order.filterMap (es[·]?)).size = 5 := by
    rw [← Array.length_toList, hperm.length_eq, Array.length_toList, hn]
  have L : Laid led 5 { mask := 31, place := pl, dummies := #[], finger := t.finger, led := t.led, moves := t.movedTo 31, plain := t.plain } := ⟨hl, hp, rfl, by rw [← hn]; exact z, r, .inr ⟨rfl, by decide⟩⟩
  refine ⟨order.filterMap (es[·]?), _, ?_, hz2, L⟩
  unfold relayAll
  rw [er]
  dsimp only
  have hc : coversAll order es.size = true := List.isPerm_iff.mpr p
  rw [hz2, hc, L.fits]
  rfl
noncomputable def kv : Int × Value → Int
  | (_, .int n _) => n
  | _ => 0
/-- a set of ints in a heap -/
noncomputable def ISet (led : Bool) (h : Heap) (a : Addr) (σ : List Int) : Prop :=
  ∃ o es ep t, h.get? a = some o ∧ o.ExactSet ∧ o.data = .set es ep t ∧ (∀ e ∈ es.toList, ∃ k u, e = (hashInt k, Value.int k u) ∧ 0 ≤ k ∧ k < 32768) ∧ (es.toList.map kv).Perm σ ∧ Laid led es.size t
theorem ISet.size {σ : List Int} {es : Array (Int × Value)} (hp : (es.toList.map kv).Perm σ) : es.size = σ.length := by
  have := hp.length_eq
  simpa using this
section
variable {prog : Program} {w : World} {A : Around} {E : Value → Shared → Prop} {s : Shared}
theorem elems_of {es : Array (Int × Value)} (h : ∀ e ∈ es.toList, ∃ k u, e = (hashInt k, Value.int k u) ∧ 0 ≤ k ∧ k < 32768) : ElemsOf (intKind prog w) es.toList := by
  intro e he
  obtain ⟨k, u, rfl, _, _⟩ := h e he
  exact ⟨⟨k, intKind_is _ _ _ _, rfl⟩, rfl⟩
theorem ISet.at {led : Bool} {h h' : Heap} {a : Addr} {σ : List Int} (x : ISet led h a σ) (e : ∀ o, h.get? a = some o → h'.get? a = some o) : ISet led h' a σ := by
  obtain ⟨o, es, ep, t, ho, r⟩ := x
  exact ⟨o, es, ep, t, e o ho, r⟩
theorem isInt_kv {k : Int} {e : Int × Value} (h : ∃ k u, e = (hashInt k, Value.int k u) ∧ 0 ≤ k ∧ k < 32768) : (intKind prog w).is k e.2 = true ↔ kv e = k := by
  obtain ⟨j, u, rfl, _, _⟩ := h
  show (j == k) = true ↔ j = k
  exact beq_iff_eq
theorem dedup_no {σ : List Int} {k : Int} (h : k ∉ σ) : step_dedup σ k = σ ++ [k] := by
  unfold step_dedup
  rw [if_neg]
  intro hc
  obtain ⟨x, hx, e⟩ := List.any_eq_true.mp hc
  exact h (by rw [← (beq_iff_eq.mp e)]; exact hx)
theorem dedup_yes {σ : List Int} {k : Int} (h : k ∈ σ) : step_dedup σ k = σ := by
  unfold step_dedup
  rw [if_pos]
  exact List.any_eq_true.mpr ⟨k, h, by simp⟩
theorem add_int {led : Bool} {a : Addr} {σ : List Int} {k : Int} {u : Tok} {Q : Bool → Shared → Prop} (x : ISet led s.heap a σ) (h0 : 0 ≤ k) (h1 : k < 32768) (hn : σ.length + 1 ≤ 18)
    (h : ∀ b h', Heap.SameBut a s.heap h' → ISet led h' a (step_dedup σ k) → Q b { s with heap := h' }) :
    wpAny (model prog w) A (setAddHashed a (.int k u) ((intKind prog w).hash k)) Q E s := by
  obtain ⟨o, es, ep, t, ho, hex, hd, hel, hp, L⟩ := x
  have hsz := ISet.size hp
  have hE := elems_of (prog := prog) (w := w) hel
  have hke : (intKind prog w).is k (.int k u) = true := intKind_is _ _ _ _
  have hb : es.size < scanBound := by unfold scanBound; omega
  unfold setAddHashed setAddHashedIn
  refine wpAny_holding (wpAny_bind (wpAny_setState_of ho hd L.fits ?_))
  dsimp only
  rw [byScan_of rfl hb hE]
  simp only [↓reduceIte]
  unfold setAddByScan
  refine wpAny_bind (wpAny_bind (wpAny_rule (wpAny_bind (wpAny_setScan_of hke ho hd L.fits hE ?_))))
  cases hr : List.findIdx? (fun e => (intKind prog w).is k e.2) es.toList with
  | some j =>
    dsimp only
    obtain ⟨hj, hpj, _⟩ := List.findIdx?_eq_some_iff_getElem.mp hr
    have hin : k ∈ σ := hp.mem_iff.mp (List.mem_map.mpr ⟨_, List.getElem_mem hj, (isInt_kv (hel _ (List.getElem_mem hj))).mp hpj⟩)
    refine wpAny_pure (wpAny_pure ?_)
    have := h false s.heap (Heap.SameBut.refl a s.heap) (by rw [dedup_yes hin]; exact ⟨o, es, ep, t, ho, hex, hd, hel, hp, L⟩)
    exact this
  | none =>
    dsimp only
    have hnot : k ∉ σ := by
      intro hk
      obtain ⟨e, he, hek⟩ := List.mem_map.mp (hp.mem_iff.mpr hk)
      have := List.findIdx?_eq_none_iff.mp hr e he
      rw [(isInt_kv (hel e he)).mpr hek] at this
      cases this
    have hhk : (intKind prog w).hash k = k := hash_small h0 h1
    obtain ⟨p, t1, eL, l1, l2, l3, l4, l5, l6, l7⟩ := lay_new (x := .int k u) (h := (intKind prog w).hash k) L (by omega) (by rw [hhk]; exact h0) (by rw [hhk]; exact h1)
    rw [eL]
    dsimp only
    have hperm := SetTable.insertAt_perm es p ((intKind prog w).hash k, Value.int k u)
    rw [Array.toList_push] at hperm
    have hel1 : ∀ e ∈ (SetTable.insertAt es p ((intKind prog w).hash k, Value.int k u)).toList, ∃ k u, e = (hashInt k, Value.int k u) ∧ 0 ≤ k ∧ k < 32768 := by
      intro e he
      rcases List.mem_append.mp (hperm.mem_iff.mp he) with q | q
      · exact hel e q
      · exact ⟨k, u, List.mem_singleton.mp q, h0, h1⟩
    have hp1 : ((SetTable.insertAt es p ((intKind prog w).hash k, Value.int k u)).toList.map kv).Perm (σ ++ [k]) := by
      refine (hperm.map kv).trans ?_
      rw [List.map_append]
      exact hp.append_right _
    have hz1 : (SetTable.insertAt es p ((intKind prog w).hash k, Value.int k u)).size = es.size + 1 := insert_size _ _ _
    generalize SetTable.insertAt es p ((intKind prog w).hash k, Value.int k u) = es1 at hel1 hp1 hz1 ⊢
    refine wpAny_bind (wpAny_pure ?_)
    rw [if_pos l2]
    refine wpAny_bind ?_
    rw [hashByValue_scannable 8 rfl]
    refine wpAny_pure ?_
    rw [if_pos (show plainKind (.int k u) = true from rfl)]
    have hz2 : es1.size ≤ sizeLine := fits_of_scanBound (by unfold scanBound; omega)
    refine wpAny_bind (wpAny_storeSet_of ho hd ?_ hz2)
    have hg1 : (s.heap.update a (Obj.putSet es1 t1)).get? a = some { o with data := .set es1 (ep + 1) t1 } := by
      have := Heap.get?_update_self (Obj.putSet es1 t1) ho (by rw [putSet_of es1 t1 hd]; rfl)
      rw [putSet_of es1 t1 hd] at this; exact this
    have hsb1 := Heap.SameBut.update s.heap a (Obj.putSet es1 t1)
    rw [dedup_no hnot] at h
    have htf : t1.tooFull = decide (es.size + 1 ≥ 5 ∧ t.mask = 7) := by
      unfold SetTable.tooFull SetTable.fill
      rw [l3, l4, l6]
      rcases L.room with ⟨a, b⟩ | ⟨a, b⟩ <;> simp [a] <;> omega
    split
    · rename_i hc
      have hc2 : es.size + 1 ≥ 5 ∧ t.mask = 7 := by
        rw [htf] at hc
        simpa using hc
      have h5 : es1.size = 5 := by
        rw [hz1]
        rcases L.room with ⟨a, b⟩ | ⟨a, b⟩
        · omega
        · rw [a] at hc2; exact absurd hc2.2 (by decide)
      obtain ⟨es2, t2, eR, z2, L2⟩ := relay (t := t1) (es := es1) l1 l2 h5 (by
        intro e he
        obtain ⟨k', u', rfl, a0, a1⟩ := hel1 e he
        show 0 ≤ hashInt k' ∧ hashInt k' < 32768
        rw [hash_small a0 a1]; exact ⟨a0, a1⟩)
      have hp2 := relayAll_perm t1 es1 (SetTable.grown es1.size)
      rw [eR] at hp2 ⊢
      dsimp only at hp2 ⊢
      refine wpAny_bind (wpAny_pure ?_)
      refine wpAny_bind (wpAny_storeSet_of hg1 rfl ?_ (fits_of_scanBound (by unfold scanBound; omega)))
      have hg2 : ((s.heap.update a (Obj.putSet es1 t1)).update a (Obj.putSet es2 t2)).get? a = some { o with data := .set es2 (ep + 1 + 1) t2 } := by
        have := Heap.get?_update_self (Obj.putSet es2 t2) hg1 (by rw [putSet_of (ep := ep + 1) es2 t2 rfl]; rfl)
        rw [putSet_of (ep := ep + 1) es2 t2 rfl] at this; exact this
      refine wpAny_pure (wpAny_pure (h true _ (hsb1.trans (Heap.SameBut.update _ a _)) ⟨_, es2, _, t2, hg2, hex, rfl, fun e he => hel1 e (hp2.mem_iff.mp he), (hp2.map kv).trans hp1, by rw [z2]; exact L2⟩))
    · rename_i hc
      refine wpAny_pure (wpAny_pure (h true _ hsb1 ⟨_, es1, _, t1, hg1, hex, rfl, hel1, hp1, ⟨l1, l2, l3, by rw [l4, hz1], l5, ?_⟩⟩))
      rw [hz1, l6]
      rw [htf] at hc
      have hc2 : ¬ (es.size + 1 ≥ 5 ∧ t.mask = 7) := by simpa using hc
      rcases L.room with ⟨a, b⟩ | ⟨a, b⟩
      · exact .inl ⟨a, by omega⟩
      · exact .inr ⟨a, by omega⟩
end
end Mine
end
section
open PySem PySem.W PyProof.Rows
set_option maxRecDepth 100000
set_option maxHeartbeats 3200000
namespace Mine
theorem met_mono (val : Nat → Int) : ∀ (n i : Nat), i ≤ n → (firstMet val i).length ≤ (firstMet val n).length
  | 0, i, h => by rw [show i = 0 by omega]; exact Nat.le_refl _
  | n + 1, i, h => by
    rcases (by omega : i ≤ n ∨ i = n + 1) with q | rfl
    · refine Nat.le_trans (met_mono val n i q) ?_
      rw [firstMet_succ]; unfold step_dedup
      split <;> simp
    · exact Nat.le_refl _
section
variable {prog : Program} {w : World} {A : Around} {E : Value → Shared → Prop} {s : Shared}
/-- what a set can be made from -/
structure SetSrc (prog : Program) (w : World) (T : String) (r d : Addr) (n : Nat) (P : Nat → Value → Prop) (OK : Heap → Prop) : Prop where
  type : ∀ s : Shared, OK s.heap → s.TypeIs (.ref r) T
  there : ∀ h : Heap, OK h → r < h.objs.size ∧ d < h.objs.size
  keep : ∀ h h' : Heap, OK h → (∀ b, b = r ∨ b = d → ∀ o, h.get? b = some o → h'.get? b = some o) → OK h'
  nSet : isSubtype (.type T) (.type "set") = pure false
  nFroz : isSubtype (.type T) (.type "frozenset") = pure false
  nDict : (Value.type T == Value.type "dict") = false
  iter : ∀ (A : Around) (s : Shared), A.handled = none → OK s.heap → ∃ (oI : Obj) (St : Nat → Heap → Prop),
    (∀ (E : Value → Shared → Prop) (Q : Value → Shared → Prop), Q (.ref s.heap.objs.size) { s with heap := s.heap.push oI } → wpAny (model prog w) A (pyIter (.ref r)) Q E s) ∧
    Walks prog w A s.heap.objs.size [s.heap.objs.size, d] [s.heap.objs.size] n P St ∧ St 0 (s.heap.push oI)
theorem src_list {l : Addr} {items : Array Value} : SetSrc prog w "list" l l items.size (fun i v => items[i]? = some v) (fun h => h.IsList l items) where
  type := fun _ hm => hm.typeIs
  there := fun _ hm => let ⟨_, ho, _⟩ := hm; ⟨Heap.lt_size ho, Heap.lt_size ho⟩
  keep := fun _ _ hm hk => hm.at fun o e => hk l (.inl rfl) o e
  nSet := PySem.F.sub_list_set
  nFroz := PySem.F.sub_list_frozenset
  nDict := by decide
  iter := fun _ _ hh hm => ⟨_, _, (fun _ _ hq => wpAny_pyIter_list hm hq), Walks.list hh _ l (Nat.ne_of_lt (let ⟨_, ho, _⟩ := hm; Heap.lt_size ho)) items, ⟨⟨_, Heap.get?_push_size _ rfl, rfl, rfl⟩, hm.push _⟩⟩
theorem src_values {K : Type} [DecidableEq K] {knd : KeyKind prog w K} {d r : Addr} {kvs : List (K × Value)} {ep : Nat} : SetSrc prog w "dict_values" r d kvs.length (fun i v => ∃ k, kvs[i]? = some (k, v)) (fun h => h.IsValuesView r d ∧ h.DictAt knd d kvs ep) where
  type := fun _ hm => hm.1.typeIs
  there := fun _ hm => ⟨let ⟨_, ho, _⟩ := hm.1; Heap.lt_size ho, hm.2.lt_size⟩
  keep := kdl_values.keep
  nSet := by rw [isSubtype_type]; kernel_rfl
  nFroz := by rw [isSubtype_type]; kernel_rfl
  nDict := by decide
  iter := kdl_values.iter
theorem update_loop {R : Result → Shared → Prop} {I : Addr} {fp wr : List Addr} {n : Nat} {P : Nat → Value → Prop} {St : Nat → Heap → Prop} {led : Bool}
    (W : Walks prog w A.in1 I fp wr n P St) (S : Addr) (hSf : S ∉ fp) (val : Nat → Int) (hval : ∀ i v, P i v → ∃ t, v = .int (val i) t) (hsm : ∀ i, i < n → 0 ≤ val i ∧ val i < 32768) (hb : (firstMet val n).length ≤ 17) :
    ∀ (k i : Nat) (h : Heap) (tk : Nat), n - i = k → i ≤ n → St i h → ISet led h S (firstMet val i) →
      (∀ h' tk', (∀ b o, b ∉ S :: wr → h.get? b = some o → h'.get? b = some o) → ISet led h' S (firstMet val n) → R (.ok (.ret .none)) { s with heap := h', toks := tk' }) →
      codeAny (model prog w) A (.builtin "set.update.loop" ⟨[.ref S, .ref I], []⟩) R { s with heap := h, toks := tk } := by
  have hSw : S ∉ wr := fun h => hSf (W.sub _ h)
  intro k
  induction k with
  | zero =>
    intro i h tk hk hi hst hS hR
    have hin : i = n := by omega
    subst hin
    refine codeAny_builtin PyProof.Rows.F.entry_set_update_loop ?_
    rw [Around.under_plainId PyProof.Rows.F.plain_set_update_loop _]
    show wpAny _ A.in1 (pyNext (.ref I) >>= _) _ _ _
    refine wpAny_bind (W.done _ _ _ hst fun h' tk' hm => ?_)
    show wpAny _ A.in1 (ret Value.none) _ _ _
    exact wpAny_pure (hR h' tk' (fun b o hb e => hm b o (fun q => hb (.tail _ q)) e) (hS.at fun o e => hm S o hSw e))
  | succ k ih =>
    intro i h tk hk hi hst hS hR
    have hlt : i < n := by omega
    refine codeAny_builtin PyProof.Rows.F.entry_set_update_loop ?_
    rw [Around.under_plainId PyProof.Rows.F.plain_set_update_loop _]
    show wpAny _ A.in1 (pyNext (.ref I) >>= _) _ _ _
    refine wpAny_bind (W.item i _ _ _ hlt hst fun v h' tk' hP hst' hm => ?_)
    obtain ⟨t, rfl⟩ := hval i v hP
    have hS' : ISet led h' S (firstMet val i) := hS.at fun o e => hm S o hSw e
    show wpAny _ A.in1 (holding [Value.int (val i) t] (setAdd S (.int (val i) t)) >>= _) _ _ _
    refine wpAny_bind (wpAny_holding ?_)
    unfold setAdd
    refine wpAny_holding ?_
    refine wpAny_bind ((intKind prog w).pyHash (k := val i) (intKind_is _ _ _ _) ?_)
    refine add_int hS' (hsm i hlt).1 (hsm i hlt).2 (by have := met_mono val n i hi; omega) fun b h2 hsb hS2 => ?_
    rw [← firstMet_succ] at hS2
    refine wpAny_pure ⟨plainId_quiet PyProof.Rows.F.plain_set_update_loop _, ih (i + 1) h2 _ (by omega) hlt (W.frame _ h' _ hst' fun c hc o e => ?_) hS2 fun h3 tk3 hk3 hS3 => ?_⟩
    · rw [hsb.2 c (fun q : c = S => hSf (by rw [← q]; exact hc))]; exact e
    · refine hR h3 tk3 (fun c o hc e => hk3 c o hc ?_) hS3
      rw [hsb.2 c (fun q : c = S => hc (by rw [q]; exact .head _))]
      exact hm c o (fun q => hc (.tail _ q)) e
theorem set_new (a : Value) {Q₁ : Value → Shared → Prop}
    (h : Q₁ (.ref s.heap.objs.size) { s with heap := s.heap.push { cls := .type "set", dict := none, data := .set #[] 0 (.fresh 0 0 (!(w.params.followText "set-order"))) } }) :
    codeAny (model prog w) A (.call (.builtin "set.__new__") ⟨[.type "set", a], []⟩) (wants Q₁ E) s := by
  refine codeAny_of_tree ?_
  show wpAny _ A.in1 (do checkBuiltinCall "set.__new__" ⟨[.type "set", a], []⟩; again (.builtin "set.__new__" ⟨[.type "set", a], []⟩)) _ _ s
  refine wpAny_bind (wpAny_of_eq (PySem.F.newCall_set_1 a) (wpAny_pure ⟨plainId_quiet PySem.F.plain_set_new _, codeAny_builtin PySem.F.entry_set_new ?_⟩))
  rw [Around.under_plainId PySem.F.plain_set_new _]
  unfold Builtin.«set.__new__» Builtin.Frozenset.newClass
  have hsub := sub_set_self
  obtain ⟨hp, g, d, tk, os⟩ := s
  dsimp only
  wp_walk
  refine wpAny_askSetting (wpAny_pure ?_)
  dsimp only
  simp only [newObj]
  refine wpAny_bind (wpAny_alloc (wpAny_pure ?_))
  exact wpAny_pure h
end
end Mine
end
section
open PySem PySem.W PyProof.Rows
set_option maxRecDepth 100000
set_option maxHeartbeats 3200000
namespace Mine
section
variable {prog : Program} {w : World} {A : Around} {E : Value → Shared → Prop} {s : Shared}
theorem call_set {T : String} {r d : Addr} {n : Nat} {P : Nat → Value → Prop} {OK : Heap → Prop} {Q : Value → Shared → Prop} (K : SetSrc prog w T r d n P OK)
    (hh : A.handled = none) (hok : OK s.heap) (val : Nat → Int) (hval : ∀ i v, P i v → ∃ t, v = .int (val i) t) (hsm : ∀ i, i < n → 0 ≤ val i ∧ val i < 32768) (hb : (firstMet val n).length ≤ 17)
    (h : ∀ (h' : Heap) (tk : Nat), ISet (!(w.params.followText "set-order")) h' s.heap.objs.size (firstMet val n) →
      (∀ b o, b < s.heap.objs.size → s.heap.get? b = some o → h'.get? b = some o) → Q (.ref s.heap.objs.size) { s with heap := h', toks := tk }) :
    wpAny (model prog w) A (call (.type "set") [.ref r]) Q E s := by
  obtain ⟨c, tl, hmro⟩ := PySem.F.called_set.mro
  have hmade := PySem.F.called_set.made
  have hsub := PySem.F.called_set.sub
  refine wpAny_call (codeAny_of_tree ?_)
  show wpAny _ _ (callAny (.type "set") _) _ _ _
  refine wpAny_pure ⟨Code.quiet_builtin _ (by decide +kernel), codeAny_builtin PySem.F.entry_type_call ?_⟩
  rw [Around.under_plain (weight_type_call_type "set" [.ref r] []) rfl]
  have h1 := PySem.F.called_set.notType
  have h2 := PySem.F.called_set.canCreate
  have hct := PySem.F.typeCall_set_1 (.ref r)
  repeat (any_goals (first | assumption | wp_step))
  generalize hled : (!(w.params.followText "set-order")) = led at h
  refine codeAny_mono (set_new (.ref r) (E := E) (Q₁ := fun obj s₁ => obj = .ref s.heap.objs.size ∧ s₁ = { s with heap := s.heap.push { cls := .type "set", dict := none, data := .set #[] 0 (.fresh 0 0 led) } }) ⟨rfl, by rw [hled]⟩) fun r' s₁ hr => ?_
  cases r' with
  | error e => exact hr
  | ok fl =>
    cases fl with
    | ret obj =>
      obtain ⟨rfl, rfl⟩ := hr
      have hS : (s.heap.push { cls := .type "set", dict := none, data := .set #[] 0 (.fresh 0 0 led) }).get? s.heap.objs.size = some { cls := .type "set", dict := none, data := .set #[] 0 (.fresh 0 0 led) } := Heap.get?_push_size _ rfl
      have hT : Shared.TypeIs { s with heap := s.heap.push { cls := .type "set", dict := none, data := .set #[] 0 (.fresh 0 0 led) } } (.ref s.heap.objs.size) "set" := ⟨_, hS, rfl⟩
      have hli := PySem.F.called_set.init.lookup
      have hbi := PySem.F.called_set.init.bind (.ref s.heap.objs.size)
      repeat (any_goals (first | assumption | wp_step))
      refine codeAny_mono (codeAny_call_builtin (R := wants (fun r s₂ => r = .none ∧ ∃ h' tk, s₂ = { s with heap := h', toks := tk } ∧
          ISet led h' s.heap.objs.size (firstMet val n) ∧
          (∀ b o, b < s.heap.objs.size → s.heap.get? b = some o → h'.get? b = some o)) E) PySem.F.called_set.init.plain PySem.F.entry_set_init (check_set_init_1 hT ?_)) fun r₂ s₂ hr₂ => ?_
      · have hok1 : OK (s.heap.push { cls := .type "set", dict := none, data := .set #[] 0 (.fresh 0 0 led) }) := K.keep _ _ hok fun b _ o e => Heap.get?_push_of_some _ e
        have hTr := K.type { s with heap := s.heap.push { cls := .type "set", dict := none, data := .set #[] 0 (.fresh 0 0 led) } } hok1
        have hth := K.there _ hok
        have hsls := K.nSet
        have hslf := K.nFroz
        have hne := K.nDict
        unfold Builtin.«set.__init__» noKeywords Builtin.Frozenset.updateFrom
        generalize hPI : pyIter = PI
        wp_walk
        subst hPI
        have hh3 : A.in1.in1.in1.handled = none := by simp [hh]
        obtain ⟨oI, St, hit, W, st⟩ := K.iter A.in1.in1.in1 { s with heap := s.heap.push { cls := .type "set", dict := none, data := .set #[] 0 (.fresh 0 0 led) } } hh3 hok1
        refine wpAny_of_in1 (hit _ _ ?_)
        refine wpAny_bind (wpAny_runValue ?_)
        have hsz : (s.heap.push { cls := .type "set", dict := none, data := .set #[] 0 (.fresh 0 0 led) }).objs.size = s.heap.objs.size + 1 := by rw [Heap.size_push]
        have hSf : s.heap.objs.size ∉ [(s.heap.push { cls := .type "set", dict := none, data := .set #[] 0 (.fresh 0 0 led) }).objs.size, d] := by
          rw [hsz]; simp only [List.mem_cons, List.not_mem_nil, or_false, not_or]
          exact ⟨Nat.ne_of_lt (Nat.lt_succ_self _), Nat.ne_of_gt hth.2⟩
        refine update_loop (s := s) (led := led) W s.heap.objs.size hSf val hval hsm hb (n - 0) 0 _ _ rfl (Nat.zero_le _) st ?hS0 ?hR
        case hS0 => exact ⟨_, #[], 0, _, Heap.get?_push_of_some _ hS, ⟨rfl, rfl, rfl⟩, rfl, fun e he => (by cases he), by rw [firstMet_zero]; exact .refl _, Laid.fresh led⟩
        case hR =>
          intro h' tk' hk' hS'
          show wpAny _ _ _ _ _ _
          refine wpAny_pure ?_
          show wpAny _ _ (ret Value.none) _ _ _
          refine wpAny_pure ⟨rfl, h', tk', rfl, hS', fun b o hb' e => ?_⟩
          refine hk' b o ?_ (Heap.get?_push_of_some _ (Heap.get?_push_of_some _ e))
          rw [hsz]; simp only [List.mem_cons, List.not_mem_nil, or_false, not_or]
          exact ⟨Nat.ne_of_lt hb', Nat.ne_of_lt (Nat.lt_succ_of_lt hb')⟩
      · cases r₂ with
        | error e => exact hr₂
        | ok fl₂ =>
          cases fl₂ with
          | ret r' =>
            obtain ⟨rfl, h', tk, rfl, hS', hk'⟩ := hr₂
            repeat (any_goals (first | assumption | wp_step))
            exact h _ _ hS' hk'
          | _ => exact hr₂.elim
    | _ => exact hr.elim
end
end Mine
end
section
open PySem PySem.W PyProof.Rows PySem.Calls
set_option maxRecDepth 100000
set_option maxHeartbeats 3200000
namespace Mine
theorem pick_go {α : Type} (next : Nat → Nat) : ∀ (fuel k : Nat) (left : List α) (out : Array α), left.length = fuel → (pickOrder.go next fuel k left out).toList.Perm (out.toList ++ left)
  | 0, k, left, out, h => by
    rw [List.length_eq_zero_iff.mp h, List.append_nil]
    exact .refl _
  | fuel + 1, k, left, out, h => by
    unfold pickOrder.go
    have hlt : next k % left.length < left.length := Nat.mod_lt _ (by omega)
    rw [List.getElem?_eq_getElem hlt]
    dsimp only
    refine (pick_go next fuel (k + 1) _ _ (by rw [List.length_eraseIdx_of_lt hlt]; omega)).trans ?_
    rw [Array.toList_push, List.append_assoc]
    refine List.Perm.append_left _ ?_
    rw [List.eraseIdx_eq_take_drop_succ]
    have e : left = left.take (next k % left.length) ++ left[next k % left.length] :: left.drop (next k % left.length + 1) := by
      rw [← List.drop_eq_getElem_cons hlt, List.take_append_drop]
    conv => rhs; rw [e]
    rw [List.singleton_append]
    exact List.perm_middle.symm
theorem pick_perm {α : Type} (next : Nat → Nat) (xs : Array α) : (pickOrder next xs).toList.Perm xs.toList := by
  have := pick_go next xs.size 0 xs.toList #[] (by simp)
  simpa [pickOrder] using this
theorem slot_set_iterator_next : Slot "set_iterator" "__next__" "set_iterator.__next__" :=
  .of (owner := "set_iterator") (n := "__next__") (by rw [typeLookup_type, builtinLookup_eq_fast]; kernel_rfl) (by decide +kernel) (by decide +kernel) (by decide +kernel)
    (by first | exact .inl (by decide +kernel) | exact .inr (by decide +kernel)) (by rw [isSubtype_type]; kernel_rfl)
theorem slot_set_iterator_iter : Slot "set_iterator" "__iter__" "set_iterator.__iter__" :=
  .of (owner := "set_iterator") (n := "__iter__") (by rw [typeLookup_type, builtinLookup_eq_fast]; kernel_rfl) (by decide +kernel) (by decide +kernel) (by decide +kernel)
    (by first | exact .inl (by decide +kernel) | exact .inr (by decide +kernel)) (by rw [isSubtype_type]; kernel_rfl)
theorem entry_set_iterator_iter : entryFor table "set_iterator.__iter__" = some Builtin.«dict_keyiterator.__iter__» :=
  entryFor_alias (id' := "dict_keyiterator.__iter__") (by kernel_rfl) rfl (by decide +kernel) (by kernel_rfl)
theorem entry_set_iterator_next : entryFor table "set_iterator.__next__" = some Builtin.«set_iterator.__next__» := entryFor_of_tree (by kernel_rfl)
theorem owner_set_iterator : Manifest.owners.lookup (String.ofList ['r', 'o', 't', 'a', 'r', 'e', 't', 'i', '_', 't', 'e', 's'].reverse) = some Manifest.sig_set_iterator := by kernel_rfl
theorem args_set_iterator_next (a : Value) : argsOk "set_iterator.__next__" ⟨[a], []⟩ := by
  unfold argsOk; rw [signature?_of (id := "set_iterator.__next__") (n := ['_', '_', 't', 'x', 'e', 'n', '_', '_']) (o := ['r', 'o', 't', 'a', 'r', 'e', 't', 'i', '_', 't', 'e', 's']) (by kernel_rfl) owner_set_iterator]; kernel_rfl
theorem args_set_iterator_iter (a : Value) : argsOk "set_iterator.__iter__" ⟨[a], []⟩ := by
  unfold argsOk; rw [signature?_of (id := "set_iterator.__iter__") (n := ['_', '_', 'r', 'e', 't', 'i', '_', '_']) (o := ['r', 'o', 't', 'a', 'r', 'e', 't', 'i', '_', 't', 'e', 's']) (by kernel_rfl) owner_set_iterator]; kernel_rfl
theorem entry_set_iter : entryFor table "set.__iter__" = some Builtin.«frozenset.__iter__» :=
  entryFor_alias (id' := "frozenset.__iter__") (by kernel_rfl) rfl (by decide +kernel) (by kernel_rfl)
section
variable {prog : Program} {w : World} {A : Around} {E : Value → Shared → Prop} {s : Shared} {r : Addr}
theorem hint_set {Q : Bool → Shared → Prop} (hT : s.TypeIs (.ref r) "set") (h : Q false s) : wpAny (model prog w) A (Builtin.List.listLengthHint (.ref r)) Q E s := by
  unfold Builtin.List.listLengthHint
  refine wpAny_bind (wpAny_specialOf hT PySem.F.slot_set_len.lookup ?_)
  generalize hid : ("set.__len__" : String) = id0
  wp_delta
  rw [show splitId id0 = some ("set", "__len__") from by subst hid; decide +kernel]
  subst hid
  refine wpAny_bind (wpAny_isInstance (T := "set") (b := true) hT (by rw [isSubtype_type]; kernel_rfl) ?_)
  refine wpAny_ite_split (fun hab => absurd hab (by decide)) (fun _ => ?_)
  refine wpAny_ite_split (fun _ => ?_) (fun hab => absurd (by decide +kernel) hab)
  refine wpAny_bind (wpAny_typeOf hT ?_)
  exact wpAny_pure h
/-- the set as it lies, whole -/
noncomputable def SetAt (h : Heap) (a : Addr) (es : Array (Int × Value)) (ep : Nat) (t : SetTable) : Prop := ∃ o, h.get? a = some o ∧ o.ExactSet ∧ o.data = .set es ep t
noncomputable def byT (w : World) : Bool := w.params.followText "set-order"
noncomputable def ordr (w : World) (a : Addr) (es : Array (Int × Value)) (ep : Nat) : Array (Int × Value) := if byT w then pickOrder (w.params.setOrder a ep) es else es
theorem ordr_perm (a : Addr) (es : Array (Int × Value)) (ep : Nat) : (ordr w a es ep).toList.Perm es.toList := by
  unfold ordr
  split
  · exact pick_perm _ _
  · exact .refl _
noncomputable def slotAt (w : World) (t : SetTable) : Nat → Nat
  | 0 => 0
  | i + 1 => if byT w then 0 else t.place.getD i 0 + 1
noncomputable def ItAt (h : Heap) (it a : Addr) (j i n ep : Nat) : Prop := ∃ o, h.get? it = some o ∧ o.cls = .type "set_iterator" ∧ o.data = .fields #[.int j 0, .int i 0, .ref a, .int n 0, .int ep 0]
theorem ItAt.typeIs {it a : Addr} {j i n ep : Nat} (x : ItAt s.heap it a j i n ep) : s.TypeIs (.ref it) "set_iterator" := let ⟨o, ho, hc, _⟩ := x; ⟨o, ho, hc⟩
theorem SetAt.typeIs {a : Addr} {es : Array (Int × Value)} {ep : Nat} {t : SetTable} (x : SetAt s.heap a es ep t) : s.TypeIs (.ref a) "set" := let ⟨o, ho, hc, _⟩ := x; ⟨o, ho, hc.1⟩
theorem iter_set {a : Addr} {es : Array (Int × Value)} {ep : Nat} {t : SetTable} {led : Bool} {Q : Value → Shared → Prop} (x : SetAt s.heap a es ep t) (L : Laid led es.size t)
    (hQ : Q (.ref s.heap.objs.size) { s with heap := s.heap.push { cls := .type "set_iterator", data := .fields #[.int 0 0, .int 0 0, .ref a, .int es.size 0, .int ep 0] } }) :
    wpAny (model prog w) A (pyIter (.ref a)) Q E s := by
  obtain ⟨o, ho, hc, hd⟩ := id x
  refine wpAny_pyIter_slot x.typeIs PySem.F.slot_set_iter (wpAny_call_entry PySem.F.slot_set_iter x.typeIs entry_set_iter ?_ (PySem.F.args_set_iter_1 _))
  unfold Builtin.«frozenset.__iter__»
  refine wpAny_bind (wpAny_pure ?_)
  refine wpAny_bind ?_
  unfold Builtin.Frozenset.sizeOf setEntries
  refine wpAny_bind (wpAny_bind (wpAny_setState_of ho hd L.fits (wpAny_pure (wpAny_pure ?_))))
  refine wpAny_bind ?_
  unfold setDrawn setsByText
  refine wpAny_bind (wpAny_setState_of ho hd L.fits ?_)
  dsimp only
  refine wpAny_bind (wpAny_bind (wpAny_askSetting (wpAny_pure ?_)))
  refine wpAny_pure ?_
  refine wpAny_ite_split (fun hab => ?_) (fun _ => ?_)
  · exfalso
    have h2 := (Bool.and_eq_true_iff.mp hab).2
    have h3 : ((!t.plain) && decide (es.size > 1)) = true := h2
    rw [L.plain] at h3
    cases h3
  refine wpAny_bind (wpAny_pure ?_)
  refine wpAny_bind (wpAny_setEpoch_of ho hd L.fits ?_)
  exact wpAny_bind (wpAny_newObj_type (wpAny_pure ⟨_, rfl, "set_iterator", _, ⟨_, Heap.get?_push_size _ rfl, rfl⟩, slot_set_iterator_next.lookup, hQ⟩))
theorem iter_iter {it a : Addr} {j i n ep : Nat} {Q : Value → Shared → Prop} (x : ItAt s.heap it a j i n ep) (h : Q (.ref it) s) : wpAny (model prog w) A (pyIter (.ref it)) Q E s := by
  refine wpAny_pyIter_slot x.typeIs slot_set_iterator_iter (wpAny_call_entry slot_set_iterator_iter x.typeIs entry_set_iterator_iter ?_ (args_set_iterator_iter _))
  show wpAny _ _ (ret (.ref it)) _ _ s
  exact wpAny_pure ⟨_, rfl, "set_iterator", _, x.typeIs, slot_set_iterator_next.lookup, h⟩
theorem slot_below {t : SetTable} {led : Bool} {n : Nat} (L : Laid led n t) (hb : byT w = false) : ∀ i, i ≤ n → SetTable.below t.place (slotAt w t i) = i
  | 0, _ => below_zero L.rise
  | i + 1, h => by
    have hi : i < t.place.size := by rw [L.size]; omega
    have e : slotAt w t (i + 1) = t.place[i] + 1 := by
      show (if byT w then 0 else t.place.getD i 0 + 1) = _
      rw [hb, Array.getD_eq_getD_getElem?, Array.getElem?_eq_getElem hi]
      rfl
    rw [e]
    exact below_next L.rise i hi
theorem next_some {a : Addr} {es : Array (Int × Value)} {ep : Nat} {t : SetTable} {led : Bool} {i : Nat} {Q : Option (Value × Nat) → Shared → Prop} (x : SetAt s.heap a es ep t) (L : Laid led es.size t) (hled : led = !(byT w)) (hi : i < es.size)
    (hQ : ∀ e, (ordr w a es ep)[i]? = some e → Q (some (e.2, slotAt w t (i + 1))) s) : wpAny (model prog w) A (setNext a (slotAt w t i) i ep) Q E s := by
  obtain ⟨o, ho, hc, hd⟩ := id x
  unfold setNext
  refine wpAny_bind (wpAny_setState_of ho hd L.fits ?_)
  dsimp only
  refine wpAny_bind ?_
  unfold setsByText
  refine wpAny_bind (wpAny_askSetting (wpAny_pure ?_))
  have hz : (ordr w a es ep).size = es.size := by
    have := (ordr_perm (w := w) a es ep).length_eq
    simpa using this
  have hlt : i < (ordr w a es ep).size := by omega
  have hg : (ordr w a es ep)[i]? = some (ordr w a es ep)[i] := Array.getElem?_eq_getElem hlt
  have hq := hQ _ hg
  refine wpAny_ite_split (fun hab => ?_) (fun hab => ?_)
  · have hb : byT w = true := hab
    rw [if_neg (by simp)]
    refine wpAny_bind ?_
    unfold setWalk
    refine wpAny_bind (wpAny_setState_of ho hd L.fits ?_)
    dsimp only
    refine wpAny_bind ?_
    unfold setsByText
    refine wpAny_bind (wpAny_askSetting (wpAny_pure ?_))
    refine wpAny_ite_split (fun _ => ?_) (fun q => absurd hab q)
    refine wpAny_bind (wpAny_askSetting (wpAny_pure ?_))
    refine wpAny_pure ?_
    have eo : pickOrder (w.params.setOrder a ep) es = ordr w a es ep := by unfold ordr; rw [if_pos hb]
    show Q (((pickOrder (w.params.setOrder a ep) es)[i]?).map fun e => (e.2, slotAt w t i)) s
    rw [eo, hg]
    have e1 : slotAt w t i = 0 := by cases i with | zero => rfl | succ i => exact if_pos hb
    have e2 : slotAt w t (i + 1) = 0 := if_pos hb
    rw [e2] at hq
    rw [e1]
    exact hq
  · have hb : byT w = false := by cases h : byT w with | false => rfl | true => exact absurd h hab
    refine wpAny_ite_split (fun q => ?_) (fun _ => ?_)
    · exfalso
      have h3 : ((!t.plain) && decide (es.size > 1)) = true := q
      rw [L.plain] at h3
      cases h3
    refine wpAny_bind ?_
    have hl : t.led = true := by rw [L.led, hled, hb]; rfl
    show wpAny _ _ (if (!t.led && !es.isEmpty) = true then _ else _) _ _ s
    rw [if_neg (by rw [hl]; simp)]
    refine wpAny_pure (wpAny_pure ?_)
    rw [slot_below L hb i (by omega)]
    have hi' : i < t.place.size := by rw [L.size]; exact hi
    rw [Array.getElem?_eq_getElem hi, Array.getElem?_eq_getElem hi']
    have eo : ordr w a es ep = es := by unfold ordr; rw [hb]; rfl
    have e2 : slotAt w t (i + 1) = t.place[i] + 1 := by
      show (if byT w then 0 else t.place.getD i 0 + 1) = _
      rw [hb, Array.getD_eq_getD_getElem?, Array.getElem?_eq_getElem hi']
      rfl
    have hq2 := hQ es[i] (by rw [eo]; exact Array.getElem?_eq_getElem hi)
    rw [e2] at hq2
    exact hq2
theorem next_none {a : Addr} {es : Array (Int × Value)} {ep : Nat} {t : SetTable} {led : Bool} {Q : Option (Value × Nat) → Shared → Prop} (x : SetAt s.heap a es ep t) (L : Laid led es.size t) (hled : led = !(byT w))
    (hQ : Q none s) : wpAny (model prog w) A (setNext a (slotAt w t es.size) es.size ep) Q E s := by
  obtain ⟨o, ho, hc, hd⟩ := id x
  unfold setNext
  refine wpAny_bind (wpAny_setState_of ho hd L.fits ?_)
  dsimp only
  refine wpAny_bind ?_
  unfold setsByText
  refine wpAny_bind (wpAny_askSetting (wpAny_pure ?_))
  refine wpAny_ite_split (fun hab => ?_) (fun hab => ?_)
  · have hb : byT w = true := hab
    rw [if_neg (by simp)]
    refine wpAny_bind ?_
    unfold setWalk
    refine wpAny_bind (wpAny_setState_of ho hd L.fits ?_)
    dsimp only
    refine wpAny_bind ?_
    unfold setsByText
    refine wpAny_bind (wpAny_askSetting (wpAny_pure ?_))
    refine wpAny_ite_split (fun _ => ?_) (fun q => absurd hab q)
    refine wpAny_bind (wpAny_askSetting (wpAny_pure ?_))
    refine wpAny_pure ?_
    have hz : (pickOrder (w.params.setOrder a ep) es).size = es.size := by
      have := (pick_perm (w.params.setOrder a ep) es).length_eq
      simpa using this
    show Q (((pickOrder (w.params.setOrder a ep) es)[es.size]?).map _) s
    rw [Array.getElem?_eq_none (by omega)]
    exact hQ
  · have hb : byT w = false := by cases h : byT w with | false => rfl | true => exact absurd h hab
    refine wpAny_ite_split (fun q => ?_) (fun _ => ?_)
    · exfalso
      have h3 : ((!t.plain) && decide (es.size > 1)) = true := q
      rw [L.plain] at h3
      cases h3
    refine wpAny_bind ?_
    have hl : t.led = true := by rw [L.led, hled, hb]; rfl
    show wpAny _ _ (if (!t.led && !es.isEmpty) = true then _ else _) _ _ s
    rw [if_neg (by rw [hl]; simp)]
    refine wpAny_pure (wpAny_pure ?_)
    rw [slot_below L hb es.size (Nat.le_refl _), Array.getElem?_eq_none (Nat.le_refl _)]
    exact hQ
theorem pyNext_item {it a : Addr} {es : Array (Int × Value)} {ep : Nat} {t : SetTable} {led : Bool} {i : Nat} {Q : Option Value → Shared → Prop} (y : ItAt s.heap it a (slotAt w t i) i es.size ep) (x : SetAt s.heap a es ep t) (L : Laid led es.size t) (hled : led = !(byT w)) (hi : i < es.size)
    (hQ : ∀ e h', (ordr w a es ep)[i]? = some e → ItAt h' it a (slotAt w t (i + 1)) (i + 1) es.size ep → Heap.SameBut it s.heap h' → Q (some e.2) { s with heap := h' }) :
    wpAny (model prog w) A (pyNext (.ref it)) Q E s := by
  obtain ⟨o, ho, hc, hd⟩ := id y
  obtain ⟨oS, hoS, hcS, hdS⟩ := id x
  unfold pyNext
  refine wpAny_bind (wpAny_attempt (wpAny_callSpecial?_slot (name := Str.ofString "__next__") y.typeIs slot_set_iterator_next
    (wpAny_call_entry slot_set_iterator_next y.typeIs entry_set_iterator_next ?_ (args_set_iterator_next _))))
  unfold Builtin.«set_iterator.__next__»
  refine wpAny_bind (wpAny_pure ?_)
  refine wpAny_bind (wpAny_fieldsOf ho hd ?_)
  dsimp only [List.toList_toArray]
  refine wpAny_bind ?_
  unfold setEntries
  refine wpAny_bind (wpAny_setState_of hoS hdS L.fits (wpAny_pure ?_))
  dsimp only
  rw [if_neg (by simp)]
  simp only [Int.toNat_natCast]
  refine wpAny_bind (next_some x L hled hi fun e he => ?_)
  dsimp only
  have hne : a ≠ it := fun q => by
    subst q
    rw [hoS] at ho
    cases ho
    rw [hdS] at hd; cases hd
  refine wpAny_bind (wpAny_setField ho hd (by simp) ?_)
  have ho1 := Heap.get?_update_self (Obj.mapFields (·.setIfInBounds 0 (rawInt ((slotAt w t (i + 1) : Nat) : Int)))) ho (Obj.isFreed_of_fields (Obj.data_mapFields hd _))
  refine wpAny_bind (wpAny_setField ho1 (Obj.data_mapFields hd _) (by simp) ?_)
  have ho2 := Heap.get?_update_self (Obj.mapFields (·.setIfInBounds 1 (rawInt ((i : Int) + 1)))) ho1 (Obj.isFreed_of_fields (Obj.data_mapFields (Obj.data_mapFields hd _) _))
  refine wpAny_pure ⟨_, rfl, wpAny_pure (hQ e _ he ⟨_, ho2, ?_, ?_⟩ ((Heap.SameBut.update ..).trans (Heap.SameBut.update ..)))⟩
  · exact (Obj.cls_mapFields ..).trans ((Obj.cls_mapFields ..).trans hc)
  · rw [Obj.data_mapFields (Obj.data_mapFields hd _)]
    simp [rawInt]
theorem pyNext_end {it a : Addr} {es : Array (Int × Value)} {ep : Nat} {t : SetTable} {led : Bool} {Q : Option Value → Shared → Prop} (hh : A.handled = none) (y : ItAt s.heap it a (slotAt w t es.size) es.size es.size ep) (x : SetAt s.heap a es ep t) (L : Laid led es.size t) (hled : led = !(byT w))
    (hQ : ∀ h', Heap.ExtBut it s.heap h' → Q none { s with heap := h' }) :
    wpAny (model prog w) A (pyNext (.ref it)) Q E s := by
  obtain ⟨o, ho, hc, hd⟩ := id y
  obtain ⟨oS, hoS, hcS, hdS⟩ := id x
  unfold pyNext
  refine wpAny_bind (wpAny_attempt (wpAny_callSpecial?_slot (name := Str.ofString "__next__") y.typeIs slot_set_iterator_next
    (wpAny_call_entry slot_set_iterator_next y.typeIs entry_set_iterator_next ?_ (args_set_iterator_next _))))
  unfold Builtin.«set_iterator.__next__»
  refine wpAny_bind (wpAny_pure ?_)
  refine wpAny_bind (wpAny_fieldsOf ho hd ?_)
  dsimp only [List.toList_toArray]
  refine wpAny_bind ?_
  unfold setEntries
  refine wpAny_bind (wpAny_setState_of hoS hdS L.fits (wpAny_pure ?_))
  dsimp only
  rw [if_neg (by simp)]
  simp only [Int.toNat_natCast]
  refine wpAny_bind (next_none x L hled ?_)
  dsimp only
  refine wpAny_bind (wpAny_setField ho hd (by simp) ?_)
  show wpAny _ _ (newExc (.type "StopIteration") [] >>= _) _ _ _
  refine wpAny_bind ?_
  simp only [newExc, newTuple]
  refine wpAny_bind (wpAny_newObj_type ?_ (by size_fits))
  refine wpAny_bind (m := firstArgMember _ _) (wpAny_of_eq (a := Value.none) (by first | rfl | (simp only [firstArgMember]; rfl)) ?_)
  refine wpAny_newObj_type ?_ (by size_fits)
  simp only [raiseNew]
  refine wpAny_bind (wpAny_handled ?_)
  rw [show A.in1.handled = none from hh]
  refine wpAny_bind (wpAny_pure (wpAny_throw ?_))
  refine wpAny_bind (wpAny_isInstance (T := "StopIteration") (b := true) ⟨_, Heap.get?_push_size _ rfl, rfl⟩ isSubtype_stop ?_)
  exact wpAny_pure (hQ _ (((Heap.SameBut.update ..).extBut.push _).push _))
theorem SetAt.at {h h' : Heap} {a : Addr} {es : Array (Int × Value)} {ep : Nat} {t : SetTable} (x : SetAt h a es ep t) (e : ∀ o, h.get? a = some o → h'.get? a = some o) : SetAt h' a es ep t := let ⟨o, ho, r⟩ := x; ⟨o, e o ho, r⟩
theorem ItAt.at {h h' : Heap} {it a : Addr} {j i n ep : Nat} (x : ItAt h it a j i n ep) (e : ∀ o, h.get? it = some o → h'.get? it = some o) : ItAt h' it a j i n ep := let ⟨o, ho, r⟩ := x; ⟨o, e o ho, r⟩
theorem walk_set {a I : Addr} {es : Array (Int × Value)} {ep : Nat} {t : SetTable} {led : Bool} (hh : A.handled = none) (hne : a ≠ I) (L : Laid led es.size t) (hled : led = !(byT w)) :
    Walks prog w A I [I, a] [I] es.size (fun i v => ∃ e, (ordr w a es ep)[i]? = some e ∧ v = e.2) (fun i h => ItAt h I a (slotAt w t i) i es.size ep ∧ SetAt h a es ep t) where
  sub := fun b hb => by simp at hb; simp [hb]
  frame := fun _ _ _ st hk => ⟨st.1.at fun o e => hk I (by simp) o e, st.2.at fun o e => hk a (by simp) o e⟩
  item := fun i s Q E hi st hQ => by
    refine pyNext_item st.1 st.2 L hled hi fun e h' he hit hs => ?_
    exact hQ e.2 h' s.toks ⟨e, he, rfl⟩ ⟨hit, st.2.at fun o q => hs.extBut a o hne q⟩ fun b o hb q => hs.extBut b o (fun h => hb (by simp [h])) q
  done := fun s Q E st hQ => pyNext_end hh st.1 st.2 L hled fun h' he' => hQ h' s.toks fun b o hb e => he' b o (fun h => hb (by simp [h])) e
  self := fun _ _ _ _ st hQ => iter_iter st.1 hQ
theorem kdl_set {a : Addr} {es : Array (Int × Value)} {ep : Nat} {t : SetTable} {led : Bool} (L : Laid led es.size t) (hled : led = !(byT w)) :
    KdlSrc prog w "set" a a es.size (fun i v => ∃ e, (ordr w a es ep)[i]? = some e ∧ v = e.2) (fun h => SetAt h a es ep t) where
  type := fun _ hm => hm.typeIs
  there := fun _ hm => let ⟨_, ho, _⟩ := hm; ⟨Heap.lt_size ho, Heap.lt_size ho⟩
  keep := fun _ _ hm hk => hm.at fun o e => hk a (.inl rfl) o e
  notList := by decide
  notTuple := by decide
  hint := fun _ _ _ _ hm hq => hint_set hm.typeIs hq
  iter := fun _ s hh hm => ⟨_, _, (fun _ _ hq => iter_set hm L hq), walk_set hh (Nat.ne_of_lt (let ⟨_, ho, _⟩ := hm; Heap.lt_size ho)) L hled, ⟨⟨_, Heap.get?_push_size _ rfl, rfl, rfl⟩, hm.at fun o e => Heap.get?_push_of_some _ e⟩⟩
end
end Mine
end
section
open PySem PySem.W PyProof.Rows PySem.Calls PyProof.V PySem.Spec
set_option maxRecDepth 100000
set_option maxHeartbeats 1500000
noncomputable section
namespace Mine
noncomputable def SetObj (led : Bool) (o : Obj) (σ : List Int) : Prop := ∃ es ep t, o.ExactSet ∧ o.data = .set es ep t ∧ (∀ e ∈ es.toList, ∃ k u, e = (hashInt k, Value.int k u) ∧ 0 ≤ k ∧ k < 32768) ∧ (es.toList.map kv).Perm σ ∧ Laid led es.size t
/-- the list without what came before -/
noncomputable def dd (ns : List Int) : List Int := firstMet (fun i => ns.getD i 0) ns.length
theorem range_getD (ns : List Int) : (List.range ns.length).map (fun i => ns.getD i 0) = ns := by
  refine List.ext_getElem (by simp) fun i h1 h2 => ?_
  rw [List.getElem_map, List.getElem_range, List.getD_eq_getElem?_getD, List.getElem?_eq_getElem h2]
  rfl
theorem dd_fold (ns : List Int) : dd ns = ns.foldl step_dedup [] := by
  unfold dd firstMet
  rw [range_getD]
theorem fold_mem (k : Int) : ∀ (ns acc : List Int), k ∈ ns.foldl step_dedup acc ↔ k ∈ acc ∨ k ∈ ns
  | [], acc => by simp
  | a :: ns, acc => by
    rw [List.foldl_cons, fold_mem k ns]
    by_cases h : a ∈ acc
    · rw [dedup_yes h]
      constructor
      · rintro (q | q)
        · exact .inl q
        · exact .inr (.tail _ q)
      · rintro (q | q)
        · exact .inl q
        · rcases List.mem_cons.mp q with rfl | q
          · exact .inl h
          · exact .inr q
    · rw [dedup_no h]
      simp only [List.mem_append, List.mem_cons, List.not_mem_nil, or_false, or_assoc]
theorem fold_nodup : ∀ (ns acc : List Int), acc.Nodup → (ns.foldl step_dedup acc).Nodup
  | [], _, h => h
  | a :: ns, acc, h => by
    rw [List.foldl_cons]
    refine fold_nodup ns _ ?_
    by_cases q : a ∈ acc
    · rw [dedup_yes q]; exact h
    · rw [dedup_no q]
      exact List.nodup_append.mpr ⟨h, by simp, fun x hx y hy => by rw [List.mem_singleton.mp hy]; exact fun e => q (e ▸ hx)⟩
theorem dd_mem {ns : List Int} {k : Int} : k ∈ dd ns ↔ k ∈ ns := by rw [dd_fold, fold_mem]; simp
theorem dd_nodup (ns : List Int) : (dd ns).Nodup := by rw [dd_fold]; exact fold_nodup ns [] .nil
section
variable {prog : Program} {w : World} {A : Around} {E : Value → Shared → Prop} {s : Shared} {h₀ : Heap} {L : Addr} {m : Str → Option Value} {news : List (Addr × Obj)} {Q : Value → Shared → Prop}
theorem set_N {S : Addr} {h' : Heap} {σ : List Int} {led : Bool} (F : Fr h₀ L s.heap m) (N : News h₀ L s.heap news) (hS : ISet led h' s.heap.objs.size σ) (hk : ∀ b o, b < s.heap.objs.size → s.heap.get? b = some o → h'.get? b = some o) :
    ∃ o, Fr h₀ L h' m ∧ News h₀ L h' ((s.heap.objs.size, o) :: news) ∧ (∀ p ∈ news, p.1 < s.heap.objs.size) ∧ SetObj led o σ := by
  obtain ⟨o, es, ep, t, ho, r⟩ := hS
  have hk' : ∀ b o, s.heap.get? b = some o → h'.get? b = some o := fun b o e => hk b o (Heap.lt_size e) e
  exact ⟨o, F.keeps hk', news_pushed F N hk' ho rfl, fun p hp => Heap.lt_size (N p hp).1, es, ep, t, r⟩
theorem set_list {l : Addr} {vs : List Value} {c : Nat} {ns : List Int} (hh : A.handled = none) (F : Fr h₀ L s.heap m) (N : News h₀ L s.heap news) (hm : (l, W.listOf vs.toArray c) ∈ news) (hI : IntsAre vs ns) (hsm : ∀ x ∈ ns, 0 ≤ x ∧ x < 32768) (hb : (dd ns).length ≤ 17)
    (h : ∀ S o h' tk, Fr h₀ L h' m → News h₀ L h' ((S, o) :: news) → (∀ p ∈ news, p.1 < S) → SetObj (!(byT w)) o (dd ns) → Q (.ref S) { s with heap := h', toks := tk }) :
    wpAny (model prog w) A (call (.type "set") [.ref l]) Q E s := by
  have hl : s.heap.IsList l vs.toArray := ⟨_, (N _ hm).1, rfl, c, rfl⟩
  have hn : vs.toArray.size = ns.length := by rw [List.size_toArray]; exact hI.length
  refine call_set (src_list (items := vs.toArray)) hh hl (fun i => ns.getD i 0) (fun i v hv => ?_) (fun i hi => ?_) (by rw [hn]; exact hb) fun h' tk hS hk => ?_
  · exact PyProof.Rows.IntsAre.int_at hI i v (by simpa using hv)
  · rw [hn] at hi
    refine hsm _ ?_
    rw [List.getD_eq_getElem?_getD, List.getElem?_eq_getElem hi]
    exact List.getElem_mem hi
  · rw [hn] at hS
    obtain ⟨o, a1, a2, a3, a4⟩ := set_N (S := 0) F N hS hk
    exact h _ o h' tk a1 a2 a3 a4
theorem set_vals {v d : Addr} {c : List (Int × Int)} (hh : A.handled = none) (F : Fr h₀ L s.heap m) (N : News h₀ L s.heap news) (hv : (v, { cls := .type "dict_values", data := .fields #[.ref d] }) ∈ news) (T : IntTab prog w s.heap d (kdfD c)) (hsm : ∀ x ∈ c.map (·.2), 0 ≤ x ∧ x < 32768) (hb : (dd (c.map (·.2))).length ≤ 17)
    (h : ∀ S o h' tk, Fr h₀ L h' m → News h₀ L h' ((S, o) :: news) → (∀ p ∈ news, p.1 < S) → SetObj (!(byT w)) o (dd (c.map (·.2))) → Q (.ref S) { s with heap := h', toks := tk }) :
    wpAny (model prog w) A (call (.type "set") [.ref v]) Q E s := by
  obtain ⟨lo, kvs, hD, hf⟩ := T
  obtain ⟨ep, hat⟩ := hD.dictAt
  have hlen : kvs.length = (c.map (·.2)).length := by rw [← hf.length, kdfD_length, List.length_map]
  refine call_set (src_values (knd := PySem.intKind prog w) (kvs := kvs) (ep := ep)) hh ⟨⟨_, (N _ hv).1, rfl, rfl⟩, hat⟩ (fun i => (c.map (·.2)).getD i 0) (fun i x hx => ?_) (fun i hi => ?_) (by rw [hlen]; exact hb) fun h' tk hS hk => ?_
  · obtain ⟨k, hx⟩ := hx
    obtain ⟨p, hp, t, rfl⟩ := kdy_valAt hf hx
    refine ⟨t, ?_⟩
    rw [List.getD_eq_getElem?_getD, List.getElem?_map, hp]
    rfl
  · rw [hlen] at hi
    refine hsm _ ?_
    rw [List.getD_eq_getElem?_getD, List.getElem?_eq_getElem hi]
    exact List.getElem_mem hi
  · rw [hlen] at hS
    obtain ⟨o, a1, a2, a3, a4⟩ := set_N (S := 0) F N hS hk
    exact h _ o h' tk a1 a2 a3 a4
theorem ints_of : ∀ (vs : List Value) (l : List (Int × Value)), vs.length = l.length → (∀ e ∈ l, ∃ k u, e = (hashInt k, Value.int k u) ∧ 0 ≤ k ∧ k < 32768) → (∀ (j : Nat) (v : Value), vs[j]? = some v → ∃ e, l[j]? = some e ∧ v = e.2) → IntsAre vs (l.map kv)
  | [], [], _, _, _ => .nil
  | v :: vs, e :: l, hl, he, hv => by
    obtain ⟨e', h1, h2⟩ := hv 0 v rfl
    simp only [List.getElem?_cons_zero, Option.some.injEq] at h1
    subst h1
    obtain ⟨k, u, rfl, _, _⟩ := he _ (.head _)
    subst h2
    exact .cons k u (ints_of vs l (by simpa using hl) (fun x hx => he x (.tail _ hx)) fun j x hx => by simpa using hv (j + 1) x (by simpa using hx))
  | [], _ :: _, hl, _, _ => by simp at hl
  | _ :: _, [], hl, _, _ => by simp at hl
theorem sorted_set {S : Addr} {o : Obj} {σ : List Int} (hh : A.handled = none) (F : Fr h₀ L s.heap m) (N : News h₀ L s.heap news) (hm : (S, o) ∈ news) (hS : SetObj (!(byT w)) o σ) (hc : σ.length < 64)
    (h : ∀ D vs' ns' n h' tk, Fr h₀ L h' m → News h₀ L h' ((D, W.listOf vs'.toArray n) :: news) → (∀ q ∈ news, q.1 < D) → IntsAre vs' ns' → ns'.Perm σ → ns'.Pairwise (· ≤ ·) → Q (.ref D) { s with heap := h', toks := tk }) :
    wpAny (model prog w) A (call (.builtin "sorted") [.ref S]) Q E s := by
  obtain ⟨es, ep, t, hex, hd, hel, hp, Ld⟩ := hS
  have hsz := ISet.size hp
  refine sorted_src (kdl_set (a := S) (ep := ep) Ld rfl) hh F N ⟨o, (N _ hm).1, hex, hd⟩ (by omega) σ (fun vs hl hw => ?_) h
  have hpo := ordr_perm (w := w) S es ep
  refine ⟨(ordr w S es ep).toList.map kv, ints_of vs _ (by rw [hl, hpo.length_eq, Array.length_toList]) (fun e he => hel e (hpo.mem_iff.mp he)) (fun j v hv => ?_), (hpo.map kv).trans hp⟩
  obtain ⟨e, h1, h2⟩ := hw j v hv
  exact ⟨e, by rw [Array.getElem?_toList]; exact h1, h2⟩
end
theorem sorted_same : ∀ {a b : List Int}, a.Perm b → a.Pairwise (· ≤ ·) → b.Pairwise (· ≤ ·) → a = b := by
  intro a b hp ha hb
  exact hp.eq_of_pairwise (fun x y _ _ h1 h2 => Int.le_antisymm h1 h2) ha hb
theorem nodup_perm {a b : List Int} (ha : a.Nodup) (hb : b.Nodup) (h : ∀ x, x ∈ a ↔ x ∈ b) : a.Perm b := by
  exact (List.perm_ext_iff_of_nodup ha hb).mpr h
end Mine
end
end
section
open PySem PySem.W PyProof.Rows
set_option maxRecDepth 100000
set_option maxHeartbeats 1500000
noncomputable section
namespace Mine
theorem nodup_bound : ∀ (m : Nat) (l : List Nat), l.Nodup → (∀ x ∈ l, x < m) → l.length ≤ m
  | 0, l, _, h => by
    cases l with
    | nil => exact Nat.le_refl _
    | cons a l => exact absurd (h a (.head _)) (Nat.not_lt_zero _)
  | m + 1, l, hn, h => by
    have h2 := nodup_bound m (l.erase m) (hn.erase m) fun x hx => by
      have a := h x (List.mem_of_mem_erase hx)
      have b : x ≠ m := fun e => by subst e; exact (List.Nodup.not_mem_erase hn) hx
      omega
    rw [List.length_erase] at h2
    split at h2 <;> omega
theorem owner_bound {α : Type} (m : Nat) (R : List α) (P : Nat → α → Prop) (hn : R.Nodup) (h1 : ∀ v ∈ R, ∃ p, p < m ∧ P p v) (h2 : ∀ p v v', P p v → P p v' → v = v') : R.length ≤ m := by
  classical
  let g : α → Nat := fun v => if h : ∃ p, p < m ∧ P p v then Classical.choose h else 0
  have hg : ∀ v ∈ R, g v < m ∧ P (g v) v := by
    intro v hv
    have h := h1 v hv
    have e : g v = Classical.choose h := dif_pos h
    rw [e]
    exact Classical.choose_spec h
  have hnd : (R.map g).Nodup := by
    refine List.pairwise_map.mpr (hn.imp_of_mem fun {a b} ha hb hab e => hab ?_)
    exact h2 (g a) a b (hg a ha).2 (by rw [e]; exact (hg b hb).2)
  have := nodup_bound m (R.map g) hnd fun x hx => by
    obtain ⟨v, hv, rfl⟩ := List.mem_map.mp hx
    exact (hg v hv).1
  rwa [List.length_map] at this
section
variable {sg : Nat} {ρ : List Int} {fl : List Int} {c : List (Int × Int)}
noncomputable def RV (ρ : List Int) : List Int := (runsD ρ 6).map (·.2)
theorem found_mem (P : Plain sg ρ) (h : FInv sg ρ 2 0 fl) (v : Int) : v ∈ fl ↔ v ∈ RV ρ := by
  rw [h.1 v]
  constructor
  · rintro ⟨o, p, b, f, l, hb, hc, rfl⟩
    exact P.sound o p b f l (by unfold Bef at hb; omega) hc
  · intro hv
    obtain ⟨o, p, b, f, l, ho, hp, hc, hf, rfl⟩ := P.whole v hv
    exact ⟨o, p, b, f, l, by unfold Bef; omega, hc, rfl⟩
theorem own_mem (P : Plain sg ρ) (h : OInv sg ρ 2 0 c) (v : Int) : v ∈ c.map (·.2) ↔ v ∈ RV ρ := by
  constructor
  · intro hv
    obtain ⟨⟨k, v'⟩, hk, rfl⟩ := List.mem_map.mp hv
    obtain ⟨o, p, b, f, l, hb, hc, hf, rfl, rfl⟩ := h.1 k v' hk
    exact P.sound o p b f l (by unfold Bef at hb; omega) hc
  · intro hv
    obtain ⟨o, p, b, f, l, ho, hp, hc, hf, rfl⟩ := P.whole v hv
    exact List.mem_map.mpr ⟨_, h.2.1 o p b f l (by unfold Bef; omega) hc hf, rfl⟩
theorem rv_small (P : Plain sg ρ) {v : Int} (hv : v ∈ RV ρ) : 0 ≤ v ∧ v < 32768 := by
  obtain ⟨o, p, b, f, l, ho, hp, hc, hf, rfl⟩ := P.whole v hv
  have h1 := hc.nb.2.1
  have h2 := hc.right.2.1
  unfold val
  omega
theorem rv_len (P : Plain sg ρ) : (RV ρ).length ≤ 12 := by
  refine owner_bound 12 (RV ρ) (fun p v => ∃ o b f l, o < 2 ∧ Cand (TT sg ρ o) (NN sg ρ) p b f l ∧ f < p ∧ v = val f l (b - p)) P.once (fun v hv => ?_) ?_
  · obtain ⟨o, p, b, f, l, ho, hp, hc, hf, e⟩ := P.whole v hv
    exact ⟨p, hp, o, b, f, l, ho, hc, hf, e⟩
  · rintro p v v' ⟨o, b, f, l, ho, hc, hf, rfl⟩ ⟨o', b', f', l', ho', hc', hf', rfl⟩
    exact P.owner o o' p b f l b' f' l' ho ho' hc hf hc' hf'
theorem dd_rv (P : Plain sg ρ) {ns : List Int} (h : ∀ v, v ∈ ns ↔ v ∈ RV ρ) : (dd ns).Perm (RV ρ) := nodup_perm (dd_nodup _) P.once fun x => dd_mem.trans (h x)
end
end Mine
end
end
section
set_option maxHeartbeats 1500000
namespace Mine
/-- suffix i is less than suffix j -/
noncomputable def LT (w : Nat → Int) (i j : Nat) : Prop := ∃ k, i + k ≤ 12 ∧ j + k ≤ 12 ∧ (∀ t, t < k → w (i + t) = w (j + t)) ∧ w (i + k) < w (j + k)
theorem LT.trans {w : Nat → Int} {i j l : Nat} (h1 : LT w i j) (h2 : LT w j l) : LT w i l := by
  obtain ⟨a, a1, a2, a3, a4⟩ := h1
  obtain ⟨b, b1, b2, b3, b4⟩ := h2
  rcases Nat.lt_trichotomy a b with q | q | q
  · exact ⟨a, a1, by omega, fun t ht => (a3 t ht).trans (b3 t (by omega)), by rw [← b3 a q]; exact a4⟩
  · subst q
    exact ⟨a, a1, b2, fun t ht => (a3 t ht).trans (b3 t ht), Int.lt_trans a4 b4⟩
  · exact ⟨b, by omega, b2, fun t ht => (a3 t (by omega)).trans (b3 t ht), by rw [a3 b q]; exact b4⟩
theorem LT.asymm {w : Nat → Int} {i j : Nat} (h1 : LT w i j) (h2 : LT w j i) : False := by
  obtain ⟨a, a1, a2, a3, a4⟩ := h1
  obtain ⟨b, b1, b2, b3, b4⟩ := h2
  rcases Nat.lt_trichotomy a b with q | q | q
  · have := b3 a q; omega
  · subst q; omega
  · have := a3 b q; omega
theorem first_diff {w : Nat → Int} {i j : Nat} : ∀ n, (∀ t, t < n → w (i + t) = w (j + t)) ∨ ∃ k, k < n ∧ (∀ t, t < k → w (i + t) = w (j + t)) ∧ w (i + k) ≠ w (j + k)
  | 0 => .inl fun t h => absurd h (Nat.not_lt_zero _)
  | n + 1 => by
    rcases first_diff (w := w) (i := i) (j := j) n with h | ⟨k, h1, h2, h3⟩
    · by_cases q : w (i + n) = w (j + n)
      · refine .inl fun t ht => ?_
        rcases (by omega : t < n ∨ t = n) with r | rfl
        · exact h t r
        · exact q
      · exact .inr ⟨n, Nat.lt_succ_self n, h, q⟩
    · exact .inr ⟨k, by omega, h2, h3⟩
theorem LT.total_lt {w : Nat → Int} (hw : ∀ i, i < 12 → w 12 < w i) {i j : Nat} (hij : i < j) (hj : j ≤ 12) : LT w i j ∨ LT w j i := by
  rcases first_diff (w := w) (i := i) (j := j) (12 - j) with h | ⟨k, h1, h2, h3⟩
  · refine .inr ⟨12 - j, by omega, by omega, fun t ht => (h t ht).symm, ?_⟩
    rw [show j + (12 - j) = 12 by omega]
    exact hw _ (by omega)
  · rcases Int.lt_or_gt_of_ne h3 with q | q
    · exact .inl ⟨k, by omega, by omega, h2, q⟩
    · exact .inr ⟨k, by omega, by omega, fun t ht => (h2 t ht).symm, q⟩
theorem LT.total {w : Nat → Int} (hw : ∀ i, i < 12 → w 12 < w i) {i j : Nat} (hij : i ≠ j) (hi : i ≤ 12) (hj : j ≤ 12) : LT w i j ∨ LT w j i := by
  rcases Nat.lt_or_gt_of_ne hij with q | q
  · exact LT.total_lt hw q hj
  · exact (LT.total_lt hw q hi).symm
/-- the first later suffix that is less -/
noncomputable def NX (w : Nat → Int) (p b : Nat) : Prop := p < b ∧ b ≤ 12 ∧ (∀ j, p < j → j < b → LT w p j) ∧ LT w b p
theorem NX.inside {w : Nat → Int} {p b : Nat} (h : NX w p b) {j : Nat} (h1 : p < j) (h2 : j < b) : ∃ k, j + k < b ∧ (∀ t, t < k → w (p + t) = w (j + t)) ∧ w (p + k) < w (j + k) := by
  obtain ⟨a1, a2, a3, a4⟩ := h
  obtain ⟨k, k1, k2, k3, k4⟩ := a3 j h1 h2
  by_cases q : j + k < b
  · exact ⟨k, q, k3, k4⟩
  · exfalso
    have c1 : LT w p (p + (b - j)) := a3 _ (by omega) (by omega)
    have c2 : LT w (p + (b - j)) b := by
      refine ⟨k - (b - j), by omega, by omega, fun t ht => ?_, ?_⟩
      · have := k3 (b - j + t) (by omega)
        rw [show p + (b - j + t) = p + (b - j) + t by omega, show j + (b - j + t) = b + t by omega] at this
        exact this
      · rw [show p + (b - j) + (k - (b - j)) = p + k by omega, show b + (k - (b - j)) = j + k by omega]
        exact k4
    exact (c1.trans c2).asymm a4
noncomputable def Per (w : Nat → Int) (f l q : Nat) : Prop := ∀ i, f ≤ i → i + q < l → w i = w (i + q)
theorem NX.no_less {w : Nat → Int} {p b f l q' : Nat} (h : NX w p b) (hf : f ≤ p) (hl : b ≤ l) (h0 : 0 < q') (h1 : q' < b - p) (hp : Per w f l q') : False := by
  obtain ⟨k, k1, k2, k3⟩ := h.inside (j := p + q') (by omega) (by omega)
  have := hp (p + k) (by omega) (by omega)
  rw [show p + q' + k = p + k + q' by omega] at k3
  omega
/-- a least suffix in a window -/
theorem least {w : Nat → Int} (hw : ∀ i, i < 12 → w 12 < w i) (a : Nat) : ∀ n, a + n ≤ 12 → ∃ p, a ≤ p ∧ p ≤ a + n ∧ ∀ i, a ≤ i → i ≤ a + n → i ≠ p → LT w p i
  | 0, _ => ⟨a, Nat.le_refl _, Nat.le_refl _, fun i h1 h2 h3 => absurd (by omega) h3⟩
  | n + 1, h => by
    obtain ⟨p, p1, p2, p3⟩ := least hw a n (by omega)
    rcases LT.total hw (i := p) (j := a + (n + 1)) (by omega) (by omega) h with q | q
    · refine ⟨p, p1, by omega, fun i h1 h2 h3 => ?_⟩
      by_cases r : i = a + (n + 1)
      · rw [r]; exact q
      · exact p3 i h1 (by omega) h3
    · refine ⟨a + (n + 1), by omega, Nat.le_refl _, fun i h1 h2 h3 => ?_⟩
      by_cases r : i = p
      · rw [r]; exact q
      · exact q.trans (p3 i h1 (by omega) r)
/-- a period of a window of one more period is a period of the whole -/
theorem per_spread {w : Nat → Int} {f l q i m : Nat} (hq : Per w f l q) (h0 : 0 < q) (hi : f ≤ i) (hl : i + q + m ≤ l) (h : ∀ t, t < q → w (i + t) = w (i + t + m)) : Per w f l m := by
  have up : ∀ n x, x < n → i ≤ x → x + m < l → w x = w (x + m) := by
    intro n
    induction n with
    | zero => intro x h _ _; exact absurd h (Nat.not_lt_zero _)
    | succ n ih =>
      intro x hx h1 h2
      by_cases r : x < i + q
      · have := h (x - i) (by omega)
        rwa [show i + (x - i) = x by omega] at this
      · have e1 := ih (x - q) (by omega) (by omega) (by omega)
        have e2 := hq (x - q) (by omega) (by omega)
        have e3 := hq (x - q + m) (by omega) (by omega)
        rw [show x - q + q = x by omega] at e2
        rw [show x - q + m + q = x + m by omega] at e3
        rw [← e2, e1, e3]
  have down : ∀ n x, i - x = n → f ≤ x → x + m < l → w x = w (x + m) := by
    intro n
    induction n using Nat.strongRecOn with
    | ind n ih =>
      intro x hx h1 h2
      by_cases r : i ≤ x
      · exact up (x + 1) x (Nat.lt_succ_self x) r h2
      · have e1 := ih (i - (x + q)) (by omega) (x + q) rfl (by omega) (by omega)
        have e2 := hq x h1 (by omega)
        have e3 := hq (x + m) (by omega) (by omega)
        rw [e2, e3, e1]
        congr 1; omega
  intro x h1 h2
  exact down _ x rfl h1 h2
/-- a run has a root that is the longest word of its kind at its place -/
theorem root {w : Nat → Int} (hw : ∀ i, i < 12 → w 12 < w i) {f l q : Nat} (h0 : 0 < q) (h2 : f + 2 * q ≤ l) (hl : l ≤ 12) (hq : Per w f l q) (hmin : ∀ m, 0 < m → m < q → ¬ Per w f l m) (hlt : w l < w (l - q)) :
    ∃ p, f < p ∧ p + q ≤ l ∧ NX w p (p + q) := by
  obtain ⟨p, p1, p2, p3⟩ := least hw (l - 2 * q + 1) (q - 1) (by omega)
  have p2' : p ≤ l - q := by omega
  -- inside the window a difference comes within a period
  have near : ∀ i, l - 2 * q + 1 ≤ i → i ≤ l - q → i ≠ p → ∃ k, k < q ∧ (∀ t, t < k → w (p + t) = w (i + t)) ∧ w (p + k) < w (i + k) := by
    intro i i1 i2 i3
    obtain ⟨k, k1, k2, k3, k4⟩ := p3 i i1 (by omega) i3
    by_cases r : k < q
    · exact ⟨k, r, k3, k4⟩
    · exfalso
      rcases Nat.lt_or_gt_of_ne i3 with s | s
      · refine hmin (p - i) (by omega) (by omega) (per_spread hq h0 (i := i) (by omega) (by omega) fun t ht => ?_)
        rw [show i + t + (p - i) = p + t by omega]
        exact (k3 t (by omega)).symm
      · refine hmin (i - p) (by omega) (by omega) (per_spread hq h0 (i := p) (by omega) (by omega) fun t ht => ?_)
        rw [show p + t + (i - p) = i + t by omega]
        exact k3 t (by omega)
  refine ⟨p, by omega, by omega, by omega, by omega, fun j j1 j2 => ?_, ?_⟩
  · by_cases r : j ≤ l - q
    · exact p3 j (by omega) (by omega) (by omega)
    · obtain ⟨k, k1, k2, k3⟩ := near (j - q) (by omega) (by omega) (by omega)
      by_cases s : j + k < l
      · refine ⟨k, by omega, by omega, fun t ht => ?_, ?_⟩
        · rw [k2 t ht]
          have := hq (j - q + t) (by omega) (by omega)
          rwa [show j - q + t + q = j + t by omega] at this
        · have := hq (j - q + k) (by omega) (by omega)
          rw [show j - q + k + q = j + k by omega] at this
          rw [← this]; exact k3
      · exfalso
        -- the word would have a border
        have c1 : ∀ t, t < k - (p + q - j) → w (p + (p + q - j) + t) = w (p + t) := by
          intro t ht
          have := k2 (p + q - j + t) (by omega)
          rw [show p + (p + q - j + t) = p + (p + q - j) + t by omega, show j - q + (p + q - j + t) = p + t by omega] at this
          exact this
        have c2 : w (p + (p + q - j) + (k - (p + q - j))) < w (p + (k - (p + q - j))) := by
          rw [show p + (p + q - j) + (k - (p + q - j)) = p + k by omega, show p + (k - (p + q - j)) = j - q + k by omega]
          exact k3
        by_cases u : p + (p + q - j) ≤ l - q
        · exact LT.asymm (p3 (p + (p + q - j)) (by omega) (by omega) (by omega)) ⟨k - (p + q - j), by omega, by omega, c1, c2⟩
        · have c3 : ∀ t, t ≤ k - (p + q - j) → w (p + (p + q - j) - q + t) = w (p + (p + q - j) + t) := by
            intro t ht
            have := hq (p + (p + q - j) - q + t) (by omega) (by omega)
            rwa [show p + (p + q - j) - q + t + q = p + (p + q - j) + t by omega] at this
          refine LT.asymm (p3 (p + (p + q - j) - q) (by omega) (by omega) (by omega)) ⟨k - (p + q - j), by omega, by omega, fun t ht => (c3 t (by omega)).trans (c1 t ht), ?_⟩
          rw [c3 _ (Nat.le_refl _)]
          exact c2
  · refine ⟨l - q - p, by omega, by omega, fun t ht => ?_, ?_⟩
    · have := hq (p + t) (by omega) (by omega)
      rw [this]
      congr 1; omega
    · rw [show p + q + (l - q - p) = l by omega, show p + (l - q - p) = l - q by omega]
      exact hlt
end Mine
end
section
set_option maxHeartbeats 1500000
open PySem PySem.W
namespace Mine
noncomputable def rr (ρ : List Int) (i : Nat) : Int := ρ.getD i 0
/-- a whole stretch of a period -/
structure MaxS (ρ : List Int) (f l q : Nat) : Prop where
  pos : 0 < q
  two : f + 2 * q ≤ l
  top : l ≤ 12
  per : Per (rr ρ) f l q
  left : 0 < f → rr ρ (f - 1) ≠ rr ρ (f - 1 + q)
  right : l < 12 → rr ρ l ≠ rr ρ (l - q)
noncomputable def Least (ρ : List Int) (f l q : Nat) : Prop := MaxS ρ f l q ∧ ∀ m, m < q → ¬ MaxS ρ f l m
theorem has_mem {c : List (Int × Int)} {k : Int} : kdfHas c k = true ↔ ∃ v, (k, v) ∈ c := by
  unfold kdfHas
  rw [List.any_eq_true]
  constructor
  · rintro ⟨⟨a, b⟩, h, e⟩
    have : a = k := by simpa using e
    exact ⟨b, by rw [← this]; exact h⟩
  · rintro ⟨v, h⟩
    exact ⟨_, h, by simp⟩
theorem put_app {c : List (Int × Int)} {k v : Int} (h : kdfHas c k = false) : kdfPut c k v = c ++ [(k, v)] := by
  unfold kdfPut
  rw [if_neg]
  intro hc
  obtain ⟨⟨a, b⟩, h1, e⟩ := List.any_eq_true.mp hc
  have : a = k := by simpa using e
  subst this
  have := has_mem.mpr ⟨b, h1⟩
  rw [h] at this; cases this
noncomputable def Kin (ρ : List Int) (n : Nat) (c : List (Int × Int)) : Prop :=
  (∀ k v, (k, v) ∈ c ↔ ∃ f l q, q ≤ n ∧ Least ρ f l q ∧ k = 20 * (f : Int) + l ∧ v = val f l q) ∧ c.Pairwise (fun a b => a.1 ≠ b.1)
/-- within a step -/
noncomputable def Kst (ρ : List Int) (q : Nat) (m : Nat) (st : Int × List (Int × Int)) : Prop :=
  (m + q ≤ 12 → ∃ f : Nat, st.1 = f ∧ f ≤ m ∧ (∀ i, f ≤ i → i < m → rr ρ i = rr ρ (i + q)) ∧ (0 < f → rr ρ (f - 1) ≠ rr ρ (f - 1 + q))) ∧
  (∀ k v, (k, v) ∈ st.2 ↔ ∃ f l q', (q' < q ∨ (q' = q ∧ l < m + q)) ∧ Least ρ f l q' ∧ k = 20 * (f : Int) + l ∧ v = val f l q') ∧ st.2.Pairwise (fun a b => a.1 ≠ b.1)
theorem MaxS.uniq {ρ : List Int} {f f' l q : Nat} (h : MaxS ρ f l q) (h' : MaxS ρ f' l q) : f = f' := by
  have key : ∀ {f f' : Nat}, MaxS ρ f l q → MaxS ρ f' l q → f < f' → False := by
    intro f f' h h' hlt
    have := h.per (f' - 1) (by omega) (by have := h'.two; have := h'.pos; omega)
    exact h'.left (by omega) this
  rcases Nat.lt_trichotomy f f' with q | q | q
  · exact (key h h' q).elim
  · exact q
  · exact (key h' h q).elim
theorem least_of {ρ : List Int} {f l q : Nat} (h : MaxS ρ f l q) : ∃ m, m ≤ q ∧ Least ρ f l m := by
  induction q using Nat.strongRecOn with
  | ind q ih =>
    by_cases c : ∃ m, m < q ∧ MaxS ρ f l m
    · obtain ⟨m, h1, h2⟩ := c
      obtain ⟨m', h3, h4⟩ := ih m h1 h2
      exact ⟨m', by omega, h4⟩
    · exact ⟨q, Nat.le_refl _, h, fun m h1 h2 => c ⟨m, h1, h2⟩⟩
theorem key_inj {f l f' l' : Nat} (hl : l ≤ 12) (hl' : l' ≤ 12) (h : 20 * (f : Int) + l = 20 * (f' : Int) + l') : f = f' ∧ l = l' := by omega
theorem step {ρ : List Int} {q m : Nat} {st : Int × List (Int × Int)} (hq : 0 < q) (hm : m + q ≤ 12) (h : Kst ρ q m st) : Kst ρ q (m + 1) (inS ρ q st m) := by
  obtain ⟨hfst, hc, hnd⟩ := h
  obtain ⟨f, hf, f1, f2, f3⟩ := hfst hm
  obtain ⟨a, c⟩ := st
  dsimp only at hf hc hnd
  subst hf
  -- what closes here
  have close : (m = 12 - q ∨ rr ρ m ≠ rr ρ (m + q)) → ∀ f', MaxS ρ f' (m + q) q ↔ f' = f ∧ f + q ≤ m := by
    intro hcl f'
    have mk : f + q ≤ m → MaxS ρ f (m + q) q := fun h => ⟨hq, by omega, hm, fun i i1 i2 => f2 i i1 (by omega), f3, fun hl => by
      rcases hcl with e | e
      · omega
      · rw [show m + q - q = m by omega]; exact fun x => e x.symm⟩
    constructor
    · intro hM
      have ht := hM.two
      have e : f' = f := by
        rcases Nat.lt_trichotomy f' f with g | g | g
        · exact absurd (hM.per (f - 1) (by omega) (by omega)) (f3 (by omega))
        · exact g
        · exact absurd (f2 (f' - 1) (by omega) (by omega)) (hM.left (by omega))
      exact ⟨e, by omega⟩
    · rintro ⟨rfl, h⟩
      exact mk h
  by_cases hcl : m = 12 - q ∨ rr ρ m ≠ rr ρ (m + q)
  · have hhas : ∀ f' l', f' + 2 * q ≤ l' → l' = m + q → (kdfHas c (20 * (f' : Int) + ((m : Int) + q)) = true ↔ ∃ q', q' < q ∧ MaxS ρ f' (m + q) q') := by
      intro f' l' h1 h2
      rw [has_mem]
      constructor
      · rintro ⟨v, hv⟩
        obtain ⟨f2', l2, q2, hor, hL, e1, e2⟩ := (hc _ _).mp hv
        obtain ⟨rfl, rfl⟩ := key_inj (f := f') (l := m + q) (f' := f2') (l' := l2) hm hL.1.top (by push_cast; exact e1)
        exact ⟨q2, by omega, hL.1⟩
      · rintro ⟨q', h3, h4⟩
        obtain ⟨q2, h5, h6⟩ := least_of h4
        exact ⟨_, (hc _ _).mpr ⟨f', m + q, q2, .inl (by omega), h6, by push_cast; rfl, rfl⟩⟩
    by_cases hput : (q : Int) ≤ (m : Int) - (f : Int) ∧ kdfHas c (20 * (f : Int) + ((m : Int) + q)) = false
    · rw [show inS ρ q ((f : Int), c) m = _ from inS_put hcl hput.1 hput.2, put_app hput.2]
      have hfq : f + q ≤ m := by omega
      have hM : MaxS ρ f (m + q) q := (close hcl f).mpr ⟨rfl, hfq⟩
      have hL : Least ρ f (m + q) q := ⟨hM, fun q' h1 h2 => by
        have := (hhas f (m + q) (by omega) rfl).mpr ⟨q', h1, h2⟩
        rw [hput.2] at this; cases this⟩
      refine ⟨fun hm2 => ⟨m + 1, by push_cast; rfl, Nat.le_refl _, fun i i1 i2 => absurd i1 (by omega), fun _ => ?_⟩, fun k v => ?_, ?_⟩
      · rcases hcl with e | e
        · omega
        · exact e
      · rw [List.mem_append, hc]
        constructor
        · rintro (⟨f', l', q', hor, hL', e1, e2⟩ | hmem)
          · exact ⟨f', l', q', by omega, hL', e1, e2⟩
          · have := List.mem_singleton.mp hmem
            injection this with e1 e2
            exact ⟨f, m + q, q, .inr ⟨rfl, by omega⟩, hL, by rw [e1]; push_cast; rfl, by rw [e2]; unfold val; push_cast; rfl⟩
        · rintro ⟨f', l', q', hor, hL', e1, e2⟩
          by_cases z : q' = q ∧ l' = m + q
          · obtain ⟨rfl, rfl⟩ := z
            obtain ⟨rfl, _⟩ := (close hcl f').mp hL'.1
            refine .inr (List.mem_singleton.mpr ?_)
            rw [e1, e2]; unfold val; push_cast; rfl
          · exact .inl ⟨f', l', q', by omega, hL', e1, e2⟩
      · refine List.pairwise_append.mpr ⟨hnd, List.pairwise_singleton _ _, fun x hx y hy => ?_⟩
        rw [List.mem_singleton.mp hy]
        intro e
        have := has_mem (k := 20 * (f : Int) + ((m : Int) + q)).mpr ⟨x.2, by have e' : 20 * (f : Int) + ((m : Int) + q) = x.1 := e.symm; rw [e']; exact hx⟩
        rw [hput.2] at this; cases this
    · have hno : ¬ (q : Int) ≤ (m : Int) - (f : Int) ∨ kdfHas c (20 * (f : Int) + ((m : Int) + q)) = true := by
        by_cases z : (q : Int) ≤ (m : Int) - (f : Int)
        · refine .inr ?_
          cases hh : kdfHas c (20 * (f : Int) + ((m : Int) + q)) with
          | true => rfl
          | false => exact absurd ⟨z, hh⟩ hput
        · exact .inl z
      rw [show inS ρ q ((f : Int), c) m = _ from inS_no hcl hno]
      refine ⟨fun hm2 => ⟨m + 1, by push_cast; rfl, Nat.le_refl _, fun i i1 i2 => absurd i1 (by omega), fun _ => ?_⟩, fun k v => ?_, hnd⟩
      · rcases hcl with e | e
        · omega
        · exact e
      · rw [hc]
        constructor
        · rintro ⟨f', l', q', hor, hL', e1, e2⟩
          exact ⟨f', l', q', by omega, hL', e1, e2⟩
        · rintro ⟨f', l', q', hor, hL', e1, e2⟩
          by_cases z : q' = q ∧ l' = m + q
          · exfalso
            obtain ⟨rfl, rfl⟩ := z
            obtain ⟨rfl, hfq⟩ := (close hcl f').mp hL'.1
            rcases hno with z | z
            · exact z (by omega)
            · obtain ⟨q2, h1, h2⟩ := (hhas f' (m + q') (by omega) rfl).mp z
              exact hL'.2 q2 h1 h2
          · exact ⟨f', l', q', by omega, hL', e1, e2⟩
  · have hne : m ≠ 12 - q := fun e => hcl (.inl e)
    have heq : rr ρ m = rr ρ (m + q) := Classical.byContradiction fun e => hcl (.inr e)
    rw [inS_same hne heq]
    refine ⟨fun _ => ⟨f, rfl, by omega, fun i i1 i2 => ?_, f3⟩, fun k v => ?_, hnd⟩
    · rcases (by omega : i < m ∨ i = m) with z | rfl
      · exact f2 i i1 z
      · exact heq
    · rw [hc]
      constructor
      · rintro ⟨f', l', q', hor, hL', e1, e2⟩
        exact ⟨f', l', q', by omega, hL', e1, e2⟩
      · rintro ⟨f', l', q', hor, hL', e1, e2⟩
        by_cases z : q' = q ∧ l' = m + q
        · exfalso
          obtain ⟨rfl, rfl⟩ := z
          have := hL'.1.right (by omega)
          rw [show m + q' - q' = m by omega] at this
          exact this heq.symm
        · exact ⟨f', l', q', by omega, hL', e1, e2⟩
theorem inner_kst {ρ : List Int} {q : Nat} {c : List (Int × Int)} (hq : 0 < q) (h : Kin ρ (q - 1) c) : ∀ m, m + q ≤ 13 → Kst ρ q m (inner ρ q c m)
  | 0, _ => by
    refine ⟨fun _ => ⟨0, rfl, Nat.le_refl _, fun i _ i2 => absurd i2 (Nat.not_lt_zero _), fun h => absurd h (Nat.lt_irrefl _)⟩, fun k v => ?_, h.2⟩
    show (k, v) ∈ c ↔ _
    rw [h.1]
    constructor
    · rintro ⟨f, l, q', h1, h2, h3, h4⟩
      exact ⟨f, l, q', .inl (by omega), h2, h3, h4⟩
    · rintro ⟨f, l, q', h1, h2, h3, h4⟩
      have := h2.1.two
      have := h2.1.pos
      exact ⟨f, l, q', by omega, h2, h3, h4⟩
  | m + 1, hm => by
    rw [inner_succ]
    exact step hq (by omega) (inner_kst hq h m (by omega))
theorem runs_kin (ρ : List Int) : ∀ n, n ≤ 6 → Kin ρ n (runsD ρ n)
  | 0, _ => by
    refine ⟨fun k v => ⟨fun h => (by cases h), ?_⟩, .nil⟩
    rintro ⟨f, l, q, h1, h2, _⟩
    have := h2.1.pos
    omega
  | n + 1, hn => by
    rw [runsD_succ]
    have h := inner_kst (ρ := ρ) (q := n + 1) (Nat.succ_pos n) (runs_kin ρ n (by omega)) (13 - (n + 1)) (by omega)
    refine ⟨fun k v => ?_, h.2.2⟩
    rw [h.2.1]
    constructor
    · rintro ⟨f, l, q', h1, h2, h3, h4⟩
      exact ⟨f, l, q', by omega, h2, h3, h4⟩
    · rintro ⟨f, l, q', h1, h2, h3, h4⟩
      have := h2.1.top
      exact ⟨f, l, q', by omega, h2, h3, h4⟩
theorem rv_iff (ρ : List Int) (v : Int) : v ∈ (runsD ρ 6).map (·.2) ↔ ∃ f l q, Least ρ f l q ∧ v = val f l q := by
  have h := runs_kin ρ 6 (Nat.le_refl _)
  constructor
  · intro hv
    obtain ⟨⟨k, v'⟩, hk, rfl⟩ := List.mem_map.mp hv
    obtain ⟨f, l, q, _, h2, _, h4⟩ := (h.1 k v').mp hk
    exact ⟨f, l, q, h2, h4⟩
  · rintro ⟨f, l, q, h2, rfl⟩
    have := h2.1.two
    have := h2.1.top
    exact List.mem_map.mpr ⟨_, (h.1 _ _).mpr ⟨f, l, q, by omega, h2, rfl, rfl⟩, rfl⟩
theorem rv_nodup (ρ : List Int) : ((runsD ρ 6).map (·.2)).Nodup := by
  have h := runs_kin ρ 6 (Nat.le_refl _)
  refine List.pairwise_map.mpr (h.2.imp_of_mem fun {a b} ha hb hab e => hab ?_)
  obtain ⟨f, l, q, _, h2, h3, h4⟩ := (h.1 a.1 a.2).mp ha
  obtain ⟨f', l', q', _, h2', h3', h4'⟩ := (h.1 b.1 b.2).mp hb
  have t1 := h2.1.two
  have t2 := h2.1.top
  have t3 := h2'.1.two
  have t4 := h2'.1.top
  rw [h4, h4'] at e
  unfold val at e
  omega
/-- a less period would make a whole stretch too -/
theorem least_min {ρ : List Int} {f l q : Nat} (h : Least ρ f l q) : ∀ m, 0 < m → m < q → ¬ Per (rr ρ) f l m := by
  intro m m0 m1 hp
  have t1 := h.1.two
  refine h.2 m m1 ⟨m0, by omega, h.1.top, hp, fun hf => ?_, fun hl => ?_⟩
  · intro e
    refine h.1.left hf ?_
    have a1 := h.1.per (f - 1 + m) (by omega) (by omega)
    have a2 := hp (f - 1 + q) (by omega) (by omega)
    rw [show f - 1 + m + q = f - 1 + q + m by omega] at a1
    rw [e, a1, a2]
  · intro e
    refine h.1.right hl ?_
    have a1 := h.1.per (l - m - q) (by omega) (by omega)
    have a2 := hp (l - q - m) (by omega) (by omega)
    rw [show l - m - q + q = l - m by omega] at a1
    rw [show l - q - m + m = l - q by omega] at a2
    rw [e, ← a1, ← a2]
    congr 1; omega
end Mine
end
section
set_option maxHeartbeats 1500000
open PySem PySem.W
namespace Mine
noncomputable def wv (ρ : List Int) (o i : Nat) : Int := if i < 12 then (if o = 0 then rr ρ i else 2 - rr ρ i) else -1
noncomputable def cd (sg o : Nat) (s : Int) : List Nat :=
  if o = 0 then (if s = -1 then [38] else if s = 0 then [sg] else if s = 1 then [60] else [62])
  else (if s = -1 then [38, 97, 109, 112, 59] else if s = 0 then [38, 103, 116, 59] else if s = 1 then [38, 108, 116, 59] else [sg])
theorem app_lt : ∀ (a x y : List Nat), x < y → a ++ x < a ++ y
  | [], _, _, h => h
  | c :: a, x, y, h => List.cons_lt_cons_iff.mpr (.inr ⟨rfl, app_lt a x y h⟩)
theorem cd_lt {sg o : Nat} (hsg : Pl sg) {s s' : Int} (h0 : -1 ≤ s) (h1 : s < s') (h2 : s' ≤ 2) (x y : List Nat) : cd sg o s ++ x < cd sg o s' ++ y := by
  have hg : 38 < sg ∧ sg < 60 := by unfold Pl at hsg; omega
  unfold cd
  by_cases ho : o = 0
  · rw [if_pos ho, if_pos ho]
    rcases (by omega : s = -1 ∨ s = 0 ∨ s = 1) with rfl | rfl | rfl <;> rcases (by omega : s' = 0 ∨ s' = 1 ∨ s' = 2) with rfl | rfl | rfl <;>
      first | omega | (simp [List.cons_lt_cons_iff]; done) | (simp [List.cons_lt_cons_iff]; omega)
  · rw [if_neg ho, if_neg ho]
    rcases (by omega : s = -1 ∨ s = 0 ∨ s = 1) with rfl | rfl | rfl <;> rcases (by omega : s' = 0 ∨ s' = 1 ∨ s' = 2) with rfl | rfl | rfl <;>
      first | omega | (simp [List.cons_lt_cons_iff]; done) | (simp [List.cons_lt_cons_iff]; omega)
theorem cat_lt {sg o : Nat} (hsg : Pl sg) : ∀ (k : Nat) (U V : List Int), (∀ t, t < k → U[t]? = V[t]?) → (∃ u v, U[k]? = some u ∧ V[k]? = some v ∧ -1 ≤ u ∧ u < v ∧ v ≤ 2) → U.flatMap (cd sg o) < V.flatMap (cd sg o)
  | 0, U, V, _, ⟨u, v, hu, hv, h0, h1, h2⟩ => by
    cases U with
    | nil => cases hu
    | cons a U =>
      cases V with
      | nil => cases hv
      | cons b V =>
        simp only [List.getElem?_cons_zero, Option.some.injEq] at hu hv
        subst hu; subst hv
        rw [List.flatMap_cons, List.flatMap_cons]
        exact cd_lt hsg h0 h1 h2 _ _
  | k + 1, U, V, he, ⟨u, v, hu, hv, h⟩ => by
    cases U with
    | nil => cases hu
    | cons a U =>
      cases V with
      | nil => cases hv
      | cons b V =>
        have e := he 0 (Nat.succ_pos k)
        simp only [List.getElem?_cons_zero, Option.some.injEq] at e
        subst e
        rw [List.flatMap_cons, List.flatMap_cons]
        exact app_lt _ _ _ (cat_lt hsg k U V (fun t ht => by simpa using he (t + 1) (by omega)) ⟨u, v, by simpa using hu, by simpa using hv, h⟩)
noncomputable def wl (ρ : List Int) (o : Nat) : List Int := (List.range 13).map (wv ρ o)
theorem wl_get (ρ : List Int) (o i t : Nat) (h : i + t ≤ 12) : ((wl ρ o).drop i)[t]? = some (wv ρ o (i + t)) := by
  rw [List.getElem?_drop]
  unfold wl
  rw [List.getElem?_map, List.getElem?_range (by omega)]
  rfl
section
variable {sg : Nat} {ρ : List Int}
theorem lt_text {o i j : Nat} (hsg : Pl sg) (h3 : ∀ x ∈ ρ, 0 ≤ x ∧ x < 3) (h12 : ρ.length = 12) (h : LT (wv ρ o) i j) : ((wl ρ o).drop i).flatMap (cd sg o) < ((wl ρ o).drop j).flatMap (cd sg o) := by
  obtain ⟨k, k1, k2, k3, k4⟩ := h
  have hb : ∀ x, -1 ≤ wv ρ o x ∧ wv ρ o x ≤ 2 := by
    intro x
    unfold wv
    split
    · rename_i hx
      have hm : rr ρ x ∈ ρ := by
        unfold rr
        rw [List.getD_eq_getElem?_getD, List.getElem?_eq_getElem (by omega : x < ρ.length)]
        exact List.getElem_mem _
      have := h3 _ hm
      split <;> omega
    · omega
  refine cat_lt hsg k _ _ (fun t ht => ?_) ⟨_, _, wl_get ρ o i k k1, wl_get ρ o j k k2, (hb _).1, k4, (hb _).2⟩
  rw [wl_get ρ o i t (by omega), wl_get ρ o j t (by omega), k3 t ht]
theorem wv_end (h3 : ∀ x ∈ ρ, 0 ≤ x ∧ x < 3) (h12 : ρ.length = 12) (o : Nat) : ∀ i, i < 12 → wv ρ o 12 < wv ρ o i := by
  intro x hx
  have hm : rr ρ x ∈ ρ := by
    unfold rr
    rw [List.getD_eq_getElem?_getD, List.getElem?_eq_getElem (by omega : x < ρ.length)]
    exact List.getElem_mem _
  have := h3 _ hm
  unfold wv
  rw [if_neg (Nat.lt_irrefl 12), if_pos hx]
  split <;> omega
end
end Mine
end
section
set_option maxHeartbeats 1500000
open PySem PySem.W
namespace Mine
theorem wv_0 (ρ : List Int) {i : Nat} (h : i < 12) : wv ρ 0 i = rr ρ i := by unfold wv; rw [if_pos h, if_pos rfl]
theorem wv_1 (ρ : List Int) {i : Nat} (h : i < 12) : wv ρ 1 i = 2 - rr ρ i := by unfold wv; rw [if_pos h, if_neg (by decide)]
noncomputable def sy (sg o : Nat) (s : Int) : Nat :=
  if o = 0 then (if s = -1 then 38 else if s = 0 then sg else if s = 1 then 60 else 62)
  else (if s = -1 then 38 else if s = 0 then 62 else if s = 1 then 60 else sg)
section
variable {sg : Nat} {ρ : List Int}
theorem rr_in (h3 : ∀ x ∈ ρ, 0 ≤ x ∧ x < 3) (h12 : ρ.length = 12) {x : Nat} (hx : x < 12) : 0 ≤ rr ρ x ∧ rr ρ x < 3 := by
  refine h3 _ ?_
  unfold rr
  rw [List.getD_eq_getElem?_getD, List.getElem?_eq_getElem (by omega : x < ρ.length)]
  exact List.getElem_mem _
theorem word_wl (h3 : ∀ x ∈ ρ, 0 ≤ x ∧ x < 3) (h12 : ρ.length = 12) (o : Nat) : ρ.map (sgn sg) ++ [38] = (wl ρ o).map (sy sg o) := by
  refine List.ext_getElem (by simp [wl, h12]) fun i h1 h2 => ?_
  have hi : i < 13 := by simp [h12] at h1; omega
  have e2 : ((wl ρ o).map (sy sg o))[i] = sy sg o (wv ρ o i) := by simp [wl]
  refine Eq.trans ?_ e2.symm
  by_cases hx : i < 12
  · have e1 : (ρ.map (sgn sg) ++ [38])[i] = sgn sg (rr ρ i) := by
      rw [List.getElem_append_left (by simp [h12]; exact hx), List.getElem_map]
      unfold rr
      rw [List.getD_eq_getElem?_getD, List.getElem?_eq_getElem (by omega : i < ρ.length)]
      rfl
    refine Eq.trans e1 ?_
    have hr := rr_in h3 h12 hx
    unfold wv sy sgn
    rw [if_pos hx]
    by_cases ho : o = 0
    · rw [if_pos ho, if_pos ho]
      rcases (by omega : rr ρ i = 0 ∨ rr ρ i = 1 ∨ rr ρ i = 2) with e | e | e <;> rw [e] <;> simp
    · rw [if_neg ho, if_neg ho]
      rcases (by omega : rr ρ i = 0 ∨ rr ρ i = 1 ∨ rr ρ i = 2) with e | e | e <;> rw [e] <;> simp
  · have hi12 : i = 12 := by omega
    subst hi12
    have e1 : (ρ.map (sgn sg) ++ [38])[12] = 38 := by
      rw [List.getElem_append_right (by simp [h12])]
      simp [h12]
    refine Eq.trans e1 ?_
    unfold wv sy
    rw [if_neg (Nat.lt_irrefl 12)]
    split <;> simp
theorem cd0 (l : List Int) : l.flatMap (cd sg 0) = l.map (sy sg 0) := by
  induction l with
  | nil => rfl
  | cons a l ih =>
    rw [List.flatMap_cons, List.map_cons, ih]
    have e : cd sg 0 a = [sy sg 0 a] := by
      unfold cd sy
      rw [if_pos rfl, if_pos rfl]
      (repeat' split) <;> rfl
    rw [e]; rfl
theorem cd1 (hsg : Pl sg) {o : Nat} (ho : o ≠ 0) (l : List Int) : l.flatMap (cd sg o) = escL (l.map (sy sg o)) := by
  have hg : 38 < sg ∧ sg < 60 := by unfold Pl at hsg; omega
  induction l with
  | nil => rfl
  | cons a l ih =>
    rw [List.flatMap_cons, List.map_cons, escL_cons, ih]
    have e : cd sg o a = enc (sy sg o a) := by
      unfold cd sy
      rw [if_neg ho, if_neg ho]
      by_cases c1 : a = -1
      · rw [if_pos c1, if_pos c1]; rfl
      · rw [if_neg c1, if_neg c1]
        by_cases c2 : a = 0
        · rw [if_pos c2, if_pos c2]; rfl
        · rw [if_neg c2, if_neg c2]
          by_cases c3 : a = 1
          · rw [if_pos c3, if_pos c3]; rfl
          · rw [if_neg c3, if_neg c3]
            unfold enc
            rw [if_neg (by omega), if_neg (by omega), if_neg (by omega)]
    rw [e]
theorem text_is (hsg : Pl sg) (h3 : ∀ x ∈ ρ, 0 ≤ x ∧ x < 3) (h12 : ρ.length = 12) (o : Nat) {i : Nat} (hi : i < 12) : (tA (TT sg ρ o) i).cps.toList = ((wl ρ o).drop i).flatMap (cd sg o) := by
  unfold tA TT
  by_cases ho : o = 0
  · subst ho
    rw [if_pos rfl, tails0_get sg ρ hi, tl_list, word_wl h3 h12 0, ← List.map_drop, cd0]
  · rw [if_neg ho, tails1_get sg ρ hi, escS_list, tl_list, word_wl h3 h12 o, ← List.map_drop, cd1 hsg ho]
theorem coll_yes (hsg : Pl sg) (h3 : ∀ x ∈ ρ, 0 ≤ x ∧ x < 3) (h12 : ρ.length = 12) {o i j : Nat} (hi : i < 12) (hj : j < 12) (h : LT (wv ρ o) i j) : coll (tA (TT sg ρ o) j) (tA (TT sg ρ o) i) = 1 := by
  have hlt := lt_text (o := o) hsg h3 h12 h
  rw [← text_is hsg h3 h12 o hi, ← text_is hsg h3 h12 o hj] at hlt
  have hn : ¬ (tA (TT sg ρ o) j).cps.toList < (tA (TT sg ρ o) i).cps.toList := List.lt_asymm hlt
  unfold coll
  rw [decide_eq_true hlt, decide_eq_false hn]
  rfl
theorem coll_no (hsg : Pl sg) (h3 : ∀ x ∈ ρ, 0 ≤ x ∧ x < 3) (h12 : ρ.length = 12) {o i j : Nat} (hi : i < 12) (hj : j < 12) (h : LT (wv ρ o) j i) : coll (tA (TT sg ρ o) j) (tA (TT sg ρ o) i) = -1 := by
  have hlt := lt_text (o := o) hsg h3 h12 h
  rw [← text_is hsg h3 h12 o hi, ← text_is hsg h3 h12 o hj] at hlt
  have hn : ¬ (tA (TT sg ρ o) i).cps.toList < (tA (TT sg ρ o) j).cps.toList := List.lt_asymm hlt
  unfold coll
  rw [decide_eq_true hlt, decide_eq_false hn]
  rfl
theorem nb_nx (hsg : Pl sg) (h3 : ∀ x ∈ ρ, 0 ≤ x ∧ x < 3) (h12 : ρ.length = 12) {o p b : Nat} : NB (TT sg ρ o) p b ↔ NX (wv ρ o) p b := by
  have hw := wv_end (ρ := ρ) h3 h12 o
  constructor
  · rintro ⟨a1, a2, a3, a4⟩
    refine ⟨a1, a2, fun j j1 j2 => ?_, ?_⟩
    · rcases LT.total hw (i := p) (j := j) (by omega) (by omega) (by omega) with q | q
      · exact q
      · have e1 := a3 j j1 j2
        rw [coll_no hsg h3 h12 (by omega) (by omega) q] at e1
        exact absurd e1 (by decide)
    · by_cases hb : b < 12
      · rcases LT.total hw (i := b) (j := p) (by omega) (by omega) (by omega) with q | q
        · exact q
        · exact absurd (coll_yes hsg h3 h12 (by omega) hb q) (a4 hb)
      · have : b = 12 := by omega
        subst this
        exact ⟨0, by omega, by omega, fun t ht => absurd ht (Nat.not_lt_zero _), hw p a1⟩
  · rintro ⟨a1, a2, a3, a4⟩
    refine ⟨a1, a2, fun j j1 j2 => coll_yes hsg h3 h12 (by omega) (by omega) (a3 j j1 j2), fun hb => ?_⟩
    rw [coll_no hsg h3 h12 (by omega) hb a4]
    decide
theorem num_eq (hsg : Pl sg) (h3 : ∀ x ∈ ρ, 0 ≤ x ∧ x < 3) (h12 : ρ.length = 12) {i j : Nat} (hi : i < 12) (hj : j < 12) : nA (NN sg ρ) i = nA (NN sg ρ) j ↔ rr ρ i = rr ρ j := by
  have hN : ∀ {x : Nat}, x < 12 → nA (NN sg ρ) x = num (sgn sg (rr ρ x)) := by
    intro x hx
    unfold nA NN
    rw [List.getD_eq_getElem?_getD, List.getElem?_map, List.getElem?_append_left (by simp [h12]; exact hx), List.getElem?_map]
    unfold rr
    rw [List.getD_eq_getElem?_getD, List.getElem?_eq_getElem (by omega : x < ρ.length)]
    rfl
  rw [hN hi, hN hj]
  have a := rr_in h3 h12 hi
  have b := rr_in h3 h12 hj
  have hg : num sg ≠ 20 ∧ num sg ≠ 21 := by
    unfold Pl at hsg
    rcases hsg with rfl | rfl | rfl | rfl | rfl | rfl | rfl | rfl | rfl | rfl <;> decide
  have e0 : sgn sg 0 = sg := rfl
  have e1 : num (sgn sg 1) = 20 := rfl
  have e2 : num (sgn sg 2) = 21 := rfl
  constructor
  · intro h
    rcases (by omega : rr ρ i = 0 ∨ rr ρ i = 1 ∨ rr ρ i = 2) with x | x | x <;> rcases (by omega : rr ρ j = 0 ∨ rr ρ j = 1 ∨ rr ρ j = 2) with y | y | y <;> rw [x, y] at h <;> rw [x, y] <;> simp only [e0, e1, e2] at h <;>
      first | exact absurd h hg.1 | exact absurd h hg.2 | exact absurd h.symm hg.1 | exact absurd h.symm hg.2 | exact absurd h (by decide)
  · intro h; rw [h]
theorem w_eq {o i j : Nat} (hi : i < 12) (hj : j < 12) : wv ρ o i = wv ρ o j ↔ rr ρ i = rr ρ j := by
  unfold wv
  rw [if_pos hi, if_pos hj]
  split
  · exact Iff.rfl
  · omega
theorem per_w {o f l q : Nat} (hl : l ≤ 12) : Per (wv ρ o) f l q ↔ Per (rr ρ) f l q := by
  constructor
  · intro h i i1 i2
    exact (w_eq (by omega) (by omega)).mp (h i i1 i2)
  · intro h i i1 i2
    exact (w_eq (by omega) (by omega)).mpr (h i i1 i2)
/-- what the loop finds is a whole stretch of its least period -/
theorem cand_least (hsg : Pl sg) (h3 : ∀ x ∈ ρ, 0 ≤ x ∧ x < 3) (h12 : ρ.length = 12) {o p b f l : Nat} (hc : Cand (TT sg ρ o) (NN sg ρ) p b f l) : Least ρ f l (b - p) := by
  have hx := (nb_nx hsg h3 h12).mp hc.nb
  obtain ⟨a1, a2, a3⟩ := hc.left
  obtain ⟨c1, c2, c3, c4⟩ := hc.right
  have hpb := hx.1
  have hb := hx.2.1
  have hlong := hc.long
  have hper : Per (rr ρ) f l (b - p) := by
    intro i i1 i2
    by_cases q : i < p
    · exact (num_eq hsg h3 h12 (by omega) (by omega)).mp (a2 i i1 q)
    · have := (num_eq hsg h3 h12 (by omega) (by omega)).mp (c3 (i + (b - p)) (by omega) i2)
      rw [show i + (b - p) - (b - p) = i by omega] at this
      exact this.symm
  refine ⟨⟨by omega, by omega, c2, hper, fun hf e => ?_, fun hl e => ?_⟩, fun m hm hM => ?_⟩
  · exact a3 hf ((num_eq hsg h3 h12 (by omega) (by omega)).mpr e)
  · exact c4 hl ((num_eq hsg h3 h12 hl (by omega)).mpr e)
  · exact hx.no_less a1 c1 hM.pos hm ((per_w c2).mpr hM.per)
theorem cand_of (hsg : Pl sg) (h3 : ∀ x ∈ ρ, 0 ≤ x ∧ x < 3) (h12 : ρ.length = 12) {o p f l q : Nat} (hL : Least ρ f l q) (hf : f < p) (hl : p + q ≤ l) (hx : NX (wv ρ o) p (p + q)) : Cand (TT sg ρ o) (NN sg ρ) p (p + q) f l := by
  have ht := hL.1.top
  have h2 := hL.1.two
  have e : p + q - p = q := by omega
  refine ⟨(nb_nx hsg h3 h12).mpr hx, ?_, ?_, by omega⟩
  · rw [e]
    refine ⟨by omega, fun i i1 i2 => (num_eq hsg h3 h12 (by omega) (by omega)).mpr (hL.1.per i i1 (by omega)), fun hf2 h => ?_⟩
    exact hL.1.left hf2 ((num_eq hsg h3 h12 (by omega) (by omega)).mp h)
  · rw [e]
    refine ⟨hl, ht, fun i i1 i2 => (num_eq hsg h3 h12 (by omega) (by omega)).mpr ?_, fun hl2 h => ?_⟩
    · have := hL.1.per (i - q) (by omega) (by omega)
      rw [show i - q + q = i by omega] at this
      exact this.symm
    · exact hL.1.right hl2 ((num_eq hsg h3 h12 hl2 (by omega)).mp h)
theorem whole_of (hsg : Pl sg) (h3 : ∀ x ∈ ρ, 0 ≤ x ∧ x < 3) (h12 : ρ.length = 12) {f l q : Nat} (hL : Least ρ f l q) : ∃ o p, o < 2 ∧ p < 12 ∧ f < p ∧ Cand (TT sg ρ o) (NN sg ρ) p (p + q) f l := by
  have ht := hL.1.top
  have h2 := hL.1.two
  have h0 := hL.1.pos
  obtain ⟨o, ho, hlt⟩ : ∃ o, o < 2 ∧ wv ρ o l < wv ρ o (l - q) := by
    by_cases hl : l < 12
    · have hne := hL.1.right hl
      rcases Int.lt_or_gt_of_ne hne with c | c
      · refine ⟨0, by decide, ?_⟩
        rw [wv_0 ρ hl, wv_0 ρ (by omega)]
        exact c
      · refine ⟨1, by decide, ?_⟩
        rw [wv_1 ρ hl, wv_1 ρ (by omega)]
        omega
    · have : l = 12 := by omega
      subst this
      exact ⟨0, by decide, wv_end h3 h12 0 _ (by omega)⟩
  obtain ⟨p, p1, p2, p3⟩ := root (wv_end h3 h12 o) h0 h2 ht ((per_w ht).mpr hL.1.per) (fun m m0 m1 hp => least_min hL m m0 m1 ((per_w ht).mp hp)) hlt
  exact ⟨o, p, ho, by omega, p1, cand_of hsg h3 h12 hL p1 p2 p3⟩
/-- a place owns one run -/
theorem own_cross (hsg : Pl sg) (h3 : ∀ x ∈ ρ, 0 ≤ x ∧ x < 3) (h12 : ρ.length = 12) {p b f l b' f' l' : Nat} (hc : Cand (TT sg ρ 0) (NN sg ρ) p b f l) (hf : f < p) (hc' : Cand (TT sg ρ 1) (NN sg ρ) p b' f' l') (hf' : f' < p) : b = b' := by
  have hx := (nb_nx hsg h3 h12).mp hc.nb
  have hx' := (nb_nx hsg h3 h12).mp hc'.nb
  have nxu : ∀ {o b b' : Nat}, NX (wv ρ o) p b → NX (wv ρ o) p b' → b = b' := fun h h' => ((nb_nx hsg h3 h12).mpr h).uniq ((nb_nx hsg h3 h12).mpr h')
  have one : ∀ {o : Nat}, LT (wv ρ o) (p + 1) p → p + 1 ≤ 12 → NX (wv ρ o) p (p + 1) := fun h h1 => ⟨by omega, h1, fun j j1 j2 => absurd j1 (by omega), h⟩
  -- one with step 1 and one with more cannot both be
  have clash : ∀ {o o' b b' f f' l l' : Nat}, Cand (TT sg ρ o) (NN sg ρ) p b f l → f < p → b = p + 1 → Cand (TT sg ρ o') (NN sg ρ) p b' f' l' → f' < p → NX (wv ρ o') p b' → b' = p + 1 := by
    intro o o' b b' f f' l l' hc hf hb hc' hf' hx'
    refine Classical.byContradiction fun hn => ?_
    have q1 := hx'.1
    have q2 := hx'.2.1
    have e1 := (num_eq hsg h3 h12 (by omega) (by omega)).mp (hc.left.2.1 (p - 1) (by omega) (by omega))
    have e2 := (num_eq hsg h3 h12 (by omega) (by omega)).mp (hc'.left.2.1 (p - 1) (by omega) (by omega))
    rw [show p - 1 + (b - p) = p by omega] at e1
    rw [show p - 1 + (b' - p) = b' - 1 by omega] at e2
    obtain ⟨k, k1, k2, k3⟩ := hx'.inside (j := b' - 1) (by omega) (by omega)
    have : k = 0 := by omega
    subst this
    have e3 : wv ρ o' p = wv ρ o' (b' - 1) := (w_eq (by omega) (by omega)).mpr (e1.symm.trans e2)
    rw [Nat.add_zero, Nat.add_zero] at k3
    omega
  have hp := hx.1
  have hb := hx.2.1
  rcases LT.total (wv_end h3 h12 0) (i := p + 1) (j := p) (by omega) (by omega) (by omega) with q | q
  · have eb := nxu hx (one q (by omega))
    have := clash hc hf eb hc' hf' hx'
    omega
  · obtain ⟨k, k1, k2, k3, k4⟩ := q
    have hk : p + 1 + k < 12 := by
      refine Classical.byContradiction fun hn => ?_
      have e : p + 1 + k = 12 := by omega
      rw [e] at k4
      have := wv_end h3 h12 0 (p + k) (by omega)
      omega
    have q' : LT (wv ρ 1) (p + 1) p := by
      refine ⟨k, by omega, by omega, fun t ht => ?_, ?_⟩
      · exact ((w_eq (by omega) (by omega)).mpr ((w_eq (by omega) (by omega)).mp (k3 t ht))).symm
      · rw [wv_0 ρ (by omega), wv_0 ρ (by omega)] at k4
        rw [wv_1 ρ (by omega), wv_1 ρ (by omega)]
        omega
    have eb := nxu hx' (one q' (by omega))
    have := clash hc' hf' eb hc hf hx
    omega
theorem plain_ok (hsg : Pl sg) (h12 : ρ.length = 12) (h3 : ∀ x ∈ ρ, 0 ≤ x ∧ x < 3) : Plain sg ρ where
  less := by
    intro o p b _ hn hb
    have hx := (nb_nx hsg h3 h12).mp hn
    exact coll_no hsg h3 h12 (by have := hx.1; omega) hb hx.2.2.2
  owner := by
    have same : ∀ {o p b f l b' f' l' : Nat}, Cand (TT sg ρ o) (NN sg ρ) p b f l → ∀ {o' : Nat}, Cand (TT sg ρ o') (NN sg ρ) p b' f' l' → b = b' → val f l (b - p) = val f' l' (b' - p) := by
      intro o p b f l b' f' l' hc o' hc' e
      subst e
      rw [hc.left.uniq hc'.left, hc.right.uniq hc'.right]
    intro o o' p b f l b' f' l' ho ho' hc hf hc' hf'
    refine same hc hc' ?_
    rcases (by omega : (o = o') ∨ (o = 0 ∧ o' = 1) ∨ (o = 1 ∧ o' = 0)) with rfl | ⟨rfl, rfl⟩ | ⟨rfl, rfl⟩
    · exact hc.nb.uniq hc'.nb
    · exact own_cross hsg h3 h12 hc hf hc' hf'
    · exact (own_cross hsg h3 h12 hc' hf' hc hf).symm
  sound := by
    intro o p b f l _ hc
    exact (rv_iff ρ _).mpr ⟨f, l, b - p, cand_least hsg h3 h12 hc, rfl⟩
  whole := by
    intro v hv
    obtain ⟨f, l, q, hL, rfl⟩ := (rv_iff ρ v).mp hv
    obtain ⟨o, p, ho, hp, hf, hc⟩ := whole_of hsg h3 h12 hL
    exact ⟨o, p, p + q, f, l, ho, hp, hc, hf, by rw [show p + q - p = q by omega]⟩
  once := rv_nodup ρ
end
end Mine
end
section
set_option maxRecDepth 100000
set_option maxHeartbeats 400000000
noncomputable section
namespace Mine
structure LawS where
  vs : List Value
  cap : Nat
  fl : List Int
  o : Obj
  kvs : List (Int × Value)
  c : List (Int × Int)
local macro_rules | `(tactic| walk_at "exec For Name List cons nil") => `(tactic| (k_here; (rename Fr _ _ _ _ => lF'); (with_unfolding_all refine' For_invVF lF' ?k1 ?k2 ?_; (case k1 => exact rfl); (case k2 => exact rfl); k_whole)))
local macro_rules | `(tactic| walk_at "exec For Name Call cons nil") => `(tactic| (k_here; (rename Fr _ _ _ _ => lF'); (with_unfolding_all refine' For_invVF lF' ?k1 ?k2 ?_; (case k1 => exact rfl); (case k2 => exact rfl); k_whole)))
local macro_rules | `(tactic| walk_at "call type:enumerate") => `(tactic| k_extra "call type:enumerate")
local macro_rules | `(tactic| walk_at "setItem ref int") => `(tactic| k_extra "setItem ref int")
local macro_rules | `(tactic| walk_at "pyIter ref") => `(tactic| k_extra "pyIter ref")
local macro_rules | `(tactic| walk_at "subscriptTail Name BinOp ref int") => `(tactic| k_extra "subscriptTail Name BinOp ref int")
local macro_rules | `(tactic| walk_at "exec If") => `(tactic| k_extra "exec If")
local macro_rules | `(tactic| walk_at "call builtin:str.join") => `(tactic| k_extra "call builtin:str.join")
local macro_rules | `(tactic| walk_at "CompSrc") => `(tactic| k_extra "CompSrc")
local macro_rules | `(tactic| walk_at "call ref") => `(tactic| k_extra "call ref")
local macro_rules | `(tactic| walk_at "CompEnd") => `(tactic| k_extra "CompEnd")
local macro_rules | `(tactic| walk_at "subscriptTail Name Name str int") => `(tactic| k_extra "subscriptTail Name Name str int")
local macro_rules | `(tactic| walk_at "eval ListComp") => `(tactic| k_extra "eval ListComp")
local macro_rules | `(tactic| walk_at "exec Assign cons ListComp") => `(tactic| k_extra "exec Assign cons ListComp")
local macro_rules | `(tactic| walk_at "call builtin:str.index") => `(tactic| k_extra "call builtin:str.index")
local macro_rules | `(tactic| walk_at "exec For Name List cons nil") => `(tactic| k_extra "exec For Name List cons nil")
local macro_rules | `(tactic| walk_at "exec While BoolOp cons nil") => `(tactic| k_extra "exec While BoolOp cons nil")
local macro_rules | `(tactic| walk_at "exec While BoolOp") => `(tactic| k_extra "exec While BoolOp")
local macro_rules | `(tactic| walk_at "exec For Name Call cons nil") => `(tactic| k_extra "exec For Name Call cons nil")
local macro_rules | `(tactic| walk_at "call builtin:sorted") => `(tactic| k_extra "call builtin:sorted")
local macro_rules | `(tactic| walk_at "call type:set") => `(tactic| k_extra "call type:set")
local macro_rules | `(tactic| walk_at "compareOp Eq ref ref") => `(tactic| k_extra "compareOp Eq ref ref")
local macro_rules | `(tactic| walk_at "compareOp Eq int int") => `(tactic| k_extra "compareOp Eq int int")
local macro_rules | `(tactic| walk_at "subscriptTail Name Name ref int") => `(tactic| k_extra "subscriptTail Name Name ref int")
local macro_rules | `(tactic| walk_at "compareOp NotEq int int") => `(tactic| k_extra "compareOp NotEq int int")
local macro_rules | `(tactic| walk_at "call builtin:list.append") => `(tactic| k_extra "call builtin:list.append")
local macro_rules | `(tactic| walk_at "call builtin:dict.get") => `(tactic| k_extra "call builtin:dict.get")
local macro_rules | `(tactic| k_qdec) => `(tactic| decide +kernel)
theorem law_holds : PySem.Challenge.rw_xo0024_01.Holds := by
  -- stage SA
  k_with_none
  k_with "pyIter ref" => refine hold ?_
  w_on
  refine hd ?_
  k_go0
  all_goals try k_fold
  k_steps
  rename News _ _ _ _ => N1
  rename Fr _ _ _ _ => F1
  rename IntsAre _ (List.take _ _) => hI1
  k_dflt (refine' enum_made rfl hI1 F1 N1 ?k4A ?_)
  case k4A =>
    intro q hq
    simp only [List.mem_cons, List.not_mem_nil, or_false] at hq
    rcases hq with rfl | rfl | rfl | rfl | rfl | rfl <;> (refine ltN ?_; dsimp only; omega)
  clear N1 F1
  intro h9 e9 F9 N9 S9
  dsimp only
  rename_i w s0 s1 mg mb G Y fa oo pm doc ho hg KX X V GL T B TE TW b14 b13 M cdv b11 hcd sc hs hlay0 hL1 hr1 hl2 b9 b8 la lvs b5 hL ra w1 r0 hI hr hcond1 hcond2 K0 hD h1 tk1 o5 o4 o3 o2 o1 do5 do4 do3 do2 do1 X0 lc h2 hlt1 hh1 oc dc D' ws' h' hC hL' hlt2
  k_dflt (refine' enum_cells S9 (cs0 := [4348, 1, 2, 1, 1, 2, 0, 2, 1, 0, 0, 1, 2]) ?hI0A rfl ?hposA ?hrestA ?turnA ?doneA)
  case hI0A => exact .cons _ _ (.cons _ _ (.cons _ _ (.cons _ _ (.cons _ _ (.cons _ _ (.cons _ _ (.cons _ _ (.cons _ _ (.cons _ _ (.cons _ _ (.cons _ _ (.cons _ _ .nil))))))))))))
  case hposA => decide
  case hrestA =>
    intro q hq
    simp only [List.mem_cons, List.not_mem_nil, or_false] at hq
    rcases hq with rfl | rfl | rfl | rfl | rfl <;> (refine neN ?_; dsimp only; omega)
  case turnA =>
    clear S9 N9 F9
    intro i a t tv vs cs c h tk own hai hvs h13 hpos hoff F N
    dsimp only
    k_with_none
    k_with "pyIter ref" => refine hold ?_
    k_with "setItem ref int" => (k_dflt (refine' ksa_set ?k1A ?k2A (.head hoff) hvs ?k5A ?k6A ?k7A ?_); (case k1A => k_asm); (case k2A => k_asm); (case k5A => (rw [Int.fmod_eq_emod_of_nonneg _ (by decide)]; omega)); (case k6A => (rw [Int.fmod_eq_emod_of_nonneg _ (by decide), h13]; omega)); (case k7A => (rw [Int.fmod_eq_emod_of_nonneg _ (by decide)]; omega)); k_whole; intro hA FA NA IA lA sA; (try k_sweep))
    k_steps
    exact ⟨hA, _, _, _, _, _, rfl, FA, NA, fun z q1 q2 => by dsimp only; rw [if_neg q2, if_neg q1], IA, by rw [lA]; exact h13, set_nn hpos (Int.add_nonneg (getD_nn hpos _) (fmod_nn _ (by decide)))⟩
  clear S9 N9 F9
  intro vs cs c h tk m' hvs h13 hpos hm' F N
  dsimp only
  -- stage SB
  k_with_none
  k_with "pyIter ref" => refine hold ?_
  have hsz : 0 < 1 + (cs.getD (Int.toNat 0) 0).fmod 12 ∧ 1 + (cs.getD (Int.toNat 0) 0).fmod 12 ≤ 12 := by
    have a1 := fmod_nn (cs.getD (Int.toNat 0) 0) (b := 12) (by decide)
    have a2 := fmod_lt (cs.getD (Int.toNat 0) 0) (b := 12) (by decide)
    omega
  k_with_none
  k_with "pyIter ref" => refine hold ?_
  k_with "exec If" => refine hold ?_
  k_with "subscriptTail Name BinOp ref int" => (k_dflt (refine' ksa_sub ?k1B ?k2B hvs (idx_ok hsz.1 hsz.2).1 ?k4B ?k5B ?_); (case k1B => k_asm); (case k2B => k_mem); (case k4B => (rw [h13]; exact (idx_ok hsz.1 hsz.2).2)); (case k5B => exact Int.lt_trans (idx_ok hsz.1 hsz.2).2 (by decide)); k_whole; intro tI)
  k_steps
  unfold Hold
  obtain ⟨sg, hsg, esg⟩ := sign_item ((cs.getD (Int.toNat 0) 0).fdiv 12)
  rename Obj.data _ = Data.cell (some (Value.str _ _)) => dsg
  rw [esg] at dsg
  rename Fr _ _ _ (fun y => if y = Str.ofString "turned" then _ else _) => F2
  rename News _ _ _ ((_, LCg.lst _) :: _) => N2
  rename IntsAre _ (List.map _ (rangeKs _ _)) => hIr
  k_dflt (refine' join_row F2 N2 hIr ?hlB ?hbB ?h1B ?h2B)
  case hlB => rw [List.length_map, rangeKs_length]; rfl
  case hbB => exact row_b
  case h1B =>
    have ht : 0 ≤ ((cs.getD (Int.toNat 0) 0).fdiv 360).fmod 24 := fmod_nn _ (by decide)
    k_with_none
    k_with "pyIter ref" => refine hold ?_
    k_with "setItem ref int" => (k_dflt (refine' ksa_set ?k1B ?k2B (.head ?k3B) hIr ht ?k6B ?k7B ?_); (case k1B => k_asm); (case k2B => k_asm); (case k3B => (intro q hq; simp only [List.mem_cons, List.not_mem_nil, or_false] at hq; rcases hq with rfl | rfl | rfl | rfl | rfl | rfl <;> (refine neN ?_; dsimp only; omega))); (case k6B => (rw [List.length_map, rangeKs_length]; omega)); (case k7B => omega); k_whole; intro hA FA NA IA lA sA; (try k_sweep))
    k_steps
    · exact ⟨_, _, _, hA, _, rfl, FA, NA, IA, by rw [lA, List.length_map, rangeKs_length]; rfl, set_b row_b⟩
    · exact ⟨_, _, _, _, _, rfl, F2, N2, hIr, by rw [List.length_map, rangeKs_length]; rfl, row_b⟩
  clear F2 N2 hIr
  intro rvs ρ rc hB tkB FB NB hρ hρ12 hρ3
  dsimp only
  rename_i Dr hh1 tkr hDr tq hh0
  -- stage SC
  k_with_none
  k_with "call builtin:str.join" => refine hold ?_
  k_with "CompEnd" => refine hold ?_
  replace K0 : Below callerA s1.heap [] s1.heap := K0
  k_with_none
  k_with "call builtin:str.join" => refine hold ?_
  k_with "CompEnd" => refine hold ?_
  k_with "CompSrc" => refine hold ?_
  k_steps
  unfold Hold
  rename Fr _ _ _ _ => F2
  rename News _ _ _ ((_, W.listOf _ _) :: _) => N2
  k_dflt (refine' LCg.CompSrc.ledger rfl F2 N2 (.head _) ?hszC ?hcC)
  case hszC => (rw [List.size_toArray, hρ.length, hρ12, sizeLine_eq]; decide)
  intro g
  refine comp_all (fun i v => ∃ t, v = Value.str ⟨#[sgn sg (ρ.getD i 0)]⟩ t) ?turnC ?finC
  case turnC =>
    intro i v I oI C oC D m₂ ys h tk E' hi hv hC hx F N off ne
    obtain ⟨t9, rfl⟩ := ints_at hρ hv
    clear F2 N2
    k_with_none
    k_with "call builtin:str.join" => refine hold ?_
    k_with "CompEnd" => refine hold ?_
    k_with "subscriptTail Name Name str int" => (k_dflt (refine sign_tail (getD_b hρ3 i) ?_); intro t')
    k_steps
    unfold Hold
    exact LCg.CompEnd.intro F N _ (fun p hp => hp) off (.inr ⟨_, .head _, rfl, _, rfl⟩) ⟨rfl, _, rfl⟩
  intro ys hl hys
  have hw := word_strs (sg := sg) (ρ := ρ) (by rw [hl, List.size_toArray, hρ.length]) hys
  clear hys F2 N2
  intro D h tk F N o1
  simp only [LCg.Off1, and_true] at o1
  k_with_none
  k_with "call builtin:str.join" => refine hold ?_
  k_with "CompEnd" => refine hold ?_
  k_steps
  unfold Hold
  have hwl : (ρ.map (sgn sg)).length = 12 := by rw [List.length_map, hρ12]
  k_dflt (refine' join_listW ⟨_, (N _ (.head _)).1, rfl, _, rfl⟩ hw (by decide +kernel) ?hwC ?_)
  case hwC => (simp only [ones_sum, List.length_map, hρ12]; decide)
  rw [word_join]
  have hJl : (⟨(ρ.map (sgn sg)).toArray⟩ : Str).length = 12 := by simp [Str.length, hρ12]
  intro tJ kJ
  k_with "call ref" => refine hold ?_
  k_steps
  unfold Hold
  rename Fr _ _ _ _ => F
  rename News _ _ _ ((_, LCg.lst _) :: _) => N
  rename Obj.data _ = Data.cell (some (Value.str (_ ++ _) _)) => dw
  rename_i hW0 oW
  obtain ⟨word, hword⟩ : ∃ word : Str, word = ⟨(ρ.map (sgn sg)).toArray⟩ ++ Str.ofString "&" := ⟨_, rfl⟩
  rw [← hword] at dw
  rw [← hword]
  have hwd : word.cps.toList = ρ.map (sgn sg) ++ [38] := by rw [hword, word_eq]
  have hwlen : word.length = 13 := by rw [len_of hwd, List.length_append, hwl]; rfl
  have hwsg := word_sg hsg ρ
  clear hword hJl hw hl
  k_dflt (refine' written _ _ _ _ _ _ _ _ (hi_of hwd hwsg) ?p2C _ _ _ _ _ _ _ _ _ _ _ _ _ _ _ _ _ _ ?k1C ?k2C ?k3C ?k4C ?k5C ?k6C ?k7C ?k8C ?_)
  case p2C => omega
  case k1C => k_asm
  case k2C => k_asm
  case k3C => k_asm
  case k4C => k_asm
  case k5C => k_asm
  case k6C => exact rfl
  case k7C => first | ktr_room | decide
  case k8C => first | ktr_units | decide
  clear F N
  intro t9 h9 tk9 F9 N9
  dsimp only
  have hp1 := escS_list word
  rw [hwd] at hp1
  have hp2 : (escS word).length ≤ 100 := by have := escS_len word; omega
  k_with_none
  k_with "call builtin:str.join" => refine hold ?_
  k_with "CompEnd" => refine hold ?_
  k_with "call ref" => refine hold ?_
  k_steps
  unfold Hold
  k_dflt (refine' numbers _ _ _ _ (ρ.map (sgn sg) ++ [38]) _ _ hwsg hp1 hp2 ?p2C _ _ _ _ _ _ _ _ _ _ _ _ _ _ _ _ _ _ ?k1C ?k2C ?k3C ?k4C ?k5C ?k6C ?k7C ?k8C ?_)
  case p2C => (rw [List.length_append, hwl]; decide)
  case k1C => k_asm
  case k2C => k_asm
  case k3C => k_asm
  case k4C => k_asm
  case k5C => k_asm
  case k6C => exact rfl
  case k7C => first | ktr_room | decide
  case k8C => first | ktr_units | decide
  clear F9 N9
  intro Dn nvs nc hN tkN F N hltN hnv
  dsimp only
  -- stage SD
  k_with_none
  k_with "exec Assign cons ListComp" => refine hold ?_
  k_with "CompEnd" => refine hold ?_
  k_with_none
  k_with "exec Assign cons ListComp" => refine hold ?_
  k_with "CompEnd" => refine hold ?_
  k_with "eval ListComp" => refine hold ?_
  k_steps
  unfold Hold
  rename Fr _ _ _ _ => F1
  rename News _ _ _ _ => N1
  k_dflt (refine' ListComp_S (n := 13) F1 N1 rfl (fun X i v => ∃ t, v = Value.int (((ρ.map (sgn sg) ++ [38]).map num).getD i 0) t) (by with_unfolding_all rfl) (by decide) (by rfl) (by decide) (by rfl) ?_)
  walk1
  dsimp only
  refine ⟨word, _, rfl, hwlen, by rw [sizeLine_eq]; decide, F1, N1, ?turnD, ?finD⟩
  case turnD =>
    intro i v I oI C oC Dl m₂ ys h tk E' hi hv hC hx F N off ne
    obtain ⟨c0, u0, hc0, rfl⟩ := hv
    have hc1 : word.cps.toList[i]? = some c0 := by rw [Array.getElem?_toList]; exact hc0
    have hcs : Sg c0 := by rw [hwd] at hc1; exact hwsg c0 (List.mem_of_getElem? hc1)
    clear F1 N1
    k_with_none
    k_with "exec Assign cons ListComp" => refine hold ?_
    k_with "CompEnd" => refine hold ?_
    k_with "call builtin:str.index" => (k_dflt (refine idx_sign rfl hcs ?_))
    k_steps
    unfold Hold
    rw [hwd] at hc1
    exact LCg.CompEnd.intro F N _ (fun p hp => hp) off trivial ⟨rfl, _, by rw [num_get hc1]⟩
  case' finD =>
    clear F1 N1
    intro ys hl2 hys Dl h tk F N o1
    simp only [LCg.Off1, and_true] at o1
    have hIc : IntsAre ys ((ρ.map (sgn sg) ++ [38]).map num) := el_ints (by rw [hl2, List.length_map, List.length_append, hwl]; rfl) hys
    clear hys
    k_with_none
    k_with "exec Assign cons ListComp" => refine hold ?_
    k_with "CompEnd" => refine hold ?_
    k_steps
    unfold Hold
  -- stage SE
  k_with_none
  k_with "CompSrc" => refine hold ?_
  k_with "CompEnd" => refine hold ?_
  k_with "exec For Name List cons nil" => refine hold ?_
  rename Fr _ _ _ _ => FE
  rename News _ _ _ _ => NE
  k_dflt (refine' LCg.Assign_ListComp_U FE rfl (by with_unfolding_all rfl) (by with_unfolding_all rfl) (by decide) (by rfl) (by decide) (by rfl) (by rfl) (by rfl) ?_)
  k_with_none
  k_with "CompSrc" => refine hold ?_
  k_with "CompEnd" => refine hold ?_
  k_with "exec For Name List cons nil" => refine hold ?_
  k_steps
  unfold Hold
  rename Fr _ _ _ _ => F1
  rename News _ _ _ _ => N1
  rename IsRange _ _ _ _ _ _ _ _ => hR1
  k_dflt (refine' LCg.CompSrc.range (n := 12) rfl F1 N1 hR1 (by decide) (by rfl) (by rw [sizeLine_eq]; decide) ?_)
  intro g
  refine comp_all (fun i v => ∃ t, v = Value.str (tl sg ρ i) t) ?turnE ?finE
  case turnE =>
    clear F1 N1
    intro i v I oI C oC Dx m₂ ys h tk E' hi hv hC hx F N off ne
    obtain ⟨tv, rfl⟩ := hv
    k_with_none
    k_with "CompSrc" => refine hold ?_
    k_with "CompEnd" => refine hold ?_
    k_with "exec For Name List cons nil" => refine hold ?_
    k_steps
    unfold Hold
    rename Fr _ _ _ _ => F1
    rename News _ _ _ _ => N1
    exact LCg.CompEnd.intro F1 N1 _ (fun p hp => hp) off trivial ⟨rfl, _, by rw [tl_slice hwd hwlen hi]⟩
  clear F1 N1
  intro pvs hpl hpvs
  have hpS : StrsAre pvs (tails0 sg ρ) := el_strs (by rw [hpl, tails0_len]) fun i y e => by
    have hi : i < 12 := by rw [← hpl]; exact (List.getElem?_eq_some_iff.mp e).1
    rw [tails0_get sg ρ hi]; exact hpvs i y e
  clear hpvs
  intro Dp h tk F N o2
  simp only [LCg.Off1, and_true] at o2
  k_with_none
  k_with "CompSrc" => refine hold ?_
  k_with "CompEnd" => refine hold ?_
  k_with "exec For Name List cons nil" => refine hold ?_
  k_steps
  unfold Hold
  rename_i fa0 hE1 hltf hE2 oa hE3 oo0 hlo0 hoo2 hoo3 hoi hof hlto hE4 FE5 NE5
  clear hoo2 hoo3
  -- stage SF
  k_with_none
  k_with "CompSrc" => refine hold ?_
  k_with "CompEnd" => refine hold ?_
  k_with "call ref" => refine hold ?_
  k_with "pyIter ref" => refine hold ?_
  k_with_none
  k_with "CompSrc" => refine hold ?_
  k_with "CompEnd" => refine hold ?_
  k_with "call ref" => refine hold ?_
  k_with "pyIter ref" => refine hold ?_
  k_steps
  unfold Hold
  rename Fr _ _ _ _ => F1
  rename News _ _ _ _ => N1
  k_dflt (refine' LCg.CompSrc.ledger rfl F1 N1 (.tail _ (.tail _ (.head _))) ?hszF ?hcF)
  case hszF => (rw [List.size_toArray, hpl, sizeLine_eq]; decide)
  intro g
  refine comp_all (fun i v => ∃ t, v = Value.str (escS (tl sg ρ i)) t) ?turnF ?finF
  case turnF =>
    intro i v I oI C oC Dx m₂ ys h tk E' hi hv hC hx F N off ne
    obtain ⟨tv, rfl⟩ := strs_at hpS hv
    rw [List.size_toArray, hpl] at hi
    rw [tails0_get sg ρ hi] at hx
    clear F1 N1
    k_with_none
    k_with "CompSrc" => refine hold ?_
    k_with "CompEnd" => refine hold ?_
    k_with "call ref" => refine hold ?_
    k_with "pyIter ref" => refine hold ?_
    k_steps
    unfold Hold
    have hti : (tl sg ρ i).cps.toList = (ρ.map (sgn sg) ++ [38]).drop i := tl_list sg ρ i
    have htg : ∀ a ∈ (ρ.map (sgn sg) ++ [38]).drop i, Sg a := fun a ha => hwsg a (List.mem_of_mem_drop ha)
    k_dflt (refine' written _ _ _ _ _ _ _ _ (hi_of hti htg) ?p2F _ _ _ _ _ _ _ _ _ _ _ _ _ _ _ _ _ _ ?k1F ?k2F ?k3F ?k4F ?k5F ?k6F ?k7F ?k8F ?_)
    case p2F => (rw [len_of hti, List.length_drop, List.length_append, hwl]; simp; omega)
    case k1F => k_asm
    case k2F => k_asm
    case k3F => k_asm
    case k4F => k_asm
    case k5F => k_asm
    case k6F => exact rfl
    case k7F => first | ktr_room | decide
    case k8F => first | ktr_units | decide
    clear F N
    intro t9 h9 tk9 F9 N9
    exact LCg.CompEnd.intro F9 N9 _ (fun p hp => hp) off (.inr ⟨_, .tail _ (.tail _ (.head _)), rfl, _, rfl⟩) ⟨rfl, _, rfl⟩
  clear F1 N1
  intro qvs hql hqvs
  have hqS : StrsAre qvs (tails1 sg ρ) := el_strs (by rw [hql, List.size_toArray, hpl, tails1_len]) fun i y e => by
    have hi : i < 12 := by rw [← hpl, ← List.size_toArray, ← hql]; exact (List.getElem?_eq_some_iff.mp e).1
    rw [tails1_get sg ρ hi]; exact hqvs i y e
  have hql2 : qvs.length = 12 := by rw [hql, List.size_toArray, hpl]
  clear hqvs
  intro Dq h tk F N o3
  simp only [LCg.Off1, and_true] at o3
  k_with_none
  k_with "CompSrc" => refine hold ?_
  k_with "CompEnd" => refine hold ?_
  k_with "call ref" => refine hold ?_
  k_with "pyIter ref" => refine hold ?_
  k_steps
  unfold Hold
  rename_i Dd hF0 FF NF hltd
  -- stage SG
  k_with_none
  k_with "exec While BoolOp cons nil" => refine hold ?_
  k_with "exec While BoolOp" => refine hold ?_
  have hP := plain_ok hsg hρ12 hρ3
  k_dflt (refine' kst_vals (σ := LawS) (n9 := 0) (fun c => (fa0, W.listOf c.vs.toArray c.cap) :: (oa, c.o) :: [(Dq, LCg.lst qvs), (Dp, LCg.lst pvs), (Dn, W.listOf nvs.toArray nc), (Dr, W.listOf rvs.toArray rc)]) (fun _ => []) (fun c => IntsAre c.vs c.fl ∧ c.o.IsDictOf (intKind PG w) c.kvs ∧ PyProof.V.FlatPairs PyData.int c.kvs (kdfD c.c)) [Str.ofString "place", Str.ofString "behind", Str.ofString "step", Str.ofString "first", Str.ofString "last", Str.ofString "run"] (fun i c => FInv sg ρ i 0 c.fl ∧ OInv sg ρ i 0 c.c) ⟨[], 0, [], oo0, [], []⟩ rfl FF (kst_newsOf NF ?hsubG) ?hloG ⟨.nil, hoi, hof⟩ (fun p hp => by cases hp) ⟨FInv.start, OInv.start⟩ ?turnG ?doneG)
  case hsubG =>
    intro p hp
    simp only [List.mem_cons, List.not_mem_nil, or_false] at hp
    rcases hp with rfl | rfl | rfl | rfl | rfl | rfl | rfl <;> k_mem
  case hloG =>
    intro p hp
    simp only [List.mem_cons, List.not_mem_nil, or_false] at hp
    rcases hp with rfl | rfl | rfl | rfl | rfl | rfl <;> (refine neN ?_; dsimp only; omega)
  case doneG =>
    intro stZ uZ hZ tkZ hfZ hpZ FZ NZ
    obtain ⟨vsZ, capZ, flZ, objZ, kvsZ, ocZ⟩ := stZ
    obtain ⟨hvZ, hdZ1, hdZ2⟩ := hfZ
    dsimp only [kstB] at hvZ hdZ1 hdZ2 hpZ FZ NZ
    change Fr s1.heap s1.heap.objs.size hZ _ at FZ
    obtain ⟨hFZ, hOZ⟩ := hpZ
    change FInv sg ρ 2 0 flZ at hFZ
    change OInv sg ρ 2 0 ocZ at hOZ
    have NZ2 : News s1.heap s1.heap.objs.size hZ ((Dr, W.listOf rvs.toArray rc) :: (fa0, W.listOf vsZ.toArray capZ) :: (oa, objZ) :: []) := kst_newsOf NZ (by
      intro p hp
      simp only [List.mem_cons, List.not_mem_nil, or_false] at hp
      rcases hp with rfl | rfl | rfl <;> k_mem)
    clear NZ
    have hocZ : ocZ.length < 64 := by have := hOZ.2.2; omega
    dsimp only
    k_with_none
    k_with "exec While BoolOp cons nil" => refine hold ?_
    k_with "exec While BoolOp" => refine hold ?_
    k_with "call ref" => refine hold ?_
    k_steps
    unfold Hold
    k_dflt (refine' runs _ _ _ _ ρ Dr rvs rc hρ hρ12 _ _ _ _ _ _ _ _ _ _ _ _ _ _ _ _ _ _ ?k1G ?k2G ?k3G ?k4G ?k5G ?k6G ?k7G ?k8G ?_)
    case k1G => k_asm
    case k2G => k_asm
    case k3G => k_asm
    case k4G => exact NZ2
    case k5G => k_asm
    case k6G => exact rfl
    case k7G => first | ktr_room | decide
    case k8G => first | ktr_units | decide
    intro DU vsU nsU nU hU tkU FU NU hltU hIU hPU
    clear NZ2 FZ
    obtain ⟨hPU1, hPU2⟩ := hPU
    simp only [List.cons_append, List.nil_append] at NU hltU
    (try dsimp only)
    (try k_fold)
    k_with_none
    k_with "exec While BoolOp cons nil" => refine hold ?_
    k_with "exec While BoolOp" => refine hold ?_
    k_with "compareOp Eq ref ref" => refine hold ?_
    k_with "call builtin:sorted" => refine hold ?_
    k_with "call type:set" => refine hold ?_
    k_steps
    unfold Hold
    have hmF := found_mem hP hFZ
    have hmO := own_mem hP hOZ
    have hdF := dd_rv hP hmF
    have hdO := dd_rv hP hmO
    have hLF : (dd flZ).length ≤ 12 := by rw [hdF.length_eq]; exact rv_len hP
    have hLO : (dd (ocZ.map (·.2))).length ≤ 12 := by rw [hdO.length_eq]; exact rv_len hP
    k_dflt (refine' set_list (l := fa0) (vs := vsZ) (c := capZ) (ns := flZ) ?k1G ?k2G ?k3G ?k4G hvZ ?k5G ?k6G ?_)
    case k1G => exact rfl
    case k2G => k_asm
    case k3G => k_asm
    case k4G => k_mem
    case k5G => exact fun x hx => rv_small hP ((hmF x).mp hx)
    case k6G => omega
    intro SA oA hA tkA FA NA hltA hSA
    (try dsimp only)
    (try k_fold)
    k_steps
    unfold Hold
    k_dflt (refine' sorted_set (S := SA) (o := oA) (σ := dd flZ) ?k1G ?k2G ?k3G ?k4G hSA ?k5G ?_)
    case k1G => exact rfl
    case k2G => k_asm
    case k3G => k_asm
    case k4G => k_mem
    case k5G => omega
    intro DA vsA nsA nA' hA2 tkA2 FA2 NA2 hltA2 hIA hPA hsA
    have eA : nsA = nsU := sorted_same (hPA.trans (hdF.trans hPU1.symm)) hsA hPU2
    subst eA
    (try dsimp only)
    (try k_fold)
    k_steps
    unfold Hold
    k_with_none
    k_with "exec While BoolOp cons nil" => refine hold ?_
    k_with "exec While BoolOp" => refine hold ?_
    k_with "call builtin:sorted" => refine hold ?_
    k_with "call type:set" => refine hold ?_
    k_steps
    unfold Hold
    k_dflt (refine' set_vals (c := ocZ) ?k1G ?k2G ?k3G ?k4G ?k5G ?k6G ?k7G ?_)
    case k1G => exact rfl
    case k2G => k_asm
    case k3G => k_asm
    case k4G => k_mem
    case k5G => exact TabAt.ofNews (by k_asm) (by k_mem) (by k_asm) (by k_asm) (by k_asm)
    case k6G => exact fun x hx => rv_small hP ((hmO x).mp hx)
    case k7G => omega
    intro SB oB hB tkB FB NB1 hltB hSB
    (try dsimp only)
    (try k_fold)
    k_steps
    unfold Hold
    k_dflt (refine' sorted_set (S := SB) (o := oB) (σ := dd (ocZ.map (·.2))) ?k1G ?k2G ?k3G ?k4G hSB ?k5G ?_)
    case k1G => exact rfl
    case k2G => k_asm
    case k3G => k_asm
    case k4G => k_mem
    case k5G => omega
    intro DB vsB nsB nB' hB2 tkB2 FB2 NB2 hltB2 hIB hPB hsB
    have eB : nsB = nsA := sorted_same (hPB.trans (hdO.trans hPU1.symm)) hsB hPU2
    subst eB
    (try dsimp only)
    (try k_fold)
    k_with_none
    k_with "exec While BoolOp cons nil" => refine hold ?_
    k_with "exec While BoolOp" => refine hold ?_
    k_steps
  clear FF NF
  intro stG0 oG v uG hG tkG own hi hv hoff hf hp F N
  obtain ⟨vsG, capG, flG, objG, kvsG, ocG⟩ := stG0
  obtain ⟨hvI, hd1, hd2⟩ := hf
  obtain ⟨hFI, hOI⟩ := hp
  dsimp only [kstB] at hvI hd1 hd2 hFI hOI F N
  change Fr s1.heap s1.heap.objs.size hG _ at F
  simp only [List.cons_append, List.map_cons, List.map_nil, List.nil_append] at N hoff
  have hi2 : oG < 2 := hi
  obtain ⟨Dt, tvs, rfl, hmT, hTS⟩ : ∃ Dt tvs, v = Value.ref Dt ∧ (Dt, LCg.lst tvs) ∈ [(Dq, LCg.lst qvs), (Dp, LCg.lst pvs)] ∧ StrsAre tvs (TT sg ρ oG) := by
    rcases (by omega : oG = 0 ∨ oG = 1) with rfl | rfl
    · exact ⟨Dp, pvs, (Option.some.inj hv).symm, .tail _ (.head _), hpS⟩
    · exact ⟨Dq, qvs, (Option.some.inj hv).symm, .head _, hqS⟩
  clear hv
  obtain ⟨nw, hnw⟩ : ∃ nw, nw = (Dq, LCg.lst qvs) :: (Dp, LCg.lst pvs) :: (Dn, W.listOf nvs.toArray nc) :: (Dr, W.listOf rvs.toArray rc) :: own := ⟨_, rfl⟩
  have hmT2 : (Dt, LCg.lst tvs) ∈ nw := by
    rw [hnw]
    rcases List.mem_cons.mp hmT with e | e
    · rw [e]; exact .head _
    · rw [List.mem_singleton.mp e]; exact .tail _ (.head _)
  have hmN2 : (Dn, W.listOf nvs.toArray nc) ∈ nw := by rw [hnw]; exact .tail _ (.tail _ (.head _))
  have hnwF : ∀ p ∈ nw, p.1 ≠ fa0 := by
    intro p hp
    rw [hnw] at hp
    simp only [List.mem_cons] at hp
    rcases hp with rfl | rfl | rfl | rfl | hp
    · (refine neN ?_; dsimp only; omega)
    · (refine neN ?_; dsimp only; omega)
    · (refine neN ?_; dsimp only; omega)
    · (refine neN ?_; dsimp only; omega)
    · exact hoff p hp _ (.head _)
  have hnwO : ∀ p ∈ nw, p.1 ≠ oa := by
    intro p hp
    rw [hnw] at hp
    simp only [List.mem_cons] at hp
    rcases hp with rfl | rfl | rfl | rfl | hp
    · (refine neN ?_; dsimp only; omega)
    · (refine neN ?_; dsimp only; omega)
    · (refine neN ?_; dsimp only; omega)
    · (refine neN ?_; dsimp only; omega)
    · exact hoff p hp _ (.tail _ (.head _))
  have hne : fa0 ≠ oa := by (refine neN ?_; omega)
  rw [← hnw] at N
  have N2 : News s1.heap s1.heap.objs.size hG ((fa0, W.listOf vsG.toArray capG) :: (oa, objG) :: (Dt, LCg.lst tvs) :: (Dn, W.listOf nvs.toArray nc) :: nw) := kst_newsOf N (by
    intro p hp
    simp only [List.mem_cons] at hp ⊢
    rcases hp with rfl | rfl | rfl | rfl | hp
    · exact .inl rfl
    · exact .inr (.inl rfl)
    · exact .inr (.inr hmT2)
    · exact .inr (.inr hmN2)
    · exact .inr (.inr hp))
  clear N
  dsimp only
  k_with_none
  k_with "exec While BoolOp cons nil" => refine hold ?_
  k_with "exec While BoolOp" => refine hold ?_
  k_with "pyIter ref" => refine hold ?_
  k_steps
  unfold Hold
  -- stage SH
  k_with_none
  k_with "exec While BoolOp cons nil" => refine hold ?_
  k_with "exec While BoolOp" => refine hold ?_
  rename IsRange _ _ _ _ _ _ _ _ => hR
  rename Fr _ _ _ _ => F0
  rename News _ _ _ _ => N0
  change Fr s1.heap s1.heap.objs.size _ _ at F0
  k_dflt (refine' kst_range (σ := LawS) (fun c => (fa0, W.listOf c.vs.toArray c.cap) :: (oa, c.o) :: (Dt, LCg.lst tvs) :: (Dn, W.listOf nvs.toArray nc) :: nw) (fun _ => []) (fun c => IntsAre c.vs c.fl ∧ c.o.IsDictOf (intKind PG w) c.kvs ∧ PyProof.V.FlatPairs PyData.int c.kvs (kdfD c.c)) [Str.ofString "behind", Str.ofString "step", Str.ofString "first", Str.ofString "last", Str.ofString "run"] (fun pre c => FInv sg ρ oG pre.length c.fl ∧ OInv sg ρ oG pre.length c.c) ⟨vsG, capG, flG, objG, kvsG, ocG⟩ (n := 12) rfl hR (by decide) (by rfl) F0 N0 ⟨hvI, hd1, hd2⟩ (fun p hp => by cases hp) ⟨hFI, hOI⟩ ?turn2H ?done2H)
  case done2H =>
    intro stH0 uH hH tkH hfH hpH F N
    obtain ⟨vsH, capH, flH, objH, kvsH, ocH⟩ := stH0
    obtain ⟨hvH, hdH1, hdH2⟩ := hfH
    dsimp only [kstB] at hvH hdH1 hdH2 hpH F N
    rw [rangeKs_length] at hpH
    obtain ⟨hFH, hOH⟩ := hpH
    change Fr s1.heap s1.heap.objs.size hH _ at F
    dsimp only
    k_with_none
    k_with "exec While BoolOp cons nil" => refine hold ?_
    k_with "exec While BoolOp" => refine hold ?_
    k_steps
    refine' kst_end (⟨vsH, capH, flH, objH, kvsH, ocH⟩ : LawS) F N ?hnH ?hoH rfl ⟨hvH, hdH1, hdH2⟩ (fun p hp => by cases hp) ?hrH ?hpH
    case hnH =>
      intro p hp
      rw [hnw]
      simp only [List.cons_append, List.nil_append, List.mem_cons, List.not_mem_nil, or_false] at hp ⊢
      rcases hp with h | h | h | h | h | h <;> simp [h]
    case hoH =>
      intro p hp
      rw [hnw]
      exact .tail _ (.tail _ (.tail _ (.tail _ (.tail _ (.tail _ (.tail _ (.tail _ hp)))))))
    case hrH => kst_same
    case hpH => (dsimp only; rw [List.length_replicate]; exact ⟨hFH.turn, hOH.turn⟩)
  clear F0 N0
  intro stH0 preH kH tvH uH hH tkH ownH hkH hltH hoffH hfH hpH F N
  obtain ⟨vsH, capH, flH, objH, kvsH, ocH⟩ := stH0
  obtain ⟨hvH, hdH1, hdH2⟩ := hfH
  dsimp only [kstB] at hvH hdH1 hdH2 hpH F N
  simp only [List.cons_append, List.map_cons] at N hoffH
  change Fr s1.heap s1.heap.objs.size hH _ at F
  obtain ⟨pH, hpre⟩ : ∃ pH, pH = preH.length := ⟨_, rfl⟩
  have hkp : kH = (pH : Nat) := by omega
  subst hkp
  rw [← hpre] at hltH hpH
  obtain ⟨hFH, hOH⟩ := hpH
  clear hvI hd1 hd2 hFI hOI
  dsimp only
  k_with_none
  k_with "exec While BoolOp cons nil" => refine hold ?_
  k_with "exec While BoolOp" => refine hold ?_
  k_steps
  unfold Hold
  -- stage SI
  k_with_none
  have hTl := TT_len sg ρ oG
  rename Fr _ _ _ (fun y => if y = Str.ofString "behind" then _ else _) => FI
  rename News _ _ _ ((_, _) :: (_, _) :: (_, _) :: (_, _) :: (nw ++ ownH)) => NI
  k_dflt (refine' while_nat (x := Str.ofString "behind") (b0 := pH + 1) FI NI (by rfl) (fun b => pH < b ∧ b ≤ 12 ∧ ∀ j, pH < j → j < b → coll (tA (TT sg ρ oG) j) (tA (TT sg ρ oG) pH) = 1) (fun b => 12 - b) (fun b => NB (TT sg ρ oG) pH b) ⟨by omega, by omega, fun j a b => by omega⟩ ?turnBI ?doneBI)
  case turnBI =>
    intro b t h tk hp F N
    obtain ⟨hb1, hb2, hb3⟩ := hp
    clear FI NI
    k_with_none
    k_with "subscriptTail Name Name ref int" => (k_dflt (refine' item_strs_made ?k1I ?kmI hTS ?h0I ?h1I ?hfI ?_); (case k1I => k_asm); (case kmI => k_mem); (case h0I => omega); (case h1I => omega); (case hfI => omega); k_whole; intro tI)
    k_with "call ref" => (k_dflt (refine' strcoll _ _ _ _ _ _ _ _ _ _ _ _ _ _ _ _ _ _ _ _ _ _ _ _ _ _ ?k1I ?k2I ?k3I ?k4I ?k5I ?k6I ?k7I ?k8I ?_); (case k1I => k_asm); (case k2I => k_asm); (case k3I => k_asm); (case k4I => k_asm); (case k5I => k_asm); (case k6I => exact rfl); (case k7I => first | ktr_room | decide); (case k8I => first | ktr_units | decide); intro t9 h9 tk9 F9 N9; (try dsimp only); (try k_fold))
    by_cases hb : b < 12
    · by_cases hc : coll (tA (TT sg ρ oG) b) (tA (TT sg ρ oG) pH) = 1
      · k_with "compareOp Eq int int" => (k_dflt (refine eq_int_yes hc ?_))
        k_steps
        rename Fr _ _ _ _ => Fa
        rename News _ _ _ _ => Na
        exact ⟨b + 1, _, _, _, _, rfl, Fa, Na, fun z hz => by simp [hz], by (dsimp only; rw [if_pos rfl]; exact int_eq (by omega)), ⟨by omega, by omega, fun j a1 a2 => by
          rcases (by omega : j < b ∨ j = b) with q | rfl
          · exact hb3 j a1 q
          · exact hc⟩, by omega⟩
      · k_with "compareOp Eq int int" => (k_dflt (refine eq_int_no hc ?_))
        k_steps
        rename Fr _ _ _ _ => Fa
        rename News _ _ _ _ => Na
        exact ⟨b, _, _, _, t, rfl, Fa, Na, fun z hz => by simp [hz], by simp, ⟨hb1, hb2, hb3, fun _ => hc⟩⟩
    · k_steps
      exact ⟨b, _, _, _, t, rfl, F, N, fun z hz => by simp [hz], by simp, ⟨hb1, hb2, hb3, fun q => absurd q hb⟩⟩
  clear FI NI
  intro bB tB hhB tkB' hNB FJ NJ
  have hb1 := hNB.1
  have hb2 := hNB.2.1
  k_with_none
  k_with "exec If" => refine hold ?_
  k_steps
  unfold Hold
  -- stage SJ
  k_with_none
  k_with "exec While BoolOp cons nil" => refine hold ?_
  k_with "exec While BoolOp" => refine hold ?_
  k_dflt (refine' join_keep FJ NJ ?hj1J ?hj2J)
  case hj1J =>
    k_with_none
    k_with "exec While BoolOp cons nil" => refine hold ?_
    k_with "exec While BoolOp" => refine hold ?_
    k_with "subscriptTail Name Name ref int" => (k_dflt (refine' item_strs_made ?k1J ?kmJ hTS ?h0J ?h1J ?hfJ ?_); (case k1J => k_asm); (case kmJ => k_mem); (case h0J => omega); (case h1J => omega); (case hfJ => omega); k_whole; intro tI)
    k_with "call ref" => (k_dflt (refine' strcoll _ _ _ _ _ _ _ _ _ _ _ _ _ _ _ _ _ _ _ _ _ _ _ _ _ _ ?k1J ?k2J ?k3J ?k4J ?k5J ?k6J ?k7J ?k8J ?_); (case k1J => k_asm); (case k2J => k_asm); (case k3J => k_asm); (case k4J => k_asm); (case k5J => k_asm); (case k6J => exact rfl); (case k7J => first | ktr_room | decide); (case k8J => first | ktr_units | decide); intro t9 h9 tk9 F9 N9; (try dsimp only); (try k_fold))
    by_cases hb : bB < 12
    · have hless := hP.less oG pH bB hi2 hNB hb
      k_with "compareOp NotEq int int" => (k_dflt (refine ne_int_no hless ?_))
      k_steps
      rename Fr _ _ _ _ => Fa
      rename News _ _ _ _ => Na
      exact ⟨_, _, rfl, Fa, Na⟩
    · k_steps
      exact ⟨_, _, rfl, FJ, NJ⟩
  clear FJ NJ
  intro hhJ tkJ FJ NJ
  dsimp only
  k_with_none
  k_with "exec While BoolOp cons nil" => refine hold ?_
  k_with "exec While BoolOp" => refine hold ?_
  k_with "subscriptTail Name Name ref int" => (k_dflt (refine' item_strs_made ?k1J ?kmJ hTS ?h0J ?h1J ?hfJ ?_); (case k1J => k_asm); (case kmJ => k_mem); (case h0J => omega); (case h1J => omega); (case hfJ => omega); k_whole; intro tI)
  k_with "call ref" => (k_dflt (refine' strcoll _ _ _ _ _ _ _ _ _ _ _ _ _ _ _ _ _ _ _ _ _ _ _ _ _ _ ?k1J ?k2J ?k3J ?k4J ?k5J ?k6J ?k7J ?k8J ?_); (case k1J => k_asm); (case k2J => k_asm); (case k3J => k_asm); (case k4J => k_asm); (case k5J => k_asm); (case k6J => exact rfl); (case k7J => first | ktr_room | decide); (case k8J => first | ktr_units | decide); intro t9 h9 tk9 F9 N9; (try dsimp only); (try k_fold))
  k_with "compareOp NotEq int int" => (k_dflt (refine ne_int_no (coll_self _) ?_))
  k_steps
  unfold Hold
  -- stage SK
  k_with_none
  rename Fr _ _ _ (fun y => if y = Str.ofString "last" then _ else _) => FK
  rename News _ _ _ ((_, _) :: (_, _) :: (_, _) :: (_, _) :: (nw ++ ownH)) => NK
  have hnl : (List.map num (List.map (sgn sg) ρ ++ [38])).length = 13 := by rw [List.length_map, List.length_append, hwl]; rfl
  k_dflt (refine' while_nat (x := Str.ofString "first") (b0 := pH) FK NK (by rfl) (fun f => f ≤ pH ∧ ∀ i, f ≤ i → i < pH → nA (NN sg ρ) i = nA (NN sg ρ) (i + (bB - pH))) (fun f => f) (fun f => LeftX (NN sg ρ) (bB - pH) pH f) ⟨Nat.le_refl _, fun i a b => by omega⟩ ?turnFK ?doneFK)
  case turnFK =>
    intro f tf h tk hp F N
    obtain ⟨hf1, hf2⟩ := hp
    clear FK NK
    k_with_none
    k_with "subscriptTail Name BinOp ref int" => (k_dflt (refine' ksa_sub ?k1K ?k2K hnv ?h0K ?h1K ?hfK ?_); (case k1K => k_asm); (case k2K => k_mem); (case h0K => omega); (case h1K => (rw [hnl]; omega)); (case hfK => omega); k_whole; intro tI)
    by_cases hf0 : 0 < f
    · have e1 : ((f : Int) - 1).toNat = f - 1 := by omega
      have e2 : ((f : Int) - 1 + ((bB : Int) - (pH : Int))).toNat = f - 1 + (bB - pH) := by omega
      by_cases hE : nA (NN sg ρ) (f - 1) = nA (NN sg ρ) (f - 1 + (bB - pH))
      · k_with "call ref" => refine hold ?_
        k_steps
        unfold Hold
        k_dflt (refine' iseof_yes _ _ _ _ _ _ ?p1K _ _ _ _ _ _ _ _ _ _ _ _ _ _ _ _ _ _ ?k1K ?k2K ?k3K ?k4K ?k5K ?k6K ?k7K ?k8K ?_)
        case p1K => (rw [e1, e2]; exact Int.sub_eq_zero.mpr hE)
        case k1K => k_asm
        case k2K => k_asm
        case k3K => k_asm
        case k4K => k_asm
        case k5K => k_asm
        case k6K => exact rfl
        case k7K => first | ktr_room | decide
        case k8K => first | ktr_units | decide
        intro t9 h9 tk9 F9 N9
        try dsimp only
        try k_fold
        k_with_none
        k_steps
        rename Fr _ _ _ _ => Fa
        rename News _ _ _ _ => Na
        exact ⟨f - 1, _, _, _, _, rfl, Fa, Na, fun z hz => by simp [hz], by (dsimp only; rw [if_pos rfl]; exact int_eq (by omega)), ⟨by omega, fun j a1 a2 => by
          rcases (by omega : f ≤ j ∨ j = f - 1) with q | rfl
          · exact hf2 j q a2
          · exact hE⟩, by omega⟩
      · k_with "call ref" => refine hold ?_
        k_steps
        unfold Hold
        k_dflt (refine' iseof_no _ _ _ _ _ _ ?p1K _ _ _ _ _ _ _ _ _ _ _ _ _ _ _ _ _ _ ?k1K ?k2K ?k3K ?k4K ?k5K ?k6K ?k7K ?k8K ?_)
        case p1K => (rw [e1, e2]; exact fun q => hE (Int.sub_eq_zero.mp q))
        case k1K => k_asm
        case k2K => k_asm
        case k3K => k_asm
        case k4K => k_asm
        case k5K => k_asm
        case k6K => exact rfl
        case k7K => first | ktr_room | decide
        case k8K => first | ktr_units | decide
        intro t9 h9 tk9 F9 N9
        try dsimp only
        try k_fold
        k_with_none
        k_steps
        rename Fr _ _ _ _ => Fa
        rename News _ _ _ _ => Na
        exact ⟨f, _, _, _, tf, rfl, Fa, Na, fun z hz => by simp [hz], by simp, ⟨hf1, hf2, fun _ => hE⟩⟩
    · k_steps
      exact ⟨f, _, _, _, tf, rfl, F, N, fun z hz => by simp [hz], by simp, ⟨hf1, hf2, fun q => absurd q hf0⟩⟩
  clear FK NK
  intro fK tfK hhK tkK hLX FK NK
  k_with_none
  k_with "exec While BoolOp cons nil" => refine hold ?_
  k_steps
  unfold Hold
  -- stage SL
  k_with_none
  rename Fr _ _ _ (fun y => if y = Str.ofString "first" then _ else _) => FK
  rename News _ _ _ ((_, _) :: (_, _) :: (_, _) :: (_, _) :: (nw ++ ownH)) => NK
  have hnl : (List.map num (List.map (sgn sg) ρ ++ [38])).length = 13 := by rw [List.length_map, List.length_append, hwl]; rfl
  k_dflt (refine' while_nat (x := Str.ofString "last") (b0 := bB) FK NK (by rfl) (fun l => bB ≤ l ∧ l ≤ 12 ∧ ∀ i, bB ≤ i → i < l → nA (NN sg ρ) i = nA (NN sg ρ) (i - (bB - pH))) (fun l => 12 - l) (fun l => RightX (NN sg ρ) (bB - pH) bB l) ⟨Nat.le_refl _, by omega, fun i a b => by omega⟩ ?turnLL ?doneLL)
  case turnLL =>
    intro f tf h tk hp F N
    obtain ⟨hf1, hf3, hf2⟩ := hp
    clear FK NK
    k_with_none
    k_with "subscriptTail Name BinOp ref int" => (k_dflt (refine' ksa_sub ?k1L ?k2L hnv ?h0L ?h1L ?hfL ?_); (case k1L => k_asm); (case k2L => k_mem); (case h0L => omega); (case h1L => (rw [hnl]; omega)); (case hfL => omega); k_whole; intro tI)
    k_with "subscriptTail Name Name ref int" => (k_dflt (refine' ksa_sub ?k1L ?k2L hnv ?h0L ?h1L ?hfL ?_); (case k1L => k_asm); (case k2L => k_mem); (case h0L => omega); (case h1L => (rw [hnl]; omega)); (case hfL => omega); k_whole; intro tJ)
    by_cases hf0 : f < 12
    · have e1 : ((f : Int)).toNat = f := by omega
      have e2 : ((f : Int) - ((bB : Int) - (pH : Int))).toNat = f - (bB - pH) := by omega
      by_cases hE : nA (NN sg ρ) f = nA (NN sg ρ) (f - (bB - pH))
      · k_with "call ref" => refine hold ?_
        k_steps
        unfold Hold
        k_dflt (refine' iseof_yes _ _ _ _ _ _ ?p1L _ _ _ _ _ _ _ _ _ _ _ _ _ _ _ _ _ _ ?k1L ?k2L ?k3L ?k4L ?k5L ?k6L ?k7L ?k8L ?_)
        case p1L => (rw [e1, e2]; exact Int.sub_eq_zero.mpr hE)
        case k1L => k_asm
        case k2L => k_asm
        case k3L => k_asm
        case k4L => k_asm
        case k5L => k_asm
        case k6L => exact rfl
        case k7L => first | ktr_room | decide
        case k8L => first | ktr_units | decide
        intro t9 h9 tk9 F9 N9
        try dsimp only
        try k_fold
        k_with_none
        k_steps
        rename Fr _ _ _ _ => Fa
        rename News _ _ _ _ => Na
        exact ⟨f + 1, _, _, _, _, rfl, Fa, Na, fun z hz => by simp [hz], by (dsimp only; rw [if_pos rfl]; exact int_eq (by omega)), ⟨by omega, by omega, fun j a1 a2 => by
          rcases (by omega : j < f ∨ j = f) with q | rfl
          · exact hf2 j a1 q
          · exact hE⟩, by omega⟩
      · k_with "call ref" => refine hold ?_
        k_steps
        unfold Hold
        k_dflt (refine' iseof_no _ _ _ _ _ _ ?p1L _ _ _ _ _ _ _ _ _ _ _ _ _ _ _ _ _ _ ?k1L ?k2L ?k3L ?k4L ?k5L ?k6L ?k7L ?k8L ?_)
        case p1L => (rw [e1, e2]; exact fun q => hE (Int.sub_eq_zero.mp q))
        case k1L => k_asm
        case k2L => k_asm
        case k3L => k_asm
        case k4L => k_asm
        case k5L => k_asm
        case k6L => exact rfl
        case k7L => first | ktr_room | decide
        case k8L => first | ktr_units | decide
        intro t9 h9 tk9 F9 N9
        try dsimp only
        try k_fold
        k_with_none
        k_steps
        rename Fr _ _ _ _ => Fa
        rename News _ _ _ _ => Na
        exact ⟨f, _, _, _, tf, rfl, Fa, Na, fun z hz => by simp [hz], by simp, ⟨hf1, hf3, hf2, fun _ => hE⟩⟩
    · k_steps
      exact ⟨f, _, _, _, tf, rfl, F, N, fun z hz => by simp [hz], by simp, ⟨hf1, hf3, hf2, fun q => absurd q hf0⟩⟩
  clear FK NK
  intro lL tfL hhL tkL hRX FL NL
  have hf1 : fK ≤ pH := hLX.1
  have hl1 : bB ≤ lL := hRX.1
  have hl2 : lL ≤ 12 := hRX.2.1
  k_with_none
  k_with "exec If" => refine hold ?_
  k_steps
  unfold Hold
  -- stage SM
  k_with_none
  have hfl : vsH.length ≤ 40 := by have e1 := hvH.length; have e2 := hFH.2; omega
  have hocl : ocH.length ≤ 40 := by have e2 := hOH.2.2; omega
  have hval : 400 * (fK : Int) + 20 * (lL : Int) + ((bB : Int) - (pH : Int)) = val fK lL (bB - pH) := by unfold val; omega
  have hallF : ∀ p ∈ ((oa, objH) :: (Dt, LCg.lst tvs) :: (Dn, W.listOf nvs.toArray nc) :: (nw ++ ownH)), p.1 ≠ fa0 := by
    intro p hp
    simp only [List.mem_cons] at hp
    rcases hp with rfl | rfl | rfl | hp
    · exact fun e => hne e.symm
    · exact hnwF _ hmT2
    · exact hnwF _ hmN2
    · rcases List.mem_append.mp hp with hp | hp
      · exact hnwF p hp
      · exact hoffH p hp _ (.head _)
  have hallO : ∀ p ∈ ((Dt, LCg.lst tvs) :: (Dn, W.listOf nvs.toArray nc) :: (nw ++ ownH)), p.1 ≠ oa := by
    intro p hp
    simp only [List.mem_cons] at hp
    rcases hp with rfl | rfl | hp
    · exact hnwO _ hmT2
    · exact hnwO _ hmN2
    · rcases List.mem_append.mp hp with hp | hp
      · exact hnwO p hp
      · exact hoffH p hp _ (.tail _ (.head _))
  have hn9 : ∀ (a b : Obj), ∀ p ∈ ((fa0, a) :: (oa, b) :: (Dt, LCg.lst tvs) :: (Dn, W.listOf nvs.toArray nc) :: nw), p ∈ ((fa0, a) :: (oa, b) :: (Dt, LCg.lst tvs) :: (Dn, W.listOf nvs.toArray nc) :: (nw ++ ownH)) := by
    intro a b p hp
    simp only [List.mem_cons, List.mem_append] at hp ⊢
    rcases hp with h | h | h | h | h <;> simp [h]
  have ho9 : ∀ (a b : Obj), ∀ p ∈ ownH, p ∈ ((fa0, a) :: (oa, b) :: (Dt, LCg.lst tvs) :: (Dn, W.listOf nvs.toArray nc) :: (nw ++ ownH)) := by
    intro a b p hp
    simp only [List.mem_cons, List.mem_append]
    exact .inr (.inr (.inr (.inr (.inr hp))))
  have hpl : (preH ++ [((pH : Nat) : Int)]).length = pH + 1 := by rw [List.length_append, ← hpre]; rfl
  k_with_none
  by_cases hlong : 2 * (bB - pH) ≤ lL - fK
  case' neg =>
    k_steps
    rename Fr _ _ _ _ => F9
    rename News _ _ _ _ => N9
    refine' kst_end (⟨vsH, capH, flH, objH, kvsH, ocH⟩ : LawS) F9 N9 (hn9 _ _) (ho9 _ _) rfl ⟨hvH, hdH1, hdH2⟩ (fun p hp => by cases hp) ?hrM ?hpM
    case hrM => kst_same
    case hpM => (dsimp only; rw [hpl]; exact ⟨hFH.no hNB hLX hRX hlong, hOH.no hNB hLX hRX (fun q => hlong q.1)⟩)
  have hC : Cand (TT sg ρ oG) (NN sg ρ) pH bB fK lL := ⟨hNB, hLX, hRX, hlong⟩
  k_with "call builtin:list.append" => (k_dflt (refine' append_K ?k1M ?k2M (Upd.head hallF) ?_ ?zM); (case k1M => k_asm); (case k2M => k_asm); (case zM => (rw [List.size_toArray, sizeLine_eq]; omega)); k_whole; intro hA' FA' NA'; (try k_sweep))
  by_cases hfp : fK < pH
  case' neg =>
    k_steps
    rename Fr _ _ _ _ => F9
    rename News _ _ _ _ => N9
    simp only [List.push_toArray] at N9
    refine' kst_end (⟨_, capH + 1, flH ++ [val fK lL (bB - pH)], objH, kvsH, ocH⟩ : LawS) F9 N9 (hn9 _ _) (ho9 _ _) rfl ⟨?hvM, hdH1, hdH2⟩ (fun p hp => by cases hp) ?hrM ?hpM
    case hvM => (dsimp only; rw [← hval]; exact hvH.append (.cons _ _ .nil))
    case hrM => kst_same
    case hpM => (dsimp only; rw [hpl]; exact ⟨hFH.yes hNB hLX hRX hlong, hOH.no hNB hLX hRX (fun q => hfp q.2)⟩)
  have hlk : kdfLook ocH (pH : Nat) (400 * (fK : Int) + 20 * (lL : Int) + ((bB : Int) - (pH : Int))) = 400 * (fK : Int) + 20 * (lL : Int) + ((bB : Int) - (pH : Int)) := by rw [hval]; exact hOH.look hP hi2 hC hfp
  k_with "call builtin:dict.get" => (k_dflt (refine' kdf_get2 (c := ocH) ?k1M ?_); (case k1M => exact TabAt.ofNews (by k_asm) (by k_mem) (by k_asm) (by k_asm) (by k_asm)); intro tG9)
  k_with "compareOp NotEq int int" => (refine' ne_int_no ?eM ?_; (case eM => exact hlk))
  k_with "setItem ref int" => refine hold ?_
  k_steps
  unfold Hold
  k_dflt (refine' kdf_setItem (c := ocH) ?k1M ?k2M (UpdF.tail (p := (fa0, _)) hne (.head hallO)) hdH1 hdH2 ?k3M ?_)
  case k1M => k_asm
  case k2M => k_asm
  case k3M => omega
  k_whole
  intro hS9 oS9 kvS9 FS9 NS9 hdS1 hdS2
  (try dsimp only at NS9)
  (try k_sweep)
  k_with_none
  k_steps
  rename Fr _ _ _ _ => F9
  rename News _ _ _ _ => N9
  simp only [List.push_toArray] at N9
  refine' kst_end (⟨_, capH + 1, flH ++ [val fK lL (bB - pH)], oS9, kvS9, kdfPut ocH (pH : Nat) (val fK lL (bB - pH))⟩ : LawS) F9 N9 (hn9 _ _) (ho9 _ _) rfl ⟨?hvM, hdS1, ?hdM⟩ (fun p hp => by cases hp) ?hrM ?hpM
  case hvM => (dsimp only; rw [← hval]; exact hvH.append (.cons _ _ .nil))
  case hdM => (dsimp only; rw [← hval]; exact hdS2)
  case hrM => kst_same
  case hpM => (dsimp only; rw [hpl]; exact ⟨hFH.yes hNB hLX hRX hlong, hOH.yes hP hi2 hC hfp⟩)
end Mine
end
end
theorem PySem.Challenge.cw_xo0024_01_holds : PySem.Challenge.rw_xo0024_01.Holds :=
  Mine.law_holds
