import PyProof.Rows.All
import Wide.All
import OpenK.AllK
import Wide.FinOn
import PySem.Challenge.RW_il0041_01
open PySem PySem.W PyProof.Rows PySem.Calls
set_option Elab.async false
set_option maxRecDepth 100000
set_option maxHeartbeats 8000000
namespace Mine
abbrev LeftAll {α : Type} (p q : Program) (loose : List Str) (Xt : Shared → Bool) (Yf : Shared → α) (Ya : World → α) (N : Nat) : Prop := LeftO p q loose Xt Yf Ya N
theorem PySem.W.holds_open {r : OpenRow} {q : Program} {loose : List Str} {Xt : Shared → Bool} {XP : (Str → Option Value) → Heap → Prop} {α : Type} {Yf : Shared → α} {Ya : World → α} {YP : World → Heap → Prop} {d : DefRec} {kwd : List (Str × Expr)} {N : Nat}
    (left : LeftAll r.prog q loose Xt Yf Ya N) (hY : ∀ w s, Yf s = Ya w → YP w s.heap) (hYk : ∀ w h h', YP w h → (∀ b o, h.get? b = some o → h'.get? b = some o) → YP w h')
    (hX : ∀ s, Xt s = true → XP (s.heap.nsMap mainGlobals) s.heap) (hXk : ∀ mg h h', XP mg h → (∀ b o, h.get? b = some o → h'.get? b = some o) → XP mg h')
    (hdef : defOf q r.name = some (d, kwd)) (hp : r.prog.theDef r.name = some (d.params, d.body, d.scope)) (hk : kwWritten? d.params.kwonlyargs d.params.kw_defaults = some kwd) (hRf : ∀ s, Xt s = true → RecFacts r.records s.heap) (hwr : (!r.writes || r.records.isEmpty) = true)
    (k1 : r.wellSaid = true) (ok : (chainsOk q && opensWell r.prog && (frees r.toRowW && r.within.isEmpty)) = true) (hb : r.prog.bare) (hw : r.toRowW.promised)
    (call : WalkO q loose XP YP r.toRowW d kwd fun f vs => PySem.call f vs) : r.Holds :=
  _root_.PySem.W.holds_open left hY hYk hX hXk hdef hp hk hRf hwr k1 ok hb hw call
open_top hd for PySem.Challenge.rw_il0041_01
section
def mk (l : List Nat) : Str := ⟨l.toArray⟩
theorem mk_toList (x : Str) : mk x.cps.toList = x := by cases x; rfl
theorem toList_mk (l : List Nat) : (mk l).cps.toList = l := rfl
theorem mk_append (a b : List Nat) : mk a ++ mk b = mk (a ++ b) := Str.ext' (by
  show a.toArray ++ b.toArray = (a ++ b).toArray
  simp)
theorem mk_inj {a b : List Nat} (h : mk a = mk b) : a = b := by
  have := congrArg (fun x : Str => x.cps.toList) h
  exact this
theorem mk_length (a : List Nat) : (mk a).length = a.length := by simp [mk, Str.length]

noncomputable def cutL (c : Nat) : List Nat → List (List Nat)
  | [] => [[]]
  | d :: r => if d = c then [] :: cutL c r else match cutL c r with
    | p :: ps => (d :: p) :: ps
    | [] => [[d]]
theorem cutL_ne (c : Nat) : ∀ l, cutL c l ≠ []
  | [] => by simp [cutL]
  | d :: r => by
    unfold cutL
    split
    · simp
    · split <;> simp
theorem cutL_hit (c : Nat) (r : List Nat) : cutL c (c :: r) = [] :: cutL c r := by simp [cutL]
theorem cutL_miss {c d : Nat} (h : d ≠ c) (r : List Nat) : ∃ p ps, cutL c r = p :: ps ∧ cutL c (d :: r) = (d :: p) :: ps := by
  cases e : cutL c r with
  | nil => exact absurd e (cutL_ne c r)
  | cons p ps => exact ⟨p, ps, rfl, by simp [cutL, h, e]⟩
theorem cutL_free (c : Nat) : ∀ l : List Nat, c ∉ l → cutL c l = [l]
  | [], _ => rfl
  | d :: r, h => by
    have hd : d ≠ c := fun e => h (e ▸ List.mem_cons_self ..)
    have ih := cutL_free c r (fun m => h (List.mem_cons_of_mem _ m))
    simp [cutL, hd, ih]
theorem cutL_app (c : Nat) : ∀ (a b : List Nat), c ∉ a → cutL c (a ++ c :: b) = a :: cutL c b
  | [], b, _ => cutL_hit c b
  | d :: r, b, h => by
    have hd : d ≠ c := fun e => h (e ▸ List.mem_cons_self ..)
    have ih := cutL_app c r b (fun m => h (List.mem_cons_of_mem _ m))
    simp [cutL, hd, ih]

noncomputable def joinL (z : List Nat) : List (List Nat) → List Nat
  | [] => []
  | [p] => p
  | p :: q :: r => p ++ z ++ joinL z (q :: r)
theorem join_mk (z : List Nat) : ∀ ps : List (List Nat), Str.join (mk z) (ps.map mk) = mk (joinL z ps)
  | [] => rfl
  | [p] => rfl
  | p :: q :: r => by
    show mk p ++ mk z ++ Str.join (mk z) ((q :: r).map mk) = _
    rw [join_mk z (q :: r), mk_append, mk_append]; rfl
theorem joinL_cut (c : Nat) : ∀ l, joinL [c] (cutL c l) = l
  | [] => rfl
  | d :: r => by
    have ih := joinL_cut c r
    by_cases h : d = c
    · subst h
      rw [cutL_hit]
      cases e : cutL d r with
      | nil => exact absurd e (cutL_ne d r)
      | cons p ps => rw [e] at ih; simp [joinL, ih]
    · obtain ⟨p, ps, e1, e2⟩ := cutL_miss h r
      rw [e1] at ih; rw [e2]
      cases ps with
      | nil => simpa [joinL] using ih
      | cons q r' => simp only [joinL] at ih ⊢; rw [List.cons_append, List.cons_append, ih]
theorem join_uniq (c : Nat) : ∀ ps qs : List (List Nat), ps ≠ [] → qs ≠ [] → (∀ p ∈ ps, c ∉ p) → (∀ q ∈ qs, c ∉ q) → joinL [c] ps = joinL [c] qs → ps = qs := by
  have cut : ∀ ps : List (List Nat), ps ≠ [] → (∀ p ∈ ps, c ∉ p) → cutL c (joinL [c] ps) = ps := by
    intro ps
    induction ps with
    | nil => intro h; exact absurd rfl h
    | cons p r ih =>
      intro _ h
      cases r with
      | nil => exact cutL_free c p (h p (List.mem_cons_self ..))
      | cons q r' =>
        have := ih (by simp) (fun a ha => h a (List.mem_cons_of_mem _ ha))
        show cutL c (p ++ [c] ++ joinL [c] (q :: r')) = _
        rw [List.append_assoc, List.singleton_append, cutL_app c p _ (h p (List.mem_cons_self ..)), this]
  intro ps qs h1 h2 h3 h4 e
  rw [← cut ps h1 h3, ← cut qs h2 h4, e]
theorem cut_free (c : Nat) : ∀ l, ∀ p ∈ cutL c l, c ∉ p
  | [], p, hp => by simp [cutL] at hp; simp [hp]
  | d :: r, p, hp => by
    have ih := cut_free c r
    by_cases h : d = c
    · subst h
      rw [cutL_hit] at hp
      rcases List.mem_cons.mp hp with rfl | hp
      · simp
      · exact ih p hp
    · obtain ⟨q, ps, e1, e2⟩ := cutL_miss h r
      rw [e2] at hp; rw [e1] at ih
      rcases List.mem_cons.mp hp with rfl | hp
      · have := ih q (List.mem_cons_self ..)
        simp only [List.mem_cons, not_or]
        exact ⟨fun e => h e.symm, this⟩
      · exact ih p (List.mem_cons_of_mem _ hp)

theorem split_ne (x : Str) (c : Nat) : Txt.split x ⟨#[c]⟩ ≠ [] := by
  unfold Txt.split
  split
  · simp
  · split
    · simp
    · rw [StrLaws.partsBetween_eq]
      obtain ⟨p, r, e⟩ := StrLaws.partsFrom_ne x (⟨#[c]⟩ : Str).length 0 (Builtin.Str.occurrences x ⟨#[c]⟩ 0 x.length (x.length + 1))
      rw [e]; simp
theorem split_mk (x : Str) (c : Nat) : Txt.split x (mk [c]) = (cutL c x.cps.toList).map mk := by
  have h1 := StrLaws.join_split x (mk [c])
  have h2 := StrLaws.split_free x c
  have h3 := split_ne x c
  change ∀ p ∈ Txt.split x (mk [c]), c ∉ p.cps.toList at h2
  change Txt.split x (mk [c]) ≠ [] at h3
  generalize Txt.split x (mk [c]) = ps at h1 h2 h3
  have e : ps = (ps.map fun p => p.cps.toList).map mk := by
    rw [List.map_map]
    conv => lhs; rw [← List.map_id ps]
    exact List.map_congr_left fun p _ => (mk_toList p).symm
  rw [e, join_mk] at h1
  rw [e]
  congr 1
  have e2 : joinL [c] (ps.map fun p => p.cps.toList) = x.cps.toList := by rw [← h1]; rfl
  refine join_uniq c _ _ (by simpa using h3) (cutL_ne c _) ?_ (cut_free c _) (by rw [e2, joinL_cut])
  intro p hp
  obtain ⟨q, hq, rfl⟩ := List.mem_map.mp hp
  exact h2 q hq

noncomputable def repl (c : Nat) (z : List Nat) (l : List Nat) : List Nat := l.flatMap fun d => if d = c then z else [d]
theorem joinL_repl (c : Nat) (z : List Nat) : ∀ l, joinL z (cutL c l) = repl c z l
  | [] => rfl
  | d :: r => by
    have ih := joinL_repl c z r
    by_cases h : d = c
    · subst h
      rw [cutL_hit]
      cases e : cutL d r with
      | nil => exact absurd e (cutL_ne d r)
      | cons p ps => rw [e] at ih; simp [joinL, ih, repl]
    · obtain ⟨p, ps, e1, e2⟩ := cutL_miss h r
      rw [e1] at ih; rw [e2]
      have : repl c z (d :: r) = d :: repl c z r := by simp [repl, h]
      rw [this, ← ih]
      cases ps with
      | nil => simp [joinL]
      | cons q r' => simp [joinL]
theorem replace_mk (x : Str) (c : Nat) (z : List Nat) : Txt.replace x (mk [c]) (mk z) = mk (repl c z x.cps.toList) := by
  have := StrLaws.replace_one x (mk z) c
  change Txt.replace x (mk [c]) (mk z) = Str.join (mk z) (Txt.split x (mk [c])) at this
  rw [this, split_mk, join_mk, joinL_repl]
theorem repl_free (c : Nat) (z : List Nat) : ∀ l : List Nat, c ∉ l → repl c z l = l
  | [], _ => rfl
  | d :: r, h => by
    have hd : d ≠ c := fun e => h (e ▸ List.mem_cons_self ..)
    have ih := repl_free c z r (fun m => h (List.mem_cons_of_mem _ m))
    have : repl c z (d :: r) = d :: repl c z r := by simp [repl, hd]
    rw [this, ih]
theorem repl_length (c : Nat) (z : List Nat) (k : Nat) (hk : z.length ≤ k + 1) : ∀ l : List Nat, (repl c z l).length ≤ (k + 1) * l.length
  | [] => by simp [repl]
  | d :: r => by
    have ih := repl_length c z k hk r
    have : repl c z (d :: r) = (if d = c then z else [d]) ++ repl c z r := by simp [repl]
    rw [this, List.length_append, List.length_cons, Nat.mul_add]
    split
    · omega
    · simp; omega
end
section
noncomputable abbrev LS := looseW hd.view_39
      [Str.ofString "bytes_types", Str.ofString "a2b_base64", Str.ofString "b2a_base64", Str.ofString "b64encode",
        Str.ofString "b64decode", Str.ofString "_filemode_table", Str.ofString "_law_signs", Str.ofString "_law_marks"]

noncomputable def GivesK (w : World) (mean : ExcName → Option Value) (mg mb : Str → Option Value) (f : Addr) (vs : List Value) (kw : List (Str × Value)) (R : Tok → Value) (deep cu : Nat) : Prop :=
  ∀ (dp un : Nat) (gd : Option (List Code)) (cn : Str) (cs : Scope) (a : Addr) (ccd : Value) (cl : List (Str × Addr)) (outer : List Env) (A₀ : Around) (base h₀ : Heap) (L : Addr) (m : Str → Option Value) (news : List (Addr × Obj)) (s : Shared) (Q E : Value → Shared → Prop),
    Below A₀ base outer h₀ → Fr h₀ L s.heap m → (hd.heap_39 w.params).In h₀ → News h₀ L s.heap news → Top hd.view_39 LS mean mg mb h₀ → cs.kind = .function → 1 ≤ s.toks →
    dp + deep < recursionLimit → un + cu < cLine →
    (∀ (t : Tok) (h' : Heap) (tk' : Nat), Fr h₀ L h' m → News h₀ L h' news → 1 ≤ tk' → Q (R t) { s with heap := h', toks := tk' }) →
    wpAny (model PySem.Challenge.rw_il0041_01.row.prog w) (ktrTop dp un gd cn cs L a ccd cl outer) (call (.ref f) vs kw) Q E s
abbrev Gives (w : World) (mean : ExcName → Option Value) (mg mb : Str → Option Value) (f : Addr) (vs : List Value) (R : Tok → Value) (deep cu : Nat) : Prop := GivesK w mean mg mb f vs [] R deep cu
end
section
noncomputable def EscPost (h₀ : Heap) (L : Addr) (m : Str → Option Value) (news : List (Addr × Obj)) (x cs zs : Str) (s : Shared) (f : Flow) (s' : Shared) : Prop :=
  f = .next ∧ ∃ h' t' tk, s' = { s with heap := h', toks := tk } ∧ Fr h₀ L h' (fun y => if y = Str.ofString "text" then some (.str (Txt.replace x cs zs) t') else m y) ∧ News h₀ L h' news ∧ 1 ≤ tk

theorem escPost_hit {h₀ : Heap} {L : Addr} {m : Str → Option Value} {news : List (Addr × Obj)} {x cs zs : Str} {s : Shared} {h' : Heap} {t' : Tok} {tk : Nat}
    (F : Fr h₀ L h' (fun y => if y = Str.ofString "text" then some (.str (Txt.replace x cs zs) t') else m y)) (N : News h₀ L h' news) (h1 : 1 ≤ tk) :
    EscPost h₀ L m news x cs zs s .next { s with heap := h', toks := tk } := ⟨rfl, h', t', tk, rfl, F, N, h1⟩
theorem escPost_miss {h₀ : Heap} {L : Addr} {m : Str → Option Value} {news : List (Addr × Obj)} {x cs zs : Str} {s : Shared} {h' : Heap} {t : Tok} {tk c : Nat} {z : List Nat} (hc : cs = mk [c]) (hz : zs = mk z) (hv : m (Str.ofString "text") = some (.str x t))
    (F : Fr h₀ L h' m) (N : News h₀ L h' news) (h1 : 1 ≤ tk) (hno : (Builtin.Str.occurrences x cs 0 x.length 1).isEmpty = true) :
    EscPost h₀ L m news x cs zs s .next { s with heap := h', toks := tk } := by
  refine ⟨rfl, h', t, tk, rfl, ?_, N, h1⟩
  have hin := StrLaws.found_one x c
  have hcs : cs = ⟨#[c]⟩ := hc
  rw [← hcs, hno] at hin
  have hm : c ∉ x.cps.toList := by
    intro hm; rw [decide_eq_true hm] at hin; cases hin
  have e : Txt.replace x cs zs = x := by rw [hc, hz, replace_mk, repl_free c z _ hm, mk_toList]
  rw [e]
  have e2 : (fun y => if y = Str.ofString "text" then some (Value.str x t) else m y) = m := by
    funext y
    by_cases hy : y = Str.ofString "text"
    · subst hy; simp [hv]
    · simp [hy]
  rw [e2]; exact F

theorem gen_toks {M : Model} {A : Around} {α : Type} {t : Sem α} {Q : α → Shared → Prop} {E : Value → Shared → Prop} {h : Heap} {g : Array GenState} {d : Drawn} {n : Nat} {o : OsState} (hn : 1 ≤ n)
    (H : ∀ tk, 1 ≤ tk → wpAny M A t Q E ⟨h, g, d, tk, o⟩) : wpAny M A t Q E ⟨h, g, d, n, o⟩ := H n hn
theorem my_replace {prog : Program} {w : World} {A : Around} {E : Value → Shared → Prop} {s : Shared} {x y z : Str} {t u v : Tok} {Q : Value → Shared → Prop} (h1 : 1 ≤ s.toks) (hu : u ≠ 0) (hv : v ≠ 0) (huv : u ≠ v) (hyz : (y == z) = false) (hx : x.length ≤ 2300000) (hz : z.length ≤ 6)
    (hq : ∀ t' k, 1 ≤ k → Q (.str (Txt.replace x y z) t') { s with toks := k }) : wpAny (model prog w) A (call (.builtin "str.replace") [.str x t, .str y u, .str z v]) Q E s :=
  wpAny_with_toks (n := 1) h1 (SC.replace hu hv huv hyz (by have h1 : (x.length + 1) * z.length ≤ (x.length + 1) * 6 := Nat.mul_le_mul_left _ hz
                                                            omega) fun t' k h => hq t' k h)

theorem esc_join {prog : Program} {w : World} {A : Around} {E : Value → Shared → Prop} {s : Shared} {env : Env} {L : Addr} {h₀ : Heap} {m : Str → Option Value} {news : List (Addr × Obj)} {Q : Flow → Shared → Prop}
    {cs zs x : Str} {t : Tok} {k1 k2 k3 : Nat} {p1 p3 p6 p7 p8 p9 p10 p11 : Pos} {e1 e2 e3 : Expr} {at' : Str} {ops : List CmpOp}
    (_F : Fr h₀ L s.heap m) (_N : News h₀ L s.heap news) (_h1 : 1 ≤ s.toks) (_hv : m (Str.ofString "text") = some (.str x t))
    (body : wpAny (model prog w) A (exec (.If (.Compare (.Constant (.str cs) k1 p1) ops [e1] p3)
      [.Assign [e2] (.Call (.Attribute e3 at' p6) [.Constant (.str cs) k2 p7, .Constant (.str zs) k3 p8] [] p9) p10] [] p11) env) (EscPost h₀ L m news x cs zs s) E s)
    (hc : ∃ c, cs = mk [c]) (hz : zs.length ≤ 6)
    (h : ∀ h' t' tk y, y = Txt.replace x cs zs → y.length ≤ 6 * x.length → Fr h₀ L h' (fun v => if v = Str.ofString "text" then some (.str y t') else m v) → News h₀ L h' news → 1 ≤ tk → Q .next { s with heap := h', toks := tk }) :
    wpAny (model prog w) A (exec (.If (.Compare (.Constant (.str cs) k1 p1) ops [e1] p3)
      [.Assign [e2] (.Call (.Attribute e3 at' p6) [.Constant (.str cs) k2 p7, .Constant (.str zs) k3 p8] [] p9) p10] [] p11) env) Q E s :=
  wpAny_mono body (fun _ _ ⟨hf, h', t', tk, hs, F', N', h1'⟩ => by
    subst hf; subst hs
    obtain ⟨c, hc⟩ := hc
    refine h h' t' tk _ rfl ?_ F' N' h1'
    have e : zs = mk zs.cps.toList := (mk_toList zs).symm
    rw [hc, e, replace_mk, mk_length]
    have h6 : zs.cps.toList.length ≤ 5 + 1 := by simpa [Str.length] using hz
    have := repl_length c zs.cps.toList 5 h6 x.cps.toList
    simpa [Str.length] using this) fun _ _ e => e

noncomputable def escCL (l : List Nat) : List Nat := repl 62 [38, 103, 116, 59] (repl 60 [38, 108, 116, 59] (repl 38 [38, 97, 109, 112, 59] l))
noncomputable def escAL (l : List Nat) : List Nat := repl 9 [38, 35, 48, 57, 59] (repl 10 [38, 35, 49, 48, 59] (repl 13 [38, 35, 49, 51, 59] (repl 34 [38, 113, 117, 111, 116, 59] (escCL l))))
noncomputable def escC (x : Str) : Str := mk (escCL x.cps.toList)
noncomputable def escA (x : Str) : Str := mk (escAL x.cps.toList)
theorem s_amp : Str.ofString "&" = mk [38] := by decide +kernel
theorem s_lt : Str.ofString "<" = mk [60] := by decide +kernel
theorem s_gt : Str.ofString ">" = mk [62] := by decide +kernel
theorem s_quot : Str.ofString "\"" = mk [34] := by decide +kernel
theorem s_cr : Str.ofString "\x0d" = mk [13] := by decide +kernel
theorem s_lf : Str.ofString "\n" = mk [10] := by decide +kernel
theorem s_tab : Str.ofString "\t" = mk [9] := by decide +kernel
theorem s_amp1 : Str.ofString "&amp;" = mk [38, 97, 109, 112, 59] := by decide +kernel
theorem s_lt1 : Str.ofString "&lt;" = mk [38, 108, 116, 59] := by decide +kernel
theorem s_gt1 : Str.ofString "&gt;" = mk [38, 103, 116, 59] := by decide +kernel
theorem s_quot1 : Str.ofString "&quot;" = mk [38, 113, 117, 111, 116, 59] := by decide +kernel
theorem s_cr1 : Str.ofString "&#13;" = mk [38, 35, 49, 51, 59] := by decide +kernel
theorem s_lf1 : Str.ofString "&#10;" = mk [38, 35, 49, 48, 59] := by decide +kernel
theorem s_tab1 : Str.ofString "&#09;" = mk [38, 35, 48, 57, 59] := by decide +kernel
theorem esc_end3 {x y1 y2 y3 : Str} (e1 : y1 = Txt.replace x (Str.ofString "&") (Str.ofString "&amp;")) (e2 : y2 = Txt.replace y1 (Str.ofString "<") (Str.ofString "&lt;")) (e3 : y3 = Txt.replace y2 (Str.ofString ">") (Str.ofString "&gt;")) : y3 = escC x := by
  subst e1 e2 e3
  rw [s_amp, s_amp1, s_lt, s_lt1, s_gt, s_gt1, replace_mk, replace_mk, replace_mk]
  rfl
theorem esc_end7 {x y3 y4 y5 y6 y7 : Str} (e3 : y3 = escC x) (e4 : y4 = Txt.replace y3 (Str.ofString "\"") (Str.ofString "&quot;")) (e5 : y5 = Txt.replace y4 (Str.ofString "\x0d") (Str.ofString "&#13;"))
    (e6 : y6 = Txt.replace y5 (Str.ofString "\n") (Str.ofString "&#10;")) (e7 : y7 = Txt.replace y6 (Str.ofString "\t") (Str.ofString "&#09;")) : y7 = escA x := by
  subst e3 e4 e5 e6 e7
  rw [s_quot, s_quot1, s_cr, s_cr1, s_lf, s_lf1, s_tab, s_tab1, replace_mk, replace_mk, replace_mk, replace_mk]
  rfl
theorem give_str {h₀ h' : Heap} {L : Addr} {m : Str → Option Value} {news : List (Addr × Obj)} {s : Shared} {Q : Value → Shared → Prop} {t : Tok} {tk' : Nat} {x y : Str}
    (hret : ∀ (t : Tok) (h' : Heap) (tk' : Nat), Fr h₀ L h' m → News h₀ L h' news → 1 ≤ tk' → Q (.str x t) { s with heap := h', toks := tk' }) (e : y = x) (F : Fr h₀ L h' m) (N : News h₀ L h' news) (h1 : 1 ≤ tk') : Q (.str y t) { s with heap := h', toks := tk' } := by
  subst e; exact hret t h' tk' F N h1

section
local macro_rules | `(tactic| walk_at "execs cons") => `(tactic| ((with_reducible show wpAny _ _ _ _ _ (Shared.mk _ _ _ (_ + _) _)); refine gen_toks (by first | exact Nat.le_add_left 1 _ | ((try dsimp only); omega)) ?_; intro tk' hk'))
local macro_rules | `(tactic| walk_at "execs nil") => `(tactic| ((with_reducible show wpAny _ _ _ _ _ (Shared.mk _ _ _ (_ + _) _)); refine gen_toks (by first | exact Nat.le_add_left 1 _ | ((try dsimp only); omega)) ?_; intro tk' hk'))
local macro_rules | `(tactic| walk_at "call builtin:str.replace") => `(tactic| (k_dflt (refine my_replace (by (try dsimp only); omega) (by refine neN ?_; (try dsimp only); omega) (by refine neN ?_; (try dsimp only); omega) (by refine neN ?_; (try dsimp only); omega) (by decide +kernel) (by omega) (by decide +kernel) ?_; intro _ _ _)))
local macro_rules | `(tactic| walk_at "exec If") => `(tactic| (
  (fail_if_success (with_reducible show wpAny _ _ _ (EscPost _ _ _ _ _ _ _ _) _ _));
  k_dflt (refine' esc_join (by assumption) (by assumption) ?k1 ?kv ?body ?kc ?kz ?_; (case k1 => ((try dsimp only); omega)); (case kv => exact rfl); (case body => (refine wpAny_If ?_; k_steps)); (case kc => exact ⟨_, (mk_toList _).symm⟩); (case kz => decide +kernel); k_whole; intro h' t' tk' y' hy' hl' F' N' hk')))
local macro_rules | `(tactic| walk_at "EscPost") => `(tactic| k_dflt (first
  | exact escPost_hit (by assumption) (by assumption) (by (try dsimp only); omega)
  | ((first | refine escPost_miss s_amp s_amp1 rfl ?_ ?_ ?_ ?_ | refine escPost_miss s_lt s_lt1 rfl ?_ ?_ ?_ ?_ | refine escPost_miss s_gt s_gt1 rfl ?_ ?_ ?_ ?_ | refine escPost_miss s_quot s_quot1 rfl ?_ ?_ ?_ ?_ | refine escPost_miss s_cr s_cr1 rfl ?_ ?_ ?_ ?_ | refine escPost_miss s_lf s_lf1 rfl ?_ ?_ ?_ ?_ | refine escPost_miss s_tab s_tab1 rfl ?_ ?_ ?_ ?_); assumption; assumption; (first | assumption | ((try dsimp only); omega)); assumption)))
theorem t_cdata (w : World) (mean : ExcName → Option Value) (mg mb : Str → Option Value) (x : Str) (t : Tok) (hx : x.length ≤ 60000) :
    Gives w mean mg mb 35 [.str x t] (fun t => .str (escC x) t) 1 8 := by
  unfold Gives GivesK
  k_fill
  intro dp un gd cn cs a ccd cl outer A₀ base h₀ L m news s Q E B F X N T hk h1 hd hu hret
  refine wpAny_call ?_
  k_dflt (refine' code_def ?k1 ?k2 ?k3 ?k4 ?k5 ?kA ?kF ?kK ?k6 ?k7 ?k8 ?k9 ?kB ?_ ?c2 ?c3 ?c4 ?c5; (case kA => exact rfl); (case kF => exact rfl); (case kK => assumption); (case k1 => k_asm); (case k2 => k_asm); (case k3 => k_asm); (case k4 => k_asm); (case k5 => k_asm); (case k6 => k_is); (case k7 => k_is); (case k8 => ktr_room); (case k9 => first | exact BindsTo.of_eq rfl | exact binds_K (by k_in) rfl (by k_is) rfl rfl rfl); (case c5 => decide); (case kB => exact locs rfl); (case c2 => exact rfl); (case c3 => exact rfl); (case c4 => exact rfl); k_whole; intro g' L' h' FG' F' N' B' X' T'; (try dsimp only); (try k_lift B'); (try k_fold))
  k_steps
  exact give_str hret (esc_end3 (by assumption) (by assumption) (by assumption)) (by assumption) (by assumption) (by assumption)
theorem t_attrib (w : World) (mean : ExcName → Option Value) (mg mb : Str → Option Value) (x : Str) (t : Tok) (hx : x.length ≤ 48) :
    Gives w mean mg mb 42 [.str x t] (fun t => .str (escA x) t) 1 8 := by
  unfold Gives GivesK
  k_fill
  intro dp un gd cn cs a ccd cl outer A₀ base h₀ L m news s Q E B F X N T hk h1 hd hu hret
  refine wpAny_call ?_
  k_dflt (refine' code_def ?k1 ?k2 ?k3 ?k4 ?k5 ?kA ?kF ?kK ?k6 ?k7 ?k8 ?k9 ?kB ?_ ?c2 ?c3 ?c4 ?c5; (case kA => exact rfl); (case kF => exact rfl); (case kK => assumption); (case k1 => k_asm); (case k2 => k_asm); (case k3 => k_asm); (case k4 => k_asm); (case k5 => k_asm); (case k6 => k_is); (case k7 => k_is); (case k8 => ktr_room); (case k9 => first | exact BindsTo.of_eq rfl | exact binds_K (by k_in) rfl (by k_is) rfl rfl rfl); (case c5 => decide); (case kB => exact locs rfl); (case c2 => exact rfl); (case c3 => exact rfl); (case c4 => exact rfl); k_whole; intro g' L' h' FG' F' N' B' X' T'; (try dsimp only); (try k_lift B'); (try k_fold))
  k_steps
  exact give_str hret (esc_end7 (esc_end3 (by assumption) (by assumption) (by assumption)) (by assumption) (by assumption) (by assumption) (by assumption)) (by assumption) (by assumption) (by assumption)
end
end
section
theorem find_mk (a b : List Nat) (c : Nat) (h : c ∉ a) : Txt.find (mk (a ++ c :: b)) (mk [c]) = (a.length : Int) := by
  have hat : ∀ i, StrLaws.At (mk (a ++ c :: b)) (mk [c]) (mk (a ++ c :: b)).length i ↔ (a ++ c :: b)[i]? = some c := fun i => StrLaws.subAt_one (mk (a ++ c :: b)) c i
  unfold Txt.find
  rcases StrLaws.occ_head (mk (a ++ c :: b)) (mk [c]) 1 (Nat.le_refl 1) with ⟨_, hn⟩ | ⟨i, r, e, h1, h2⟩
  · exact absurd ((hat a.length).mpr (by simp)) (hn a.length)
  · rw [e]
    have hi := (hat i).mp h1
    have : i = a.length := by
      rcases Nat.lt_trichotomy i a.length with hlt | heq | hgt
      · rw [List.getElem?_append_left hlt] at hi
        exact absurd (List.mem_of_getElem? hi) h
      · exact heq
      · exact absurd ((hat a.length).mpr (by simp)) (h2 _ hgt)
    rw [this]
theorem find_ne (a b : List Nat) (c : Nat) : (Builtin.Str.occurrences (mk (a ++ c :: b)) (mk [c]) 0 (mk (a ++ c :: b)).length 1).isEmpty = false := by
  have := StrLaws.found_one (mk (a ++ c :: b)) c
  have hm : c ∈ (mk (a ++ c :: b)).cps.toList := by rw [toList_mk]; simp
  rw [decide_eq_true hm] at this
  have e : (⟨#[c]⟩ : Str) = mk [c] := rfl
  rw [e] at this
  simpa using this
theorem slice_eq (x : Str) (l u : Option Int) : Txt.slice x l u = StrLaws.sliceText x l u := rfl
theorem slice_mid (a b c : List Nat) {i j : Int} (hi : i = (a.length : Int)) (hj : j = (a.length + b.length : Int)) : Txt.slice (mk (a ++ b ++ c)) (some i) (some j) = mk b := by
  rw [slice_eq, StrLaws.sliceText_plain ⟨by omega, by omega, by rw [toList_mk]; simp only [List.length_append]; omega⟩, toList_mk, hi, hj]
  have e1 : ((a.length : Int)).toNat = a.length := by omega
  have e2 : ((a.length : Int) + (b.length : Int) - (a.length : Int)).toNat = b.length := by omega
  rw [e1, e2, List.append_assoc, List.drop_left, List.take_left]
  rfl
theorem slice_to (a b : List Nat) {j : Int} (hj : j = (a.length : Int)) : Txt.slice (mk (a ++ b)) none (some j) = mk a := by
  rw [slice_eq, StrLaws.sliceText_to ⟨by omega, by rw [toList_mk]; simp only [List.length_append]; omega⟩, toList_mk, hj]
  have e2 : ((a.length : Int) - 0).toNat = a.length := by omega
  rw [e2, List.drop_zero, List.take_left]
  rfl
theorem slice_from (a b : List Nat) {i : Int} (hi : i = (a.length : Int)) : Txt.slice (mk (a ++ b)) (some i) none = mk b := by
  rw [slice_eq, StrLaws.sliceText_from ⟨by omega, by rw [toList_mk]; simp only [List.length_append]; omega⟩, toList_mk, hi]
  have e1 : ((a.length : Int)).toNat = a.length := by omega
  have e2 : ((((a ++ b).length : Nat) : Int) - (a.length : Int)).toNat = b.length := by rw [List.length_append]; omega
  rw [e1, e2, List.drop_left, List.take_length]
  rfl
section
variable {prog : Program} {w : World} {A : Around} {E : Value → Shared → Prop} {s : Shared} {h₀ : Heap} {L : Addr} {m : Str → Option Value} {news : List (Addr × Obj)}
theorem item_str1 {value slice : Expr} {a : Addr} {l : List (Str × Tok)} {k : Int} {u : Tok} {y : Str} {Q : Value → Shared → Prop} (hl : s.heap.IsList a (strValues l).toArray)
    (h0 : 0 ≤ k) (hk : k < l.length) (hfit : k < 2 ^ 63) (hy : (l.map (·.1))[k.toNat]? = some y) (h : ∀ t', Q (.str y t') s)
    (hs : subscripted slice false (.ref a) (.int k u) = operate [.ref a, .int k u] (getItem (.ref a) (.int k u)) := by with_unfolding_all rfl) (hg : ∀ r, letTemporaryGo value (.ref a) r = pure () := by intro _; with_unfolding_all rfl) :
    wpAny (model prog w) A (subscriptTail value slice (.ref a) (.int k u)) Q E s :=
  item_strs hl h0 hk hfit (fun y' t' e => by rw [hy] at e; cases e; exact h t') hs hg
theorem index_mk {a b : List Nat} {c : Nat} {y : Str} {t u : Tok} {Q : Value → Shared → Prop} (hA : A.handled = none) (hc : c ∉ a) (hy : y = mk [c]) (h : Q (.int a.length s.toks) { s with toks := s.toks + 1 }) :
    wpAny (model prog w) A (call (.builtin "str.index") [.str (mk (a ++ c :: b)) t, .str y u]) Q E s := by
  subst hy
  refine index_or hA (fun e _ => ?_) (fun _ _ => ?_)
  · rw [find_mk a b c hc] at e; omega
  · rw [find_mk a b c hc]; exact h
theorem slice_toN {value slice : Expr} {a b : List Nat} {j : Int} {t uj : Tok} {Q : Value → Shared → Prop} (hF : Fr h₀ L s.heap m) (hN : News h₀ L s.heap news) (hj : j = (a.length : Int)) (hsz : (a ++ b).length ≤ 16777216) (h : ∀ h' t' k, Fr h₀ L h' m → News h₀ L h' news → Q (.str (mk a) t') { s with heap := h', toks := k })
    (hs : subscripted slice false (.str (mk (a ++ b)) t) (.ref s.heap.objs.size) = operate [.ref s.heap.objs.size, .str (mk (a ++ b)) t] (getItem (.str (mk (a ++ b)) t) (.ref s.heap.objs.size)) := by with_unfolding_all rfl)
    (ht : ∀ r, letTemporaryGo value (.str (mk (a ++ b)) t) r = pure () := by intro _; with_unfolding_all rfl) :
    wpAny (model prog w) A (subscriptTail value slice (.str (mk (a ++ b)) t) (.ref s.heap.objs.size)) Q E { s with heap := s.heap.push { cls := .type "slice", data := .fields #[.none, .int j uj, .none] } } :=
  slice_strN_ns hF hN (fun h' t' k F' N' => by rw [slice_to a b hj]; exact h h' t' k F' N') hs ht (by rw [mk_length, sizeLine_eq]; omega)
theorem slice_fromN {value slice : Expr} {a b : List Nat} {i : Int} {t ui : Tok} {Q : Value → Shared → Prop} (hF : Fr h₀ L s.heap m) (hN : News h₀ L s.heap news) (hi : i = (a.length : Int)) (hsz : (a ++ b).length ≤ 16777216) (h : ∀ h' t' k, Fr h₀ L h' m → News h₀ L h' news → Q (.str (mk b) t') { s with heap := h', toks := k })
    (hs : subscripted slice false (.str (mk (a ++ b)) t) (.ref s.heap.objs.size) = operate [.ref s.heap.objs.size, .str (mk (a ++ b)) t] (getItem (.str (mk (a ++ b)) t) (.ref s.heap.objs.size)) := by with_unfolding_all rfl)
    (ht : ∀ r, letTemporaryGo value (.str (mk (a ++ b)) t) r = pure () := by intro _; with_unfolding_all rfl) :
    wpAny (model prog w) A (subscriptTail value slice (.str (mk (a ++ b)) t) (.ref s.heap.objs.size)) Q E { s with heap := s.heap.push { cls := .type "slice", data := .fields #[.int i ui, .none, .none] } } :=
  slice_strN_sn hF hN (fun h' t' k F' N' => by rw [slice_from a b hi]; exact h h' t' k F' N') hs ht (by rw [mk_length, sizeLine_eq]; omega)
theorem slice_fromN1 {value slice : Expr} {a b : List Nat} {c : Nat} {i : Int} {t ui : Tok} {Q : Value → Shared → Prop} (hF : Fr h₀ L s.heap m) (hN : News h₀ L s.heap news) (hi : i = (a.length + 1 : Int)) (hsz : (a ++ c :: b).length ≤ 16777216) (h : ∀ h' t' k, Fr h₀ L h' m → News h₀ L h' news → Q (.str (mk b) t') { s with heap := h', toks := k })
    (hs : subscripted slice false (.str (mk (a ++ c :: b)) t) (.ref s.heap.objs.size) = operate [.ref s.heap.objs.size, .str (mk (a ++ c :: b)) t] (getItem (.str (mk (a ++ c :: b)) t) (.ref s.heap.objs.size)) := by with_unfolding_all rfl)
    (ht : ∀ r, letTemporaryGo value (.str (mk (a ++ c :: b)) t) r = pure () := by intro _; with_unfolding_all rfl) :
    wpAny (model prog w) A (subscriptTail value slice (.str (mk (a ++ c :: b)) t) (.ref s.heap.objs.size)) Q E { s with heap := s.heap.push { cls := .type "slice", data := .fields #[.int i ui, .none, .none] } } := by
  have e : a ++ c :: b = (a ++ [c]) ++ b := by simp
  rw [e] at hs ht hsz ⊢
  exact slice_fromN hF hN (by rw [hi]; simp) hsz h hs ht
theorem iadd_mk {a b : List Nat} {t u : Tok} {Q : Value → Shared → Prop} (hsz : (a ++ b).length ≤ 16777216) (h : ∀ t' k, Q (.str (mk (a ++ b)) t') { s with toks := k }) :
    wpAny (model prog w) A (inplaceOp .Add (.str (mk a) t) (.str (mk b) u)) Q E s :=
  iadd_str (fun t' k => by rw [mk_append]; exact h t' k) (by rw [mk_length, mk_length, sizeLine_eq]; rw [List.length_append] at hsz; omega)
theorem add_mk {a b : List Nat} {t u : Tok} {Q : Value → Shared → Prop} (hsz : (a ++ b).length ≤ 16777216) (h : ∀ t' k, Q (.str (mk (a ++ b)) t') { s with toks := k }) :
    wpAny (model prog w) A (binaryOp .Add (.str (mk a) t) (.str (mk b) u)) Q E s :=
  add_str (fun t' k => by rw [mk_append]; exact h t' k) (by rw [mk_length, mk_length, sizeLine_eq]; rw [List.length_append] at hsz; omega)
end
end
section
noncomputable def Stop (P : Prop) : Prop := P
theorem stop_of {P : Prop} (h : Stop P) : P := h
noncomputable def TurnEnd {σ : Type} (h₀ : Heap) (L : Addr) (Led : σ → List (Addr × Obj)) (adr : List Addr) (own : List (Addr × Obj)) (ps : σ → List (Str × Value)) (x : Str) (stored : List Str) (m₀ : Str → Option Value) (Pn : σ → Prop) (s₁ : Shared) (f : Flow) (s₂ : Shared) : Prop :=
  (f = .next ∨ f = .cont) ∧ ∃ c h' tk m' news', s₂ = { s₁ with heap := h', toks := tk } ∧ Fr h₀ L h' m' ∧ News h₀ L h' news' ∧ (∀ p ∈ Led c, p ∈ news') ∧ (∀ p ∈ own, p ∈ news') ∧ (Led c).map (·.1) = adr ∧
    (∀ p ∈ ps c, m' p.1 = some p.2) ∧ (∀ z, z ≠ x → (∀ p ∈ ps c, z ≠ p.1) → stored.contains z = false → m' z = m₀ z) ∧ Pn c
theorem TurnEnd.intro {σ : Type} {h₀ : Heap} {L : Addr} {Led : σ → List (Addr × Obj)} {adr : List Addr} {own : List (Addr × Obj)} {ps : σ → List (Str × Value)} {x : Str} {stored : List Str} {m₀ : Str → Option Value} {Pn : σ → Prop} {s₁ : Shared} {h' : Heap} {tk : Nat} {m' : Str → Option Value} {news' : List (Addr × Obj)} {f : Flow} (c : σ)
    (F : Fr h₀ L h' m') (N : News h₀ L h' news') (hf : f = .next ∨ f = .cont) (h1 : ∀ p ∈ Led c, p ∈ news') (h2 : ∀ p ∈ own, p ∈ news') (h3 : (Led c).map (·.1) = adr) (h4 : ∀ p ∈ ps c, m' p.1 = some p.2)
    (h5 : ∀ z, z ≠ x → (∀ p ∈ ps c, z ≠ p.1) → stored.contains z = false → m' z = m₀ z) (hp : Pn c) : TurnEnd h₀ L Led adr own ps x stored m₀ Pn s₁ f { s₁ with heap := h', toks := tk } :=
  ⟨hf, c, h', tk, m', news', rfl, F, N, h1, h2, h3, h4, h5, hp⟩
theorem TurnEnd.intro2 {σ : Type} {h₀ : Heap} {L : Addr} {Led : σ → List (Addr × Obj)} {adr : List Addr} {own : List (Addr × Obj)} {ps : σ → List (Str × Value)} {x : Str} {stored : List Str} {m₀ : Str → Option Value} {Pn : σ → Prop} {s₁ : Shared} {h' : Heap} {tk : Nat} {m' : Str → Option Value} {news' : List (Addr × Obj)} {f : Flow}
    (F : Fr h₀ L h' m') (N : News h₀ L h' news') (hf : f = .next ∨ f = .cont) (h2 : ∀ p ∈ own, p ∈ news')
    (hc : ∃ c, (∀ p ∈ Led c, p ∈ news') ∧ (Led c).map (·.1) = adr ∧ (∀ p ∈ ps c, m' p.1 = some p.2) ∧ (∀ z, z ≠ x → (∀ p ∈ ps c, z ≠ p.1) → stored.contains z = false → m' z = m₀ z) ∧ Pn c) : TurnEnd h₀ L Led adr own ps x stored m₀ Pn s₁ f { s₁ with heap := h', toks := tk } :=
  let ⟨c, h1, h3, h4, h5, hp⟩ := hc
  ⟨hf, c, h', tk, m', news', rfl, F, N, h1, h2, h3, h4, h5, hp⟩
section
variable {prog : Program} {w : World} {A : Around} {E : Value → Shared → Prop} {s : Shared} {env : Env} {h₀ : Heap} {x : Str} {body : List Stmt} {Q : Flow → Shared → Prop}
theorem turn_post {σ : Type} {Led : σ → List (Addr × Obj)} {adr : List Addr} {own : List (Addr × Obj)} {ps : σ → List (Str × Value)} {stored : List Str} {m₀ : Str → Option Value} {P : List Int → σ → Prop} {pre : List Int} {L : Addr} {s₁ : Shared} {t : Sem Flow}
    (h : wpAny (model prog w) A t (TurnEnd h₀ L Led adr own ps x stored m₀ (P pre) s₁) E s₁) :
    wpAny (model prog w) A t (InvPostN h₀ L (KstS Led ps (fun _ => True) x stored m₀ P pre) own adr s₁ Q) E s₁ := by
  refine wpAny_mono h (fun f s₂ hT => ?_) fun _ _ e => e
  obtain ⟨hf, c, h', tk, m', news', rfl, F, N, h1, h2, h3, h4, h5, hp⟩ := hT
  have : InvEndN h₀ L (KstS Led ps (fun _ => True) x stored m₀ P pre) own adr s₁ { s₁ with heap := h', toks := tk } :=
    ⟨h', tk, m', news', Led c, rfl, F, N, h1, h2, h3, c, rfl, trivial, h4, h5, hp⟩
  rcases hf with rfl | rfl <;> exact this

theorem loop_range {σ : Type} {r : Addr} {a₀ b₀ : Int} {t₀ u₀ v₀ : Tok} {n : Nat} {m₀ : Str → Option Value} {led : List (Addr × Obj)} (ps : σ → List (Str × Value)) (stored : List Str) (P : List Int → σ → Prop) (c₀ : σ)
    (hh : A.handled = none) (hr : IsRange s.heap r a₀ b₀ 1 t₀ u₀ v₀) (hsmall : Builtin.Range.small a₀ b₀ 1 = true) (hn : Builtin.Range.rangeSize a₀ b₀ 1 = (n : Int)) (F : Fr h₀ env.locals s.heap m₀) (N : News h₀ env.locals s.heap led) (hk : ∀ p ∈ ps c₀, m₀ p.1 = some p.2) (hp : P [] c₀)
    (turn : ∀ (c : σ) (pre : List Int) (k : Int) t (u : Str → Option Value) h tk own, k = a₀ + (pre.length : Int) → pre.length < n → OwnOff own (led.map (·.1)) → P pre c →
      Fr h₀ env.locals h (fun y => if y = x then some (.int k t) else kstB (fun z => if stored.contains z then u z else m₀ z) (ps c) y) → News h₀ env.locals h (led ++ own) →
      wpAny (model prog w) A (execs body env) (TurnEnd h₀ env.locals (fun _ => led) (led.map (·.1)) own ps x stored m₀ (P (pre ++ [k])) { s with heap := h, toks := tk }) E { s with heap := h, toks := tk })
    (done : ∀ (c : σ) (u : Str → Option Value) h tk, P (rangeKs a₀ n) c → Fr h₀ env.locals h (fun y => if y = x then u y else kstB (fun z => if stored.contains z then u z else m₀ z) (ps c) y) → News h₀ env.locals h led → Q .next { s with heap := h, toks := tk }) :
    wpAny (model prog w) A (pyIter (.ref r)) (fun it s₂ => LoopAtV prog w A h₀ env x body Q E it s₂) E s :=
  kst_range (fun _ => led) ps (fun _ => True) stored P c₀ hh hr hsmall hn F N trivial hk hp
    (fun c pre k t u h tk own e hlt ho _ hp' F' N' => turn_post (turn c pre k t u h tk own e hlt ho hp' F' N'))
    (fun c u h tk _ hp' F' N' => done c u h tk hp' F' N')

theorem loop_bytes {σ : Type} {b : Array UInt8} {tb : Tok} {m₀ : Str → Option Value} (Led : σ → List (Addr × Obj)) (ps : σ → List (Str × Value)) (stored : List Str) (P : List Int → σ → Prop) (c₀ : σ)
    (hh : A.handled = none) (F : Fr h₀ env.locals s.heap m₀) (N : News h₀ env.locals s.heap (Led c₀)) (hk : ∀ p ∈ ps c₀, m₀ p.1 = some p.2) (hp : P [] c₀)
    (turn : ∀ (c : σ) (pre post : List Int) (n : Int) t (u : Str → Option Value) h tk own, KBw.bInts b = pre ++ n :: post → 0 ≤ n → n < 256 → OwnOff own ((Led c₀).map (·.1)) → P pre c →
      Fr h₀ env.locals h (fun y => if y = x then some (.int n t) else kstB (fun z => if stored.contains z then u z else m₀ z) (ps c) y) → News h₀ env.locals h (Led c ++ own) →
      wpAny (model prog w) A (execs body env) (TurnEnd h₀ env.locals Led ((Led c₀).map (·.1)) own ps x stored m₀ (P (pre ++ [n])) { s with heap := h, toks := tk }) E { s with heap := h, toks := tk })
    (done : ∀ (c : σ) (u : Str → Option Value) h tk, P (KBw.bInts b) c → Fr h₀ env.locals h (fun y => if y = x then u y else kstB (fun z => if stored.contains z then u z else m₀ z) (ps c) y) → News h₀ env.locals h (Led c) → Q .next { s with heap := h, toks := tk }) :
    wpAny (model prog w) A (pyIter (.bytes b tb)) (fun it s₂ => LoopAtV prog w A h₀ env x body Q E it s₂) E s :=
  KStb.kst_bytes Led ps (fun _ => True) stored P c₀ rfl rfl hh F N trivial hk hp
    (fun c pre post n t u h tk own e _ h0 h256 ho _ hp' F' N' => turn_post (turn c pre post n t u h tk own e h0 h256 ho hp' F' N'))
    (fun c u h tk _ _ hp' F' N' => done c u h tk hp' F' N')
end
end
local macro_rules | `(tactic| walk_at "my toks") => `(tactic| ((with_reducible show wpAny _ _ _ _ _ (Shared.mk _ _ _ (_ + _) _)); refine gen_toks (by first | exact Nat.le_add_left 1 _ | ((try dsimp only); omega)) ?_; intro tk' hk'))
local macro_rules | `(tactic| walk_at "execs cons") => `(tactic| walk_at "my toks")
local macro_rules | `(tactic| walk_at "execs nil") => `(tactic| walk_at "my toks")
section
noncomputable def MARKS : List (List Nat × List Nat) := [([97, 109, 112], [38]), ([108, 116], [60]), ([103, 116], [62]), ([113, 117, 111, 116], [34]), ([35, 49, 51], [13]), ([35, 49, 48], [10]), ([35, 48, 57], [9])]
noncomputable def encE (es : List ((List Nat × List Nat) × List Nat)) : List Nat := es.flatMap fun e => 38 :: (e.1.1 ++ 59 :: e.2)
noncomputable def decE (es : List ((List Nat × List Nat) × List Nat)) : List Nat := es.flatMap fun e => e.1.2 ++ e.2
noncomputable def GoodE (es : List ((List Nat × List Nat) × List Nat)) : Prop := ∀ e ∈ es, e.1 ∈ MARKS ∧ 38 ∉ e.2
theorem marks_free : ∀ e ∈ MARKS, 38 ∉ e.1 ∧ 59 ∉ e.1 ∧ e.2.length = 1 := by decide
theorem cut_enc : ∀ (p0 : List Nat) (es : List ((List Nat × List Nat) × List Nat)), 38 ∉ p0 → GoodE es → cutL 38 (p0 ++ encE es) = p0 :: es.map fun e => e.1.1 ++ 59 :: e.2
  | p0, [], h, _ => by simpa [encE] using cutL_free 38 p0 h
  | p0, e :: es, h, hg => by
    have hd := hg e (List.mem_cons_self ..)
    have hm := marks_free e.1 hd.1
    have ih := cut_enc (e.1.1 ++ 59 :: e.2) es (by
      simp only [List.mem_append, List.mem_cons, not_or]
      exact ⟨hm.1, by decide, hd.2⟩) fun q hq => hg q (List.mem_cons_of_mem _ hq)
    have e1 : p0 ++ encE (e :: es) = p0 ++ 38 :: ((e.1.1 ++ 59 :: e.2) ++ encE es) := by simp [encE]
    rw [e1, cutL_app 38 p0 _ h, ih]; rfl
theorem enc_len (p0 : List Nat) : ∀ es : List ((List Nat × List Nat) × List Nat), es.length ≤ (p0 ++ encE es).length
  | [] => by simp
  | e :: es => by
    have := enc_len p0 es
    simp only [encE, List.flatMap_cons, List.length_append, List.length_cons] at this ⊢
    omega
theorem dec_len : ∀ es : List ((List Nat × List Nat) × List Nat), GoodE es → (decE es).length ≤ (encE es).length
  | [], _ => by simp [decE]
  | e :: es, h => by
    have := dec_len es fun q hq => h q (List.mem_cons_of_mem _ hq)
    have := (marks_free _ (h e (List.mem_cons_self ..)).1).2.2
    simp only [decE, encE, List.flatMap_cons, List.length_append, List.length_cons] at *
    omega
noncomputable def toldAt (p0 : List Nat) (es : List ((List Nat × List Nat) × List Nat)) : Nat → List Nat
  | 0 => []
  | k + 1 => p0 ++ decE (es.take k)
theorem told_next (p0 : List Nat) (es : List ((List Nat × List Nat) × List Nat)) (n : Nat) (h : n < es.length) : toldAt p0 es (n + 2) = toldAt p0 es (n + 1) ++ es[n].1.2 ++ es[n].2 := by
  show p0 ++ decE (es.take (n + 1)) = p0 ++ decE (es.take n) ++ es[n].1.2 ++ es[n].2
  rw [List.take_add_one, List.getElem?_eq_getElem h]
  simp only [decE, List.flatMap_append, Option.toList_some, List.flatMap_cons, List.flatMap_nil, List.append_nil, List.append_assoc]
theorem encE_append (a b : List ((List Nat × List Nat) × List Nat)) : encE (a ++ b) = encE a ++ encE b := by simp [encE]
theorem part_len (p0 : List Nat) (es : List ((List Nat × List Nat) × List Nat)) (n : Nat) (h : n < es.length) : (es[n].1.1 ++ 59 :: es[n].2).length ≤ (p0 ++ encE es).length := by
  have e : es = es.take n ++ es[n] :: es.drop (n + 1) := by
    conv => lhs; rw [← List.take_append_drop n es]
    rw [List.drop_eq_getElem_cons h]
  have e2 : encE es = encE (es.take n) ++ (38 :: (es[n].1.1 ++ 59 :: es[n].2)) ++ encE (es.drop (n + 1)) := by
    conv => lhs; rw [e]
    rw [encE_append]
    simp only [encE, List.flatMap_cons, List.append_assoc, List.cons_append]
  rw [e2]
  simp only [List.length_append, List.length_cons]
  omega
theorem told_len (p0 : List Nat) (es : List ((List Nat × List Nat) × List Nat)) (n : Nat) (hg : GoodE es) : (toldAt p0 es n).length ≤ (p0 ++ encE es).length := by
  cases n with
  | zero => simp [toldAt]
  | succ k =>
    have h1 := dec_len (es.take k) fun q hq => hg q (List.mem_of_mem_take hq)
    have h2 : encE es = encE (es.take k) ++ encE (es.drop k) := by
      rw [← encE_append, List.take_append_drop]
    show (p0 ++ decE (es.take k)).length ≤ _
    rw [h2]
    simp only [List.length_append]
    omega
theorem marks_item {w : World} : ∀ {A : Around} {E : Value → Shared → Prop} {s : Shared} {h₀ : Heap} {L : Addr} {m : Str → Option Value} {e1 e2 : List Nat} {value slice : Expr} {t : Tok} {Q : Value → Shared → Prop} (_ : (e1, e2) ∈ MARKS) (_ : Fr h₀ L s.heap m) (_ : (hd.heap_39 w.params).In h₀) (_ : ∀ t', Q (.str (mk e2) t') { s with toks := s.toks + 1 })
    (_ : ∀ x, subscripted slice false (.ref 186) (.str x t) = operate [.ref 186, .str x t] (getItem (.ref 186) (.str x t))),
    wpAny (model PySem.Challenge.rw_il0041_01.row.prog w) A (subscriptTail value slice (.ref 186) (.str (mk e1) t)) Q E s := by
  k_fill
  intro A E s h₀ L m e1 e2 value slice t Q he F X h hs
  simp only [MARKS, List.mem_cons, List.not_mem_nil, or_false, Prod.mk.injEq] at he
  rcases he with ⟨rfl, rfl⟩ | ⟨rfl, rfl⟩ | ⟨rfl, rfl⟩ | ⟨rfl, rfl⟩ | ⟨rfl, rfl⟩ | ⟨rfl, rfl⟩ | ⟨rfl, rfl⟩ <;>
    k_dflt (refine' topItem_K F X ?l ?k ?e ?_ ?z; (case l => k_is); (case k => k_keys); (case e => k_is); (case z => exact hs _); exact h _)
section
local macro_rules | `(tactic| walk_at "execs cons") => `(tactic| k_fold)

local macro_rules | `(tactic| walk_at "subscriptTail Name Name ref int") => `(tactic| (k_dflt (refine item_str1 (News.isList (by assumption) (by exact .head _)) (by omega) (by omega) (by omega) (by assumption) ?_; intro _)))
local macro_rules | `(tactic| walk_at "call builtin:str.index") => `(tactic| (k_dflt (refine index_mk rfl (by assumption) (by decide +kernel) ?_)))
local macro_rules | `(tactic| walk_at "subscriptTail Name Slice str ref") => `(tactic| (k_dflt ((with_reducible show wpAny _ _ (subscriptTail _ (Expr.Slice none (some _) none _) _ _) _ _ _); refine slice_toN (by assumption) (by assumption) rfl (by assumption) ?_; intro h' t' k' F' N')))
local macro_rules | `(tactic| walk_at "subscriptTail Name Slice str ref") => `(tactic| (k_dflt ((with_reducible show wpAny _ _ (subscriptTail _ (Expr.Slice (some _) none none _) _ _) _ _ _); refine slice_fromN1 (by assumption) (by assumption) rfl (by assumption) ?_; intro h' t' k' F' N')))
local macro_rules | `(tactic| walk_at "subscriptTail Name Subscript ref str") => `(tactic| (k_dflt (refine marks_item (by assumption) (by assumption) (by assumption) ?_ (by intro _; with_unfolding_all rfl); intro t')))
local macro_rules | `(tactic| walk_at "inplaceOp Add str str") => `(tactic| (k_dflt (refine iadd_mk (by simp only [List.length_append, List.length_cons, List.length_nil] at *; omega) ?_; intro _ _)))
theorem t_read (w : World) (mean : ExcName → Option Value) (mg mb : Str → Option Value) (p0 : List Nat) (es : List ((List Nat × List Nat) × List Nat)) (x : Str) (t : Tok) (h0 : 38 ∉ p0) (hg : GoodE es) (hxe : x = mk (p0 ++ encE es)) (hx : x.length ≤ 60000) :
    Gives w mean mg mb 193 [.str x t] (fun t => .str (mk (p0 ++ decE es)) t) 1 8 := by
  (try unfold Gives)
  unfold GivesK
  k_fill
  intro dp un gd cn cs a ccd cl outer A₀ base h₀ L m news s Q E B F X N T hk h1 hd hu hret
  refine wpAny_with_toks (n := 1) h1 ?_
  refine wpAny_call ?_

  k_dflt (refine' code_def (binds := [(Str.ofString "text", .str x t)]) ?k1 ?k2 ?k3 ?k4 ?k5 ?kA ?kF ?kK ?k6 ?k7 ?k8 ?k9 ?kB ?_ ?c2 ?c3 ?c4 ?c5; (case kA => exact rfl); (case kF => exact rfl); (case kK => assumption); (case k1 => k_asm); (case k2 => k_asm); (case k3 => k_asm); (case k4 => k_asm); (case k5 => k_asm); (case k6 => k_is); (case k7 => k_is); (case k8 => ktr_room); (case k9 => first | exact BindsTo.of_eq rfl | exact binds_K (by k_in) rfl (by k_is) rfl rfl rfl); (case c5 => decide); (case kB => exact locs rfl); (case c2 => exact rfl); (case c3 => exact rfl); (case c4 => exact rfl); k_whole)
  intro g' L' hh FG F' N' B' X' T'
  (try dsimp only)
  (try k_lift B')
  (try k_fold)
  k_steps
  with_reducible rename IsRange _ _ _ _ _ _ _ _ => hr
  with_reducible rename StrsAre _ _ => hS
  with_reducible rename (List.map _ _ = Txt.split _ _) => hsp
  with_reducible rename Fr _ _ _ _ => hF
  with_reducible rename News _ _ _ _ => hN
  with_reducible rename List (Str × Tok) => l
  rw [s_amp, split_mk, hxe, toList_mk, cut_enc p0 es h0 hg] at hsp
  have hlen := congrArg List.length hsp
  simp only [List.length_map, List.length_cons] at hlen
  have hxl : (p0 ++ encE es).length ≤ 60000 := by rw [hxe, mk_length] at hx; exact hx
  have hle := enc_len p0 es
  refine' loop_range (σ := List Nat × Tok) (fun c => [(Str.ofString "told", .str (mk c.1) c.2)]) [Str.ofString "part", Str.ofString "end"] (fun pre c => c.1 = toldAt p0 es pre.length) ([], _) rfl hr (small_one (by omega) (by omega) (by omega) (by omega)) (rangeSize_nat _ _) hF hN ?hk rfl ?turn ?done
  case hk => kst_all
  case done =>
    intro c u h tk hP F9 N9
    obtain ⟨c1, c2⟩ := c
    have hn : (rangeKs 0 (((l.length : Nat) : Int) - 0).toNat).length = es.length + 1 := by rw [rangeKs_length]; omega
    rw [hn] at hP
    dsimp only at hP
    subst hP
    (try dsimp only [kstB] at F9)
    k_steps
    refine give_str hret ?_ (by assumption) (cb_drop (by assumption) fun p hp => List.mem_cons_of_mem _ hp) (by assumption)
    show mk (p0 ++ decE (es.take es.length)) = _
    rw [List.take_length]
  case turn =>
    intro c pre k t u h tk own hke hlt ho hP F9 N9
    obtain ⟨c1, c2⟩ := c
    dsimp only at hP
    subst hP
    (try dsimp only [kstB] at F9)
    (try k_fold)
    have hkn : k.toNat = pre.length := by omega
    cases pre with
    | nil =>
      have hk0 : k = 0 := by simpa using hke
      subst hk0
      have hpl : p0.length ≤ 60000 := by simp only [List.length_append] at hxl; omega
      change Fr _ _ _ (fun y => if y = Str.ofString "place" then _ else if y = Str.ofString "told" then some (Value.str (mk []) c2) else _) at F9
      have hy : (l.map (·.1))[(0 : Int).toNat]? = some (mk p0) := by rw [hsp]; rfl
      k_steps
      refine' TurnEnd.intro (σ := List Nat × Tok) (_, _) (by assumption) (by assumption) (.inl rfl) ?za1 ?zb1 ?zc1 ?zd1 ?ze1 ?zf1
      case zd1 => kst_all
      case za1 => exact fun p hp => List.mem_append_left _ hp
      case zb1 => exact fun p hp => List.mem_append_right _ hp
      case zc1 => rfl
      case ze1 => kst_same
      case zf1 => simp [toldAt, decE]
    | cons k0 pre =>
      have hlp : pre.length < es.length := by simp only [List.length_cons] at hlt; omega
      have hy : (l.map (·.1))[k.toNat]? = some (mk (es[pre.length].1.1 ++ 59 :: es[pre.length].2)) := by rw [hsp, hkn]; simp [hlp]
      have hge := hg _ (List.getElem_mem hlp)
      have htl := told_len p0 es (pre.length + 1) hg
      have htk : toldAt p0 es (pre.length + 2) = toldAt p0 es (pre.length + 1) ++ es[pre.length].1.2 ++ es[pre.length].2 := told_next p0 es pre.length hlp
      have hpl := part_len p0 es pre.length hlp
      have hke1 : k = ((pre.length + 1 : Nat) : Int) := by simpa using hke
      simp only [List.length_cons] at F9 N9 ⊢
      have hst : (toldAt p0 es (pre.length + 2)).length ≤ 60000 := Nat.le_trans (told_len p0 es _ hg) hxl
      generalize es[pre.length] = e at hy hge htk hpl
      generalize hgt : toldAt p0 es (pre.length + 1) = tl at *
      obtain ⟨⟨ea, es1⟩, eb⟩ := e
      dsimp only at hy hge htk hpl
      have hfr := (marks_free _ hge.1).2.1
      have hm := hge.1
      dsimp only at hfr
      have hsz : (ea ++ 59 :: eb).length ≤ 16777216 := by omega
      rw [htk] at hst
      k_steps
      refine' TurnEnd.intro (σ := List Nat × Tok) (_, _) (by assumption) (by assumption) (.inl rfl) ?za2 ?zb2 ?zc2 ?zd2 ?ze2 ?zf2
      case zd2 => kst_all
      case za2 => exact fun p hp => List.mem_append_left _ hp
      case zb2 => exact fun p hp => List.mem_append_right _ hp
      case zc2 => rfl
      case ze2 => kst_same
      case zf2 => 
        show tl ++ es1 ++ eb = toldAt p0 es (k0 :: pre ++ [k]).length
        simp only [List.length_append, List.length_cons, List.length_nil]
        exact htk.symm
end
end
local macro_rules | `(tactic| walk_at "my stop") => `(tactic| (with_reducible refine stop_of ?_))
local macro_rules | `(tactic| walk_at "pyIter") => `(tactic| walk_at "my stop")
local macro_rules | `(tactic| walk_at "pyIter bytes") => `(tactic| walk_at "my stop")
local macro_rules | `(tactic| walk_at "pyIter ref") => `(tactic| walk_at "my stop")
local macro_rules | `(tactic| walk_at "pyIter str") => `(tactic| walk_at "my stop")
local macro_rules | `(tactic| walk_at "my ite") => `(tactic| k_dflt (first | refine ite_pos (by (try simp only [decide_eq_true_eq, beq_iff_eq, bne_iff_ne, ne_eq, Bool.and_eq_true, Bool.or_eq_true]); omega) ?_ | refine ite_neg (by (try simp only [decide_eq_true_eq, beq_iff_eq, bne_iff_ne, ne_eq, Bool.and_eq_true, Bool.or_eq_true]); omega) ?_))
section
section
variable {w : World} {mean : ExcName → Option Value} {mg mb : Str → Option Value} {f : Addr} {vs : List Value} {R : Tok → Value} {deep cu : Nat} {dp un : Nat} {gd : Option (List Code)} {cn : Str} {cs : Scope} {a : Addr} {ccd : Value} {cl : List (Str × Addr)} {outer : List Env} {A₀ : Around} {base h₀ : Heap} {L : Addr} {m : Str → Option Value} {news : List (Addr × Obj)} {s : Shared} {Q E : Value → Shared → Prop}
theorem givesK_use {kw : List (Str × Value)} (C : GivesK w mean mg mb f vs kw R deep cu) (B : Below A₀ base outer h₀) (F : Fr h₀ L s.heap m) (X : (hd.heap_39 w.params).In h₀) (N : News h₀ L s.heap news) (T : Top hd.view_39 LS mean mg mb h₀) (hk : cs.kind = .function) (h1 : 1 ≤ s.toks)
    (hd : dp + deep < recursionLimit) (hu : un + cu < cLine) (hret : ∀ (t : Tok) (h' : Heap) (tk' : Nat), Fr h₀ L h' m → News h₀ L h' news → 1 ≤ tk' → Q (R t) { s with heap := h', toks := tk' }) :
    wpAny (model PySem.Challenge.rw_il0041_01.row.prog w) (ktrTop dp un gd cn cs L a ccd cl outer) (call (.ref f) vs kw) Q E s := C _ _ _ _ _ _ _ _ _ _ _ _ _ _ _ _ _ _ B F X N T hk h1 hd hu hret
end
theorem give_val {h₀ h' : Heap} {L : Addr} {m : Str → Option Value} {news : List (Addr × Obj)} {s : Shared} {Q : Value → Shared → Prop} {R : Tok → Value} (t : Tok) {tk' : Nat} {v : Value}
    (hret : ∀ (t : Tok) (h' : Heap) (tk' : Nat), Fr h₀ L h' m → News h₀ L h' news → 1 ≤ tk' → Q (R t) { s with heap := h', toks := tk' }) (e : v = R t) (F : Fr h₀ L h' m) (N : News h₀ L h' news) (h1 : 1 ≤ tk') : Q v { s with heap := h', toks := tk' } := by
  subst e; exact hret t h' tk' F N h1
section

local macro_rules | `(tactic| walk_at "call type:type") => `(tactic| (k_dflt (refine call_type_of (typeIs_bytes _ _ _) (by decide) ?_)))
local macro_rules | `(tactic| walk_at "call type:type") => `(tactic| (k_dflt (refine call_type_of (typeIs_str _ _ _) (by decide) ?_)))
theorem t_buffer (w : World) (mean : ExcName → Option Value) (mg mb : Str → Option Value) (x : Array UInt8) (t : Tok) :
    Gives w mean mg mb 77 [.bytes x t] (fun _ => .bytes x t) 1 8 := by
  (try unfold Gives)
  unfold GivesK
  k_fill
  intro dp un gd cn cs a ccd cl outer A₀ base h₀ L m news s Q E B F X N T hk h1 hd hu hret
  refine wpAny_with_toks (n := 1) h1 ?_
  refine wpAny_call ?_

  k_dflt (refine' code_def (binds := [(Str.ofString "data", .bytes x t)]) ?k1 ?k2 ?k3 ?k4 ?k5 ?kA ?kF ?kK ?k6 ?k7 ?k8 ?k9 ?kB ?_ ?c2 ?c3 ?c4 ?c5; (case kA => exact rfl); (case kF => exact rfl); (case kK => assumption); (case k1 => k_asm); (case k2 => k_asm); (case k3 => k_asm); (case k4 => k_asm); (case k5 => k_asm); (case k6 => k_is); (case k7 => k_is); (case k8 => ktr_room); (case k9 => first | exact BindsTo.of_eq rfl | exact binds_K (by k_in) rfl (by k_is) rfl rfl rfl); (case c5 => decide); (case kB => exact locs rfl); (case c2 => exact rfl); (case c3 => exact rfl); (case c4 => exact rfl); k_whole)
  intro g' L' hh FG F' N' B' X' T'
  (try dsimp only)
  (try k_lift B')
  (try k_fold)
  k_steps
  exact give_val t hret rfl (by assumption) (by assumption) (by assumption)
theorem t_truth (w : World) (mean : ExcName → Option Value) (mg mb : Str → Option Value) (x : Bool) :
    Gives w mean mg mb 84 [.bool x] (fun _ => .bool x) 1 8 := by
  (try unfold Gives)
  unfold GivesK
  k_fill
  intro dp un gd cn cs a ccd cl outer A₀ base h₀ L m news s Q E B F X N T hk h1 hd hu hret
  refine wpAny_with_toks (n := 1) h1 ?_
  refine wpAny_call ?_

  k_dflt (refine' code_def (binds := [(Str.ofString "x", .bool x)]) ?k1 ?k2 ?k3 ?k4 ?k5 ?kA ?kF ?kK ?k6 ?k7 ?k8 ?k9 ?kB ?_ ?c2 ?c3 ?c4 ?c5; (case kA => exact rfl); (case kF => exact rfl); (case kK => assumption); (case k1 => k_asm); (case k2 => k_asm); (case k3 => k_asm); (case k4 => k_asm); (case k5 => k_asm); (case k6 => k_is); (case k7 => k_is); (case k8 => ktr_room); (case k9 => first | exact BindsTo.of_eq rfl | exact binds_K (by k_in) rfl (by k_is) rfl rfl rfl); (case c5 => decide); (case kB => exact locs rfl); (case c2 => exact rfl); (case c3 => exact rfl); (case c4 => exact rfl); k_whole)
  intro g' L' hh FG F' N' B' X' T'
  (try dsimp only)
  (try k_lift B')
  (try k_fold)
  k_steps
  all_goals (refine give_val 0 hret ?_ (by assumption) (by assumption) (by assumption); simp_all)
theorem t_ascii (w : World) (mean : ExcName → Option Value) (mg mb : Str → Option Value) (x : Array UInt8) (t : Tok) :
    Gives w mean mg mb 70 [.bytes x t] (fun _ => .bytes x t) 1 8 := by
  (try unfold Gives)
  unfold GivesK
  k_fill
  intro dp un gd cn cs a ccd cl outer A₀ base h₀ L m news s Q E B F X N T hk h1 hd hu hret
  refine wpAny_with_toks (n := 1) h1 ?_
  refine wpAny_call ?_

  k_dflt (refine' code_def (binds := [(Str.ofString "data", .bytes x t)]) ?k1 ?k2 ?k3 ?k4 ?k5 ?kA ?kF ?kK ?k6 ?k7 ?k8 ?k9 ?kB ?_ ?c2 ?c3 ?c4 ?c5; (case kA => exact rfl); (case kF => exact rfl); (case kK => assumption); (case k1 => k_asm); (case k2 => k_asm); (case k3 => k_asm); (case k4 => k_asm); (case k5 => k_asm); (case k6 => k_is); (case k7 => k_is); (case k8 => ktr_room); (case k9 => first | exact BindsTo.of_eq rfl | exact binds_K (by k_in) rfl (by k_is) rfl rfl rfl); (case c5 => decide); (case kB => exact locs rfl); (case c2 => exact rfl); (case c3 => exact rfl); (case c4 => exact rfl); k_whole)
  intro g' L' hh FG F' N' B' X' T'
  (try dsimp only)
  (try k_lift B')
  (try k_fold)
  k_steps
  exact give_val t hret rfl (by assumption) (by assumption) (by assumption)
end
end
local macro_rules | `(tactic| walk_at "call ref") => `(tactic| (k_dflt (refine' givesK_use ?kC ?k1 ?k2 ?k3 ?k4 ?k5 ?kK ?kt ?kd ?ku ?_; (case k1 => k_asm); (case k2 => k_asm); (case k3 => k_asm); (case k4 => k_asm); (case k5 => k_asm); (case kC => walk_at "my def"); (case kK => first | exact rfl | assumption); (case kt => first | assumption | exact Nat.le_add_left 1 _ | ((try dsimp only); omega)); (case kd => ktr_room); (case ku => ktr_units); intro t9 h9 tk9 F9 N9 hk9; (try dsimp only))))
section
noncomputable def B64L : List Nat := [65, 66, 67, 68, 69, 70, 71, 72, 73, 74, 75, 76, 77, 78, 79, 80, 81, 82, 83, 84, 85, 86, 87, 88, 89, 90, 97, 98, 99,
    100, 101, 102, 103, 104, 105, 106, 107, 108, 109, 110, 111, 112, 113, 114, 115, 116, 117, 118, 119, 120, 121, 122,
    48, 49, 50, 51, 52, 53, 54, 55, 56, 57, 43, 47]
noncomputable def b64c (i : Nat) : Nat := B64L.getD i 0
noncomputable def iN (l : List Nat) : List Int := l.map fun n : Nat => (n : Int)
theorem iN_append (a b : List Nat) : iN (a ++ b) = iN a ++ iN b := by simp [iN]
theorem iN_length (a : List Nat) : (iN a).length = a.length := by simp [iN]
section
variable {prog : Program} {w : World} {A : Around} {E : Value → Shared → Prop} {s : Shared} {a b n : Nat} {j : Int} {t u : Tok} {Q : Value → Shared → Prop}
theorem r_shl (k p : Nat) (hp : 2 ^ k = p) (hj : j = (k : Int)) (hk : k ≤ 1000) (ha : a < 65536) (h : Q (.int ((a * p : Nat) : Int) s.toks) { s with toks := s.toks + 1 }) : wpAny (model prog w) A (binaryOp .LShift (.int (a : Int) t) (.int j u)) Q E s := by
  subst hp hj
  refine lshift_int_small (by omega) (by omega) (by omega) ?_
  have e : (a : Int) * 2 ^ ((k : Nat) : Int).toNat = ((a * 2 ^ k : Nat) : Int) := by simp
  rw [e]; exact h
theorem r_shr (k p : Nat) (hp : 2 ^ k = p) (hj : j = (k : Int)) (h : Q (.int ((a / p : Nat) : Int) s.toks) { s with toks := s.toks + 1 }) : wpAny (model prog w) A (binaryOp .RShift (.int (a : Int) t) (.int j u)) Q E s := by
  subst hp hj
  refine rshift_int (by omega) ?_
  have e : (a : Int).fdiv (2 ^ ((k : Nat) : Int).toNat) = ((a / 2 ^ k : Nat) : Int) := by
    rw [Int.fdiv_eq_ediv_of_nonneg _ (by exact Int.pow_nonneg (by decide))]; simp
  rw [e]; exact h
theorem nat_shl_and (a k b : Nat) (hb : b < 2 ^ k) : (a * 2 ^ k) &&& b = 0 := by
  apply Nat.eq_of_testBit_eq
  intro i
  rw [Nat.testBit_and, Nat.zero_testBit, ← Nat.shiftLeft_eq, Nat.testBit_shiftLeft]
  by_cases hi : k ≤ i
  · have : b < 2 ^ i := Nat.lt_of_lt_of_le hb (Nat.pow_le_pow_right (by decide) hi)
    rw [Nat.testBit_lt_two_pow this, Bool.and_false]
  · simp [hi]
theorem r_or (k p : Nat) (hp : 2 ^ k = p) (hb : b < p) (h : Q (.int ((a * p + b : Nat) : Int) s.toks) { s with toks := s.toks + 1 }) : wpAny (model prog w) A (binaryOp .BitOr (.int ((a * p : Nat) : Int) t) (.int (b : Int) u)) Q E s := by
  subst hp
  refine or_int ?_
  have e : Builtin.bitOr ((a * 2 ^ k : Nat) : Int) (b : Int) = ((a * 2 ^ k + b : Nat) : Int) := by
    rw [bitOr_and, bitAnd_pp (by omega) (by omega)]
    have : ((a * 2 ^ k : Nat) : Int).toNat &&& (b : Int).toNat = 0 := by
      rw [Int.toNat_natCast, Int.toNat_natCast]; exact nat_shl_and a k b hb
    rw [this]; omega
  rw [e]; exact h
theorem r_and (k p : Nat) (hp : 2 ^ k = p) (hj : j = ((p - 1 : Nat) : Int)) (h : Q (.int ((a % p : Nat) : Int) s.toks) { s with toks := s.toks + 1 }) : wpAny (model prog w) A (binaryOp .BitAnd (.int (a : Int) t) (.int j u)) Q E s := by
  subst hp hj
  refine and_int ?_
  have e : Builtin.bitAnd (a : Int) ((2 ^ k - 1 : Nat) : Int) = ((a % 2 ^ k : Nat) : Int) := by
    rw [bitAnd_pp (by omega) (by omega), Int.toNat_natCast, Int.toNat_natCast, Nat.and_two_pow_sub_one_eq_mod]
  rw [e]; exact h
theorem b64_get {arr : Array UInt8} (harr : arr = (B64L.map Nat.toUInt8).toArray) (hn : n < 64) (h : Q (.int (b64c n : Int) s.toks) { s with toks := s.toks + 1 }) : wpAny (model prog w) A (getItem (.bytes arr t) (.int (n : Int) u)) Q E s := by
  subst harr
  refine getItem_bytes (by decide) (by omega) (by show (n : Int) < 64; omega) ?_
  have e : ((B64L.map Nat.toUInt8).getD (n : Int).toNat 0).toNat = b64c n := by
    rw [Int.toNat_natCast]
    have : ∀ n, n < 64 → ((B64L.map Nat.toUInt8).getD n 0).toNat = b64c n := by decide
    exact this n hn
  rw [e]; exact h
end
section
variable {prog : Program} {w : World} {A : Around} {E : Value → Shared → Prop} {s : Shared} {h₀ : Heap} {L D : Addr} {m : Str → Option Value} {rest : List (Addr × Obj)} {Q : Value → Shared → Prop}
theorem append_hd {vs : List Value} {n : Nat} {x : Value} (F : Fr h₀ L s.heap m) (N : News h₀ L s.heap ((D, listOf vs.toArray n) :: rest)) (hoff : ∀ p ∈ rest, p.1 ≠ D) (hsz : vs.length ≤ 100000)
    (h : ∀ h', Fr h₀ L h' m → News h₀ L h' ((D, listOf (vs ++ [x]).toArray (n + 1)) :: rest) → Q .none { s with heap := h' }) : wpAny (model prog w) A (call (.builtin "list.append") [.ref D, x]) Q E s := by
  refine append_K F N (Upd.head hoff) (fun h' F' N' => ?_) (by rw [sizeLine_eq]; simp; omega)
  rw [List.push_toArray] at N'
  exact h h' F' N'
end
end
section
open PySem.AutoSeq1 (wpAny_loadPart')
section
variable {prog : Program} {w : World} {A : Around} {E : Value → Shared → Prop} {s : Shared}
theorem nextT_item {it l : Addr} {i : Nat} {items : Array Value} {x : Value} {Q : Value → Shared → Prop} (hit : s.heap.IsTupleIter it l i) (hl : s.heap.IsTuple l items) (hx : items[i]? = some x)
    (hQ : ∀ h', h'.IsTupleIter it l (i + 1) → Heap.SameBut it s.heap h' → Q x { s with heap := h' }) : wpAny (model prog w) A (Builtin.SmallTypes.nextOf (.ref it)) Q E s := by
  obtain ⟨o, ho, hc, hd⟩ := id hit
  obtain ⟨ol, hol, _, nl, hdl⟩ := hl
  unfold Builtin.SmallTypes.nextOf
  refine wpAny_bind (wpAny_callSpecial?_slot (name := Str.ofString "__next__") hit.typeIs F.slot_tuple_iterator_next (wpAny_call_entry F.slot_tuple_iterator_next hit.typeIs F.entry_tuple_iterator_next ?_ (F.args_tuple_iterator_next_1 _)))
  show wpAny _ _ (field (.ref it) 0 >>= _) _ _ s
  refine wpAny_bind (wpAny_field ho hd (x := .ref l) rfl ?_)
  show wpAny _ _ (if (Value.ref l == Value.none) = true then _ else _) _ _ s
  rw [if_neg (show ¬ ((Value.ref l == Value.none) = true) from Bool.false_ne_true)]
  show wpAny _ _ (field (.ref it) 1 >>= _) _ _ s
  refine wpAny_bind (wpAny_field ho hd (x := .int i 0) rfl ?_)
  show wpAny _ _ (seqItems? (.ref l) >>= _) _ _ s
  refine wpAny_bind (wpAny_seqItems hol hdl ?_)
  simp only [Int.toNat_natCast, hx]
  refine wpAny_bind (wpAny_setField ho hd (by simp) (wpAny_pure ⟨x, rfl, wpAny_pure (hQ _ ?_ (Heap.SameBut.update ..))⟩))
  exact ⟨_, Heap.get?_update_self _ ho (Obj.isFreed_of_fields (Obj.data_mapFields hd _)), (Obj.cls_mapFields ..).trans hc, by rw [Obj.data_mapFields hd]; simp [rawInt]⟩
theorem nextT_end {it l : Addr} {i : Nat} {items : Array Value} {Q : Value → Shared → Prop} (hh : A.handled = none) (hit : s.heap.IsTupleIter it l i) (hl : s.heap.IsTuple l items) (hx : items[i]? = none)
    (hE : ∀ h' e, Heap.ExtBut it s.heap h' → (∃ o, h'.get? e = some o ∧ o.cls = .type "StopIteration") → E (.ref e) { s with heap := h' }) : wpAny (model prog w) A (Builtin.SmallTypes.nextOf (.ref it)) Q E s := by
  obtain ⟨o, ho, hc, hd⟩ := id hit
  obtain ⟨ol, hol, _, nl, hdl⟩ := hl
  unfold Builtin.SmallTypes.nextOf
  refine wpAny_bind (wpAny_callSpecial?_slot (name := Str.ofString "__next__") hit.typeIs F.slot_tuple_iterator_next (wpAny_call_entry F.slot_tuple_iterator_next hit.typeIs F.entry_tuple_iterator_next ?_ (F.args_tuple_iterator_next_1 _)))
  show wpAny _ _ (field (.ref it) 0 >>= _) _ _ s
  refine wpAny_bind (wpAny_field ho hd (x := .ref l) rfl ?_)
  show wpAny _ _ (if (Value.ref l == Value.none) = true then _ else _) _ _ s
  rw [if_neg (show ¬ ((Value.ref l == Value.none) = true) from Bool.false_ne_true)]
  show wpAny _ _ (field (.ref it) 1 >>= _) _ _ s
  refine wpAny_bind (wpAny_field ho hd (x := .int i 0) rfl ?_)
  show wpAny _ _ (seqItems? (.ref l) >>= _) _ _ s
  refine wpAny_bind (wpAny_seqItems hol hdl ?_)
  simp only [Int.toNat_natCast, hx]
  refine wpAny_bind (wpAny_rule (wpAny_bind (wpAny_setField ho hd (by simp) ?_)))
  show wpAny _ _ (newExc (.type "StopIteration") [] >>= _) _ _ _
  refine wpAny_bind ?_
  simp only [newExc, newTuple]
  refine wpAny_bind (wpAny_newObj_type ?_ (by size_fits))
  refine wpAny_bind (m := firstArgMember _ _) (wpAny_of_eq (a := Value.none) (by first | rfl | (simp only [firstArgMember]; rfl)) ?_)
  refine wpAny_newObj_type ?_ (by size_fits)
  simp only [raiseNew]
  refine wpAny_bind (wpAny_handled ?_)
  first | rw [show A.in1.handled = none from hh] | rw [hh]
  refine wpAny_bind (wpAny_pure (wpAny_throw ?_))
  exact hE _ _ (((Heap.SameBut.update ..).extBut.push _).push _) ⟨_, Heap.get?_push_size _ rfl, rfl⟩
end
theorem drawsT {prog : Program} {w : World} {A : Around} (hh : A.handled = none) (it l : Addr) (hne : l ≠ it) (items : Array Value) :
    Draws prog w A it [it, l] items.size (fun i v => items[i]? = some v) (fun i h => h.IsTupleIter it l i ∧ h.IsTuple l items) where
  live := fun _ _ st => let ⟨o, ho, _⟩ := st.1; ⟨o, ho⟩
  frame := fun _ _ _ st hk => ⟨st.1.at fun o e => hk it (by simp) o e, st.2.at fun o e => hk l (by simp) o e⟩
  item := fun i s Q E hi st hQ => by
    refine nextT_item st.1 st.2 (x := items[i]) (by simp [hi]) fun h' hit' hs' => ?_
    exact hQ _ h' s.toks (by simp [hi]) ⟨hit', st.2.extBut hs'.extBut hne⟩ hs'
  done := fun s Q E st hE => nextT_end hh st.1 st.2 (by simp) hE
theorem meets_enumT (l : Addr) (items : Array Value) (n : Nat) (dct : Option Addr) (sl : Array (Option Value)) :
    Meets (Builtin.«enumerate.__new__» ⟨[.type "enumerate", .ref l], []⟩) (fun _ R s => s.heap.get? l = some { cls := .type "tuple", dict := dct, data := .seq items n, slots := sl } ∧
      R (.ok (.ret (.ref (s.heap.push { cls := .type "tuple_iterator", data := .fields #[.ref l, .int 0 0] }).objs.size)))
        { s with heap := (s.heap.push { cls := .type "tuple_iterator", data := .fields #[.ref l, .int 0 0] }).push { cls := .type "enumerate", data := .fields #[.none, .bool false, .ref s.heap.objs.size, rawInt 0, .none, .none] } }) :=
  .of_wp fun prog w A R s h => by
    obtain ⟨hp, g, d, tk, os⟩ := s; obtain ⟨hl, h⟩ := h
    have hsub := sub_enumerate
    have hL : Heap.IsTuple (Shared.heap ⟨hp, g, d, tk, os⟩) l items := ⟨_, hl, rfl, n, rfl⟩
    wp_walk using wpAny_loadPart' hl
    refine wpAny_stack_any fun st => wpAny_pure ?_
    split
    · rename_i c _ _ _ _ _
      cases (c == Value.type "enumerate")
      · wp_walk using wpAny_loadPart' hl, wpAny_pyIter_tuple hL
        exact ⟨_, rfl, h⟩
      · wp_walk using wpAny_loadPart' hl, wpAny_pyIter_tuple hL
        exact ⟨_, rfl, h⟩
    · wp_walk using wpAny_loadPart' hl, wpAny_pyIter_tuple hL
      exact ⟨_, rfl, h⟩
section
variable {prog : Program} {w : World} {A : Around} {E : Value → Shared → Prop} {s : Shared}
theorem call_enumT {l : Addr} {items : Array Value} {Q : Value → Shared → Prop} (hL : s.heap.IsTuple l items)
    (h : ∀ h', IsEnum h' (s.heap.objs.size + 1) s.heap.objs.size 0 .none → h'.IsTupleIter s.heap.objs.size l 0 → h'.objs.size = s.heap.objs.size + 2 →
      (∀ b o, s.heap.get? b = some o → h'.get? b = some o) → Q (.ref (s.heap.objs.size + 1)) { s with heap := h' }) :
    wpAny (model prog w) A (call (.type "enumerate") [.ref l]) Q E s := by
  obtain ⟨⟨c, dct, dt, sl⟩, hl, hc, n, hd⟩ := hL
  replace hc : c = .type "tuple" := hc
  replace hd : dt = .seq items n := hd
  subst hc hd
  refine callType_new F.called_enumerate (by decide) (F.typeCall_enumerate_1 _) (F.newCall_enumerate_1 _) (fun obj => F.args_object_init_2 obj _) F.entry_enumerate_new (meets_enumT l items n dct sl) ⟨hl, ?_⟩
  have hz : (s.heap.push { cls := .type "tuple_iterator", data := .fields #[.ref l, .int 0 0] }).objs.size = s.heap.objs.size + 1 := Heap.size_push ..
  show _ ∧ _
  rw [hz]
  have he : IsEnum ((s.heap.push { cls := .type "tuple_iterator", data := .fields #[.ref l, .int 0 0] }).push { cls := .type "enumerate", data := .fields #[.none, .bool false, .ref s.heap.objs.size, rawInt 0, .none, .none] }) (s.heap.objs.size + 1) s.heap.objs.size 0 .none := by
    have := Heap.get?_push_size (s.heap.push { cls := .type "tuple_iterator", data := .fields #[.ref l, .int 0 0] }) (o := { cls := .type "enumerate", data := .fields #[.none, .bool false, .ref s.heap.objs.size, rawInt 0, .none, .none] }) rfl
    rw [hz] at this; exact this
  refine ⟨⟨_, he, rfl⟩, h _ he ⟨_, Heap.get?_push_of_some _ (Heap.get?_push_size _ rfl), rfl, rfl⟩ (by rw [Heap.size_push, hz]) fun b o x => Heap.get?_push_of_some _ (Heap.get?_push_of_some _ x)⟩
end
end
section
noncomputable def GEnd (h₀ : Heap) (L : Addr) (wr : List Addr) (own : List (Addr × Obj)) (Jn : (Str → Option Value) → List (Addr × Obj) → Prop) (s₁ s₃ : Shared) : Prop :=
  ∃ h' tk m' news', s₃ = { s₁ with heap := h', toks := tk } ∧ Fr h₀ L h' m' ∧ News h₀ L h' (own ++ news') ∧ (∀ p ∈ news', p.1 ∉ wr) ∧ Jn m' news'
noncomputable def GPost (h₀ : Heap) (L : Addr) (wr : List Addr) (own : List (Addr × Obj)) (Jn : (Str → Option Value) → List (Addr × Obj) → Prop) (s₁ : Shared) (Q : Flow → Shared → Prop) (f : Flow) (s₃ : Shared) : Prop :=
  match f with
  | .ret v => Q (.ret v) s₃
  | .brk => Q .next s₃
  | .next => GEnd h₀ L wr own Jn s₁ s₃
  | .cont => GEnd h₀ L wr own Jn s₁ s₃
section
variable {prog : Program} {w : World} {A : Around} {E : Value → Shared → Prop} {s : Shared} {env : Env} {h₀ : Heap} {target : Expr} {body orelse : List Stmt} {Q : Flow → Shared → Prop}
theorem g_loop {R : Result → Shared → Prop} {I : Addr} {fp wr : List Addr} {n : Nat} {P Md : Nat → Value → Heap → Prop} {St : Nat → Heap → Prop} {m : Str → Option Value} {news : List (Addr × Obj)} (W : KTurns prog w A target I fp wr n P Md St)
    (hLf : env.locals ∉ fp) (hwr : ∀ b ∈ wr, h₀.get? b = none) (hnw : ∀ p ∈ news, p.1 ∉ wr) (hst : St 0 s.heap) (F : Fr h₀ env.locals s.heap m) (N : News h₀ env.locals s.heap news) (h1 : 1 ≤ s.toks)
    (J : Nat → (Str → Option Value) → List (Addr × Obj) → Prop) (h0 : J 0 m news)
    (step : ∀ i v m₁ news₁ h₁ tk₁ own, i < n → P i v h₁ → J i m₁ news₁ → 1 ≤ tk₁ → (∀ p ∈ news₁, p.1 ∉ wr) → (∀ p ∈ own, p.1 ∈ fp) → Fr h₀ env.locals h₁ m₁ → News h₀ env.locals h₁ (own ++ news₁) →
      wpAny (model prog w) A (assign target env v) (fun _ s₂ => wpAny (model prog w) A (execs body env)
        (GPost h₀ env.locals wr own (J (i + 1)) { s with heap := h₁, toks := tk₁ } fun f s' => R (.ok f) s') (notedBy (model prog w) A env fun e s' => R (.error e) s') s₂) (notedBy (model prog w) A env fun e s' => R (.error e) s') { s with heap := h₁, toks := tk₁ })
    (hR : ∀ h' tk m' news', 1 ≤ tk → Fr h₀ env.locals h' m' → News h₀ env.locals h' news' → J n m' news' →
      wpAny (model prog w) A (execs orelse env) (fun f s₃ => R (.ok f) s₃) (notedBy (model prog w) A env fun e s' => R (.error e) s') { s with heap := h', toks := tk }) :
    codeAny (model prog w) A (.forLoop target (.ref I) body orelse env) R s := by
  have hLw : env.locals ∉ wr := fun h => hLf (W.sub _ h)
  have old : ∀ b o, h₀.get? b = some o → b ∉ wr := fun b o e hb => by rw [hwr b hb] at e; cases e
  refine codeAny_forLoop_any
    (fun k s' => ∃ h' tk m' news' i, s' = { s with heap := h', toks := tk } ∧ St i h' ∧ Fr h₀ env.locals h' m' ∧ News h₀ env.locals h' news' ∧ (∀ p ∈ news', p.1 ∉ wr) ∧ J i m' news' ∧ i ≤ n ∧ k = n + 1 - i ∧ 1 ≤ tk) ?_ (n + 1)
    ⟨s.heap, s.toks, m, news, 0, rfl, hst, F, N, hnw, h0, Nat.zero_le _, rfl, h1⟩
  rintro k s' ⟨h', tk, m', news', i, rfl, hst', F', N', hnw', hJ, hi, rfl, htk⟩
  have next : ∀ h₁ : Heap, (∀ b o, b ∉ wr → h'.get? b = some o → h₁.get? b = some o) → Fr h₀ env.locals h₁ m' ∧ News h₀ env.locals h₁ news' := fun h₁ hk₁ =>
    ⟨⟨F'.ns.at' fun o e => hk₁ _ o hLw e, fun b o e => hk₁ b o (old b o e) (F'.keep b o e), F'.above⟩, fun p hp => ⟨hk₁ _ _ (hnw' p hp) (N' p hp).1, (N' p hp).2⟩⟩
  refine wpAny_with_toks (n := 1) htk ?_
  by_cases hlt : i < n
  · refine W.item i _ _ _ hlt hst' fun v h₁ tk₁ hMd hk₁ htk₁ => ?_
    refine W.go i v _ _ _ hMd fun h₂ hP hst₂ hk₂ => ?_
    obtain ⟨F₂, N₂⟩ := next h₂ fun b o hb x => hk₂ b o hb (hk₁ b o hb x)
    have Nown : News h₀ env.locals h₂ (PyProof.Rows.ownOf h₀ fp h₂) := news_ownOf hLf
    have keep : ∀ s₃, GEnd h₀ env.locals wr (PyProof.Rows.ownOf h₀ fp h₂) (J (i + 1)) { s with heap := h₂, toks := tk₁ } s₃ → 1 ≤ s₃.toks →
        ∃ k, k < n + 1 - i ∧ ∃ h' tk m' news' j, s₃ = { s with heap := h', toks := tk } ∧ St j h' ∧ Fr h₀ env.locals h' m' ∧ News h₀ env.locals h' news' ∧ (∀ p ∈ news', p.1 ∉ wr) ∧ J j m' news' ∧ j ≤ n ∧ k = n + 1 - j ∧ 1 ≤ tk := by
      rintro s₃ ⟨h₃', tk₃, m₂, news₂, rfl, F₃, N₃, ha₃, hJ₃⟩ h9
      refine ⟨n + 1 - (i + 1), by omega, h₃', tk₃, m₂, news₂, i + 1, rfl, ?_, F₃, fun p hp => N₃ p (List.mem_append_right _ hp), ha₃, hJ₃, hlt, rfl, h9⟩
      refine W.frame _ _ _ hst₂ fun b hb o e => ?_
      cases hn : h₀.get? b with
      | some o₀ =>
        have : o₀ = o := by have q := F₂.keep b o₀ hn; rw [e] at q; exact (Option.some.inj q).symm
        exact this ▸ F₃.keep b o₀ hn
      | none => exact (N₃ _ (List.mem_append_left _ (mem_ownOf hb hn e))).1
    refine wpAny_mono (wpAny_toks_of (n := 1) htk₁ (step i v m' news' h₂ tk₁ (PyProof.Rows.ownOf h₀ fp h₂) hlt hP hJ htk₁ hnw' ownOf_sub F₂ (Nown.append N₂))) (fun _ s₂ x => ?_) fun _ _ e => e.2
    refine wpAny_mono (wpAny_toks_of (n := 1) x.1 x.2) (fun f s₃ y => ?_) fun _ _ e => e.2
    cases f with
    | ret v => exact y.2
    | brk => exact y.2
    | cont => exact keep s₃ y.2 y.1
    | next => exact keep s₃ y.2 y.1
  · have hin : i = n := by omega
    subst hin
    refine W.done _ _ _ hst' fun h₁ tk₁ hk₁ htk₁ => ?_
    obtain ⟨F₁, N₁⟩ := next h₁ hk₁
    exact hR h₁ tk₁ m' news' htk₁ F₁ N₁ hJ
noncomputable def LoopG (prog : Program) (w : World) (A : Around) (h₀ : Heap) (env : Env) (target : Expr) (body orelse : List Stmt) (Q : Flow → Shared → Prop) (E : Value → Shared → Prop) (it : Value) (s₂ : Shared) : Prop :=
  1 ≤ s₂.toks ∧ ∃ (I : Addr) (fp wr : List Addr) (n : Nat) (P Md : Nat → Value → Heap → Prop) (St : Nat → Heap → Prop) (m : Str → Option Value) (news : List (Addr × Obj)) (J : Nat → (Str → Option Value) → List (Addr × Obj) → Prop),
    it = .ref I ∧ KTurns prog w A target I fp wr n P Md St ∧ env.locals ∉ fp ∧ (∀ b ∈ wr, h₀.get? b = none) ∧ (∀ p ∈ news, p.1 ∉ wr) ∧ St 0 s₂.heap ∧ Fr h₀ env.locals s₂.heap m ∧ News h₀ env.locals s₂.heap news ∧ J 0 m news ∧
    (∀ i v m₁ news₁ h₁ tk₁ own, i < n → P i v h₁ → J i m₁ news₁ → 1 ≤ tk₁ → (∀ p ∈ news₁, p.1 ∉ wr) → (∀ p ∈ own, p.1 ∈ fp) → Fr h₀ env.locals h₁ m₁ → News h₀ env.locals h₁ (own ++ news₁) →
      wpAny (model prog w) A (assign target env v) (fun _ s₃ => wpAny (model prog w) A (execs body env) (GPost h₀ env.locals wr own (J (i + 1)) { s₂ with heap := h₁, toks := tk₁ } Q) E s₃) E { s₂ with heap := h₁, toks := tk₁ }) ∧
    ∀ h' tk m' news', 1 ≤ tk → Fr h₀ env.locals h' m' → News h₀ env.locals h' news' → J n m' news' → wpAny (model prog w) A (execs orelse env) Q E { s₂ with heap := h', toks := tk }
theorem For_gen {iter : Expr} {pos : Pos}
    (h : wpAny (model prog w) A (eval iter env) (fun xv s₁ => wpAny (model prog w) A (pyIter xv) (fun it s₂ => LoopG prog w A h₀ env target body orelse Q E it s₂) E s₁) E s)
    (hs : ∀ x, foldedSetIterable iter env x = pure x := by intro _; rfl)
    (hE : PassesOwn (model prog w) A env E := by passes_own) :
    wpAny (model prog w) A (exec (.For target iter body orelse pos) env) Q E s := by
  refine wpAny_For (wpAny_mono h (fun xv s₁ h₁ => wpAny_mono h₁ (fun it s₂ h₂ => ?_) fun _ _ e => e) fun _ _ e => e) hs
  obtain ⟨h1, I, fp, wr, n, P, Md, St, m, news, J, rfl, W, hLf, hwr, hnw, hst, F, N, h0, step, hQ⟩ := h₂
  exact g_loop (R := fun r s' => match r with | .ok f => Q f s' | .error e => cameBackBy (model prog w) A env E e s') W hLf hwr hnw hst F N h1 J h0
    (fun i v m₁ news₁ h₁ tk₁ own a b c d e f F₁ N₁ => wpAny_mono (step i v m₁ news₁ h₁ tk₁ own a b c d e f F₁ N₁) (fun _ _ x => wpAny_passesOwn hE x) hE)
    (fun h' tk m' news' a b c d => wpAny_passesOwn hE (hQ h' tk m' news' a b c d))
end
end
section
noncomputable def GTurn {σ : Type} (h₀ : Heap) (L : Addr) (Led : σ → List (Addr × Obj)) (adr : List Addr) (own : List (Addr × Obj)) (ps : σ → List (Str × Value)) (stored : List Str) (m₀ : Str → Option Value) (Pn : σ → Prop) (Q : Flow → Shared → Prop) (s₁ : Shared) (f : Flow) (s₂ : Shared) : Prop :=
  match f with
  | .ret v => Q (.ret v) s₂
  | .brk => Q .next s₂
  | .next => TurnEnd h₀ L Led adr own ps (Str.ofString "") stored m₀ Pn s₁ .next s₂
  | .cont => TurnEnd h₀ L Led adr own ps (Str.ofString "") stored m₀ Pn s₁ .cont s₂
section
variable {prog : Program} {w : World} {A : Around} {E : Value → Shared → Prop} {s : Shared} {env : Env} {h₀ : Heap} {target : Expr} {body orelse : List Stmt} {Q : Flow → Shared → Prop}
theorem g_sigma {σ : Type} {I : Addr} {fp wr : List Addr} {n : Nat} {P Md : Nat → Value → Heap → Prop} {St : Nat → Heap → Prop} {m₀ : Str → Option Value} (Led : σ → List (Addr × Obj)) (ps : σ → List (Str × Value)) (stored : List Str) (PP : Nat → σ → Prop) (c₀ : σ)
    (W : KTurns prog w A target I fp wr n P Md St) (hLf : env.locals ∉ fp) (hwr : ∀ b ∈ wr, h₀.get? b = none) (hst : St 0 s.heap) (hnw : ∀ p ∈ Led c₀, p.1 ∉ fp)
    (F : Fr h₀ env.locals s.heap m₀) (N : News h₀ env.locals s.heap (Led c₀)) (h1 : 1 ≤ s.toks) (hk : ∀ p ∈ ps c₀, m₀ p.1 = some p.2) (hp : PP 0 c₀) (hemp : stored.contains (Str.ofString "") = true)
    (turn : ∀ (c : σ) i v (u : Str → Option Value) h tk own, i < n → P i v h → PP i c → 1 ≤ tk → OwnOff own ((Led c₀).map (·.1)) →
      Fr h₀ env.locals h (kstB (fun z => if stored.contains z then u z else m₀ z) (ps c)) → News h₀ env.locals h (Led c ++ own) →
      wpAny (model prog w) A (assign target env v) (fun _ s₃ => wpAny (model prog w) A (execs body env) (GTurn h₀ env.locals Led ((Led c₀).map (·.1)) own ps stored m₀ (PP (i + 1)) Q { s with heap := h, toks := tk }) E s₃) E { s with heap := h, toks := tk })
    (done : ∀ (c : σ) (u : Str → Option Value) h tk, PP n c → 1 ≤ tk → Fr h₀ env.locals h (kstB (fun z => if stored.contains z then u z else m₀ z) (ps c)) → News h₀ env.locals h (Led c) → wpAny (model prog w) A (execs orelse env) Q E { s with heap := h, toks := tk }) :
    LoopG prog w A h₀ env target body orelse Q E (.ref I) s := by
  have fr : ∀ {h : Heap} {m₁ : Str → Option Value} {q : List (Str × Value)}, (∀ p ∈ q, m₁ p.1 = some p.2) → (∀ z, (∀ p ∈ q, z ≠ p.1) → stored.contains z = false → m₁ z = m₀ z) → Fr h₀ env.locals h m₁ →
      Fr h₀ env.locals h (kstB (fun z => if stored.contains z then m₁ z else m₀ z) q) := by
    intro h m₁ q e1 e2 F
    have e : kstB (fun z => if stored.contains z then m₁ z else m₀ z) q = m₁ := by
      funext y
      refine kstB_eq e1 fun hn => ?_
      show (if stored.contains y = true then m₁ y else m₀ y) = m₁ y
      cases h3 : stored.contains y with
      | true => simp
      | false => simp only [Bool.false_eq_true, if_false]; exact (e2 y hn h3).symm
    rw [e]; exact F
  have wsub : ∀ {l : List (Addr × Obj)}, l.map (·.1) = (Led c₀).map (·.1) → ∀ p ∈ l, p.1 ∉ fp := by
    intro l e p hp
    have : p.1 ∈ (Led c₀).map (·.1) := by rw [← e]; exact List.mem_map.mpr ⟨p, hp, rfl⟩
    obtain ⟨q, hq, e2⟩ := List.mem_map.mp this
    exact e2 ▸ hnw q hq
  refine ⟨h1, I, fp, wr, n, P, Md, St, m₀, Led c₀, fun i m₁ news₁ => ∃ c, news₁ = Led c ∧ (Led c).map (·.1) = (Led c₀).map (·.1) ∧ (∀ p ∈ ps c, m₁ p.1 = some p.2) ∧ (∀ z, (∀ p ∈ ps c, z ≠ p.1) → stored.contains z = false → m₁ z = m₀ z) ∧ PP i c,
    rfl, W, hLf, hwr, fun p hp h => hnw p hp (W.sub _ h), hst, F, N, ⟨c₀, rfl, rfl, hk, fun _ _ _ => rfl, hp⟩, ?_, ?_⟩
  · rintro i v m₁ news₁ h₁ tk₁ own hi hP ⟨c, rfl, ha, e1, e2, hPP⟩ htk _ hown F₁ N₁
    have hoff : OwnOff own ((Led c₀).map (·.1)) := by
      intro p hp b hb e
      obtain ⟨q, hq, rfl⟩ := List.mem_map.mp hb
      exact hnw q hq (e ▸ hown p hp)
    have N₂ : News h₀ env.locals h₁ (Led c ++ own) := fun p hp => N₁ p (by
      rcases List.mem_append.mp hp with h | h
      · exact List.mem_append_right _ h
      · exact List.mem_append_left _ h)
    refine wpAny_mono (turn c i v m₁ h₁ tk₁ own hi hP hPP htk hoff (fr e1 e2 F₁) N₂) (fun _ s₃ x => wpAny_mono x (fun f s₄ y => ?_) fun _ _ e => e) fun _ _ e => e
    have fin : ∀ g, TurnEnd h₀ env.locals Led ((Led c₀).map (·.1)) own ps (Str.ofString "") stored m₀ (PP (i + 1)) { s with heap := h₁, toks := tk₁ } g s₄ → GEnd h₀ env.locals wr own (fun m₁ news₁ => ∃ c, news₁ = Led c ∧ (Led c).map (·.1) = (Led c₀).map (·.1) ∧ (∀ p ∈ ps c, m₁ p.1 = some p.2) ∧ (∀ z, (∀ p ∈ ps c, z ≠ p.1) → stored.contains z = false → m₁ z = m₀ z) ∧ PP (i + 1) c) { s with heap := h₁, toks := tk₁ } s₄ := by
      rintro g ⟨_, c', h', tk', m', news', rfl, F', N', q1, q2, q3, q4, q5, q6⟩
      refine ⟨h', tk', m', Led c', rfl, F', fun p hp => ?_, fun p hp h => wsub q3 p hp (W.sub _ h), c', rfl, q3, q4, fun z hz hs => ?_, q6⟩
      · rcases List.mem_append.mp hp with h | h
        · exact N' p (q2 p h)
        · exact N' p (q1 p h)
      · refine q5 z (fun e => ?_) hz hs
        rw [e, hemp] at hs; cases hs
    cases f with
    | ret v => exact y
    | brk => exact y
    | next => exact fin _ y
    | cont => exact fin _ y
  · rintro h' tk m' news' htk F' N' ⟨c, rfl, ha, e1, e2, hPP⟩
    exact done c m' h' tk hPP htk (fr e1 e2 F') N'
end
theorem letGoT {prog : Program} {w : World} {A : Around} {E : Value → Shared → Prop} {s : Shared} {target : Expr} {I l : Addr} {i : Nat} {v : Value} {Q : Unit → Shared → Prop} (hit : s.heap.IsTupleIter I l i) (h : Q () s) : wpAny (model prog w) A (letOwnedTupleGo target (.ref I) v) Q E s := letGo_tupleiter hit h
section
variable {prog : Program} {w : World} {A : Around} {E : Value → Shared → Prop} {s : Shared} {env : Env} {h₀ : Heap} {target : Expr} {body orelse : List Stmt} {Q : Flow → Shared → Prop}
theorem g_tuple {σ : Type} {ax : Addr} {vs : List Value} {m₀ : Str → Option Value} (Led : σ → List (Addr × Obj)) (ps : σ → List (Str × Value)) (stored : List Str) (PP : Nat → σ → Prop) (c₀ : σ)
    (hh : A.handled = none) (ht : h₀.IsTuple ax vs.toArray) (F : Fr h₀ env.locals s.heap m₀) (N : News h₀ env.locals s.heap (Led c₀)) (h1 : 1 ≤ s.toks) (hk : ∀ p ∈ ps c₀, m₀ p.1 = some p.2) (hp : PP 0 c₀) (hemp : stored.contains (Str.ofString "") = true)
    (turn : ∀ (c : σ) i v (u : Str → Option Value) h tk own, i < vs.length → vs[i]? = some v → PP i c → 1 ≤ tk → OwnOff own ((Led c₀).map (·.1)) →
      Fr h₀ env.locals h (kstB (fun z => if stored.contains z then u z else m₀ z) (ps c)) → News h₀ env.locals h (Led c ++ own) →
      wpAny (model prog w) A (assign target env v) (fun _ s₃ => wpAny (model prog w) A (execs body env) (GTurn h₀ env.locals Led ((Led c₀).map (·.1)) own ps stored m₀ (PP (i + 1)) Q { s with heap := h, toks := tk }) E s₃) E { s with heap := h, toks := tk })
    (done : ∀ (c : σ) (u : Str → Option Value) h tk, PP vs.length c → 1 ≤ tk → Fr h₀ env.locals h (kstB (fun z => if stored.contains z then u z else m₀ z) (ps c)) → News h₀ env.locals h (Led c) → wpAny (model prog w) A (execs orelse env) Q E { s with heap := h, toks := tk }) :
    wpAny (model prog w) A (pyIter (.ref ax)) (fun it s₂ => LoopG prog w A h₀ env target body orelse Q E it s₂) E s := by
  have hts : s.heap.IsTuple ax vs.toArray := ht.at fun o e => F.keep ax o e
  obtain ⟨o, ho, _⟩ := id ht
  have hlt0 : ax < h₀.objs.size := Heap.lt_size ho
  have hlt : ax < s.heap.objs.size := Heap.lt_size (F.keep ax o ho)
  refine wpAny_pyIter_tuple hts ?_
  refine g_sigma (s := { s with heap := s.heap.push { cls := .type "tuple_iterator", data := .fields #[.ref ax, .int 0 0] } }) (P := fun i v _ => vs.toArray[i]? = some v) Led ps stored PP c₀ (KTurns.ofWalks (Walks.tuple hh s.heap.objs.size ax (Nat.ne_of_lt hlt) vs.toArray) fun i v s Q E st q => letGo_tupleiter st.1 q) ?_ ?_ ?_ ?_ (F.push _) (fun p hp => ⟨Heap.get?_push_of_some _ (N p hp).1, (N p hp).2⟩) h1 hk hp hemp ?_ ?_
  · intro hm
    rcases List.mem_cons.mp hm with e | hm
    · exact absurd F.ns.lt (e ▸ Nat.lt_irrefl _)
    · have h9 := F.above
      rw [List.mem_singleton.mp hm] at h9
      exact absurd hlt0 (Nat.not_lt.mpr h9)
  · intro b hb
    rw [List.mem_singleton.mp hb]
    exact next_is_new F
  · exact ⟨⟨_, Heap.get?_push_size _ rfl, rfl, rfl⟩, hts.at fun o e => Heap.get?_push_of_some _ e⟩
  · intro p hp hm
    rcases List.mem_cons.mp hm with e | hm
    · exact absurd (Heap.lt_size (N p hp).1) (e ▸ Nat.lt_irrefl _)
    · have h9 := (N p hp).2.2
      rw [List.mem_singleton.mp hm, ho] at h9; cases h9
  · intro c i v u h tk own hi hP
    exact turn c i v u h tk own (by simpa using hi) (by simpa using hP)
  · intro c u h tk hP
    exact done c u h tk (by simpa using hP)
theorem g_enumT {σ : Type} {elts : List Expr} {k : Nat} {pos : Pos} {ax : Addr} {vs : List Value} {m₀ : Str → Option Value} (Led : σ → List (Addr × Obj)) (ps : σ → List (Str × Value)) (stored : List Str) (PP : Nat → σ → Prop) (c₀ : σ)
    (hh : A.handled = none) (ht : h₀.IsTuple ax vs.toArray) (F : Fr h₀ env.locals s.heap m₀) (N : News h₀ env.locals s.heap (Led c₀)) (h1 : 1 ≤ s.toks) (hk : ∀ p ∈ ps c₀, m₀ p.1 = some p.2) (hp : PP 0 c₀) (hemp : stored.contains (Str.ofString "") = true)
    (turn : ∀ (c : σ) i v (u : Str → Option Value) h tk own, i < vs.length → (∃ T t x, v = .ref T ∧ vs[i]? = some x ∧ h.IsTuple T #[.int i t, x]) → PP i c → 1 ≤ tk → OwnOff own ((Led c₀).map (·.1)) →
      Fr h₀ env.locals h (kstB (fun z => if stored.contains z then u z else m₀ z) (ps c)) → News h₀ env.locals h (Led c ++ own) →
      wpAny (model prog w) A (assign (.Tuple elts k pos) env v) (fun _ s₃ => wpAny (model prog w) A (execs body env) (GTurn h₀ env.locals Led ((Led c₀).map (·.1)) own ps stored m₀ (PP (i + 1)) Q { s with heap := h, toks := tk }) E s₃) E { s with heap := h, toks := tk })
    (done : ∀ (c : σ) (u : Str → Option Value) h tk, PP vs.length c → 1 ≤ tk → Fr h₀ env.locals h (kstB (fun z => if stored.contains z then u z else m₀ z) (ps c)) → News h₀ env.locals h (Led c) → wpAny (model prog w) A (execs orelse env) Q E { s with heap := h, toks := tk }) :
    wpAny (model prog w) A (call (.type "enumerate") [.ref ax]) (fun xv s₁ => wpAny (model prog w) A (pyIter xv) (fun it s₂ => LoopG prog w A h₀ env (.Tuple elts k pos) body orelse Q E it s₂) E s₁) E s := by
  have hts : s.heap.IsTuple ax vs.toArray := ht.at fun o e => F.keep ax o e
  obtain ⟨o, ho, _⟩ := id ht
  have hlt0 : ax < h₀.objs.size := Heap.lt_size ho
  have hlt : ax < s.heap.objs.size := Heap.lt_size (F.keep ax o ho)
  have hL : env.locals < s.heap.objs.size := F.ns.lt
  refine call_enumT hts fun h' hE hI hsz hkp => ?_
  refine wpAny_pyIter_enum hE ?_
  refine g_sigma (s := { s with heap := h' }) (P := fun i v h => ∃ T vals, v = .ref T ∧ (∃ t x, vs.toArray[i]? = some x ∧ vals = #[.int i t, x]) ∧ h.IsTuple T vals) Led ps stored PP c₀
    (KTurns.ofWalksU (WalksT.enumerateD (drawsT (A := A.in1) hh s.heap.objs.size ax (Nat.ne_of_lt hlt) vs.toArray) (s.heap.objs.size + 1) (Nat.succ_ne_self _) (by
      intro hm
      rcases List.mem_cons.mp hm with e | hm
      · exact absurd e (Nat.succ_ne_self _)
      · have e := List.mem_singleton.mp hm
        rw [← e] at hlt
        exact absurd hlt (Nat.not_lt.mpr (Nat.le_succ _))) (List.mem_cons_self ..)).toU) ?_ ?_ ?_ ?_ (F.keeps hkp) (N.grown hkp) h1 hk hp hemp ?_ ?_
  · intro hm
    simp only [List.mem_cons, List.not_mem_nil, or_false] at hm
    have h9 := F.above
    rcases hm with e | e | e
    · rw [e] at hL; exact absurd hL (Nat.not_lt.mpr (Nat.le_succ _))
    · rw [e] at hL; exact absurd hL (Nat.lt_irrefl _)
    · rw [e] at h9; exact absurd hlt0 (Nat.not_lt.mpr h9)
  · intro b hb
    simp only [List.mem_cons, List.not_mem_nil, or_false] at hb
    rcases hb with rfl | rfl
    · exact ktu_new F (Nat.le_add_right _ _)
    · exact ktu_new F (Nat.le_refl _)
  · exact ⟨⟨_, hE⟩, hI, hts.at fun o e => hkp _ _ e⟩
  · intro p hp hm
    have h8 := Heap.lt_size (N p hp).1
    simp only [List.mem_cons, List.not_mem_nil, or_false] at hm
    rcases hm with e | e | e
    · rw [e] at h8; exact absurd h8 (Nat.not_lt.mpr (Nat.le_succ _))
    · rw [e] at h8; exact absurd h8 (Nat.lt_irrefl _)
    · have h9 := (N p hp).2.2
      rw [e, ho] at h9; cases h9
  · intro c i v u h tk own hi hP
    refine turn c i v u h tk own (by simpa using hi) ?_
    obtain ⟨T, vals, rfl, ⟨t, x, hx, rfl⟩, hT⟩ := hP
    exact ⟨T, t, x, rfl, by simpa using hx, hT⟩
  · intro c u h tk hP
    exact done c u h tk (by simpa using hP)
end
end
section
noncomputable def encStep (st : List Nat × Nat × Nat) (b : Nat) : List Nat × Nat × Nat :=
  let ch := (st.2.2 * 256 + b) % 65536
  if st.2.1 = 0 then (st.1 ++ [b64c (ch / 4 % 64)], 2, ch)
  else if st.2.1 = 2 then (st.1 ++ [b64c (ch / 16 % 64)], 4, ch)
  else (st.1 ++ [b64c (ch / 64 % 64), b64c (ch % 64)], 0, ch)
noncomputable def encRun (pn : List Nat) : List Nat × Nat × Nat := pn.foldl encStep ([], 0, 0)
noncomputable def encEnd (st : List Nat × Nat × Nat) : List Nat :=
  if st.2.1 = 2 then st.1 ++ [b64c (st.2.2 % 4 * 16), 61, 61]
  else if st.2.1 = 4 then st.1 ++ [b64c (st.2.2 % 16 * 4), 61]
  else st.1
noncomputable def encB (xs : List Nat) : List Nat := encEnd (encRun xs)
noncomputable def bA (l : List Nat) : Array UInt8 := byteArr (iN l)
set_option genInjectivity false in
set_option genSizeOf false in
set_option genSizeOfSpec false in
structure EncC where
  vs : List Value
  ep : Nat
  bits : Nat
  ch : Nat
  t1 : Tok
  t2 : Tok
theorem b64c_lt : ∀ i, b64c i < 128 := by
  intro i
  by_cases h : i < 64
  · have : ∀ i, i < 64 → b64c i < 128 := by decide
    exact this i h
  · have : b64c i = 0 := by
      unfold b64c
      rw [List.getD_eq_getElem?_getD, List.getElem?_eq_none (by show 64 ≤ i; omega)]; rfl
    omega
theorem bytes_hd {prog : Program} {w : World} {A : Around} {E : Value → Shared → Prop} {s : Shared} {h₀ : Heap} {L D : Addr} {m : Str → Option Value} {rest : List (Addr × Obj)} {Q : Value → Shared → Prop} {vs : List Value} {n : Nat} {outs : List Nat}
    (F : Fr h₀ L s.heap m) (N : News h₀ L s.heap ((D, listOf vs.toArray n) :: rest)) (hi : IntsAre vs (iN outs)) (hr : ∀ o ∈ outs, o < 256) (hz : vs.length ≤ 100000) (hh : A.handled = none)
    (h : ∀ h' t k, Fr h₀ L h' m → News h₀ L h' ((D, listOf vs.toArray n) :: rest) → Q (.bytes (bA outs) t) { s with heap := h', toks := k }) : wpAny (model prog w) A (call (.type "bytes") [.ref D]) Q E s :=
  call_bytes_ints (News.isList N (.head _)) hi (fun o ho => by
    obtain ⟨k, hk, rfl⟩ := List.mem_map.mp ho
    have := hr k hk; omega) (by rw [sizeLine_eq]; omega) hh fun h' t k hk => h h' t k (F.keeps hk) (N.grown hk)
noncomputable def EncP (pre : List Int) (c : EncC) : Prop := ∃ pn outs, pre = iN pn ∧ IntsAre c.vs (iN outs) ∧ encRun pn = (outs, c.bits, c.ch) ∧ (c.bits = 0 ∨ c.bits = 2 ∨ c.bits = 4) ∧ c.ch < 65536 ∧ c.vs.length ≤ 2 * pre.length ∧ ∀ o ∈ outs, o < 128
theorem enc_snoc (pn : List Nat) (b : Nat) : encRun (pn ++ [b]) = encStep (encRun pn) b := by simp [encRun]
theorem iN_toNat : ∀ l : List Nat, (iN l).map Int.toNat = l
  | [] => rfl
  | a :: r => by
    show (a : Int).toNat :: (iN r).map Int.toNat = a :: r
    rw [iN_toNat r, Int.toNat_natCast]
theorem iN_inj {a b : List Nat} (h : iN a = iN b) : a = b := by
  rw [← iN_toNat a, ← iN_toNat b, h]
theorem ok_snoc {outs : List Nat} {n : Nat} (h : ∀ o ∈ outs, o < 128) (hn : n < 128) : ∀ o ∈ outs ++ [n], o < 128 := fun o ho => by
  rcases List.mem_append.mp ho with h1 | h1
  · exact h o h1
  · rw [List.mem_singleton.mp h1]; exact hn
theorem ok_256 {outs : List Nat} (h : ∀ o ∈ outs, o < 128) : ∀ o ∈ outs, o < 256 := fun o ho => Nat.lt_trans (h o ho) (by decide)
theorem ints_snoc {vs : List Value} {outs : List Nat} {n : Nat} {t : Tok} (h : IntsAre vs (iN outs)) : IntsAre (vs ++ [.int (n : Int) t]) (iN (outs ++ [n])) := by
  rw [iN_append]; exact h.append (.cons _ _ .nil)
theorem mem_led {α : Type} {x : α} {news own : List α} : ∀ p ∈ x :: news, p ∈ x :: (news ++ own) := fun p hp => by
  rcases List.mem_cons.mp hp with rfl | hp
  · exact .head _
  · exact .tail _ (List.mem_append_left _ hp)
theorem own_led {α : Type} {x : α} {news own : List α} : ∀ p ∈ own, p ∈ x :: (news ++ own) := fun _ hp => .tail _ (List.mem_append_right _ hp)
section
local macro_rules | `(tactic| walk_at "execs cons") => `(tactic| k_fold)


local macro_rules | `(tactic| walk_at "my def") => `(tactic| exact t_buffer _ _ _ _ _ _)
local macro_rules | `(tactic| walk_at "my def") => `(tactic| exact t_truth _ _ _ _ _)
local macro_rules | `(tactic| walk_at "binaryOp LShift int int") => `(tactic| k_dflt (first | refine r_shl 8 256 (by decide) (by first | rfl | omega) (by decide) (by omega) ?_ | refine r_shl 4 16 (by decide) (by first | rfl | omega) (by decide) (by omega) ?_ | refine r_shl 2 4 (by decide) (by first | rfl | omega) (by decide) (by omega) ?_))
local macro_rules | `(tactic| walk_at "binaryOp RShift int int") => `(tactic| k_dflt (first | refine r_shr 2 4 (by decide) (by omega) ?_ | refine r_shr 4 16 (by decide) (by omega) ?_ | refine r_shr 6 64 (by decide) (by omega) ?_ | refine r_shr 0 1 (by decide) (by omega) ?_))
local macro_rules | `(tactic| walk_at "binaryOp BitOr int int") => `(tactic| k_dflt (refine r_or 8 256 (by decide) (by omega) ?_))
local macro_rules | `(tactic| walk_at "binaryOp BitAnd int int") => `(tactic| k_dflt (first | refine r_and 16 65536 (by decide) rfl ?_ | refine r_and 6 64 (by decide) rfl ?_ | refine r_and 2 4 (by decide) rfl ?_ | refine r_and 4 16 (by decide) rfl ?_))
local macro_rules | `(tactic| walk_at "subscriptTail") => `(tactic| k_dflt ((with_reducible show wpAny _ _ (subscriptTail _ _ (Value.bytes _ _) (Value.int _ _)) _ _ _); refine subscriptTail_builtin (typeIs_bytes _ _ _) FB.slot_bytes_getitem.lookup (b64_get (by decide +kernel) (by omega) ?_)))
local macro_rules | `(tactic| walk_at "call builtin:list.append") => `(tactic| k_dflt (refine append_hd (by assumption) (by assumption) (by assumption) (by first | omega | (simp only [List.length_append, List.length_cons, List.length_nil]; omega)) ?_; intro h' F' N'))
theorem t_b2a (w : World) (mean : ExcName → Option Value) (mg mb : Str → Option Value) (x : Array UInt8) (t : Tok) (xs : List Nat) (hxb : KBw.bInts x = iN xs) (hx : xs.length ≤ 1000) :
    GivesK w mean mg mb 107 [.bytes x t] [(Str.ofString "newline", .bool false)] (fun t => .bytes (bA (encB xs)) t) 3 30 := by
  (try unfold Gives)
  unfold GivesK
  k_fill
  intro dp un gd cn cs a ccd cl outer A₀ base h₀ L m news s Q E B F X N T hk h1 hd hu hret
  refine wpAny_with_toks (n := 1) h1 ?_
  refine wpAny_call ?_

  k_dflt (refine' code_def (binds := [(Str.ofString "data", .bytes x t), (Str.ofString "newline", .bool false)]) ?k1 ?k2 ?k3 ?k4 ?k5 ?kA ?kF ?kK ?k6 ?k7 ?k8 ?k9 ?kB ?_ ?c2 ?c3 ?c4 ?c5; (case kA => exact rfl); (case kF => exact rfl); (case kK => assumption); (case k1 => k_asm); (case k2 => k_asm); (case k3 => k_asm); (case k4 => k_asm); (case k5 => k_asm); (case k6 => k_is); (case k7 => k_is); (case k8 => ktr_room); (case k9 => first | exact BindsTo.of_eq rfl | exact binds_K (by k_in) rfl (by k_is) rfl rfl rfl); (case c5 => decide); (case kB => exact locs rfl); (case c2 => exact rfl); (case c3 => exact rfl); (case c4 => exact rfl); k_whole)
  intro g' L' hh FG F' N' B' X' T'
  (try dsimp only)
  (try k_lift B')
  (try k_fold)
  k_steps
  unfold Stop
  with_reducible rename Fr _ _ _ _ => hF
  with_reducible rename News _ _ _ _ => hN
  with_reducible rename (∀ (p : Addr × Obj), p ∈ news → p.fst < _) => l1
  refine' loop_bytes (σ := EncC) (fun c => (_, listOf c.vs.toArray c.ep) :: news) (fun c => [(Str.ofString "leftbits", .int c.bits c.t1), (Str.ofString "leftchar", .int c.ch c.t2)]) [] EncP ⟨[], 0, 0, 0, _, _⟩ rfl hF hN ?hk ?hp ?turn ?done
  case hk => kst_all
  case hp => exact ⟨[], [], rfl, .nil, rfl, .inl rfl, Nat.zero_lt_succ _, Nat.zero_le _, fun _ h => nomatch h⟩
  case done =>
    intro c u h tk hP F9 N9
    obtain ⟨vs, ep, bits, ch, t1, t2⟩ := c
    obtain ⟨pn, outs, hpn, hv, hr, hb, hch, hlen, ho8⟩ := hP
    dsimp only at hv hr hb hch hlen F9 N9
    (try dsimp only [kstB] at F9)
    have hl6 : vs.length ≤ 2000 := by
      rw [hxb, iN_length] at hlen; omega
    have hoff : ∀ p ∈ news, p.1 ≠ _ := fun p hp => Nat.ne_of_lt (l1 p hp)
    have hpn2 : pn = xs := iN_inj (by rw [← hpn, hxb])
    rcases hb with rfl | rfl | rfl
    · k_steps
      refine' bytes_hd (outs := outs) (by assumption) (by assumption) ?ya1 ?yb1 ?yc1 rfl ?yd1
      case ya1 => exact hv
      case yb1 => exact ok_256 (ho8)
      case yc1 => first | omega | (simp only [List.length_append, List.length_cons, List.length_nil]; omega)
      case yd1 =>
        intro h7 t7 k7 F7 N7
        k_steps
        refine give_val t7 hret ?_ (by assumption) (cb_drop (by assumption) fun p hp => List.mem_cons_of_mem _ hp) (by assumption)
        rw [hpn2] at hr
        simp [encB, hr, encEnd, List.append_assoc]
    · k_steps
      refine' bytes_hd (outs := outs ++ [b64c (ch % 4 * 16)] ++ [61] ++ [61]) (by assumption) (by assumption) ?ya2 ?yb2 ?yc2 rfl ?yd2
      case ya2 => exact ints_snoc (n := 61) (ints_snoc (n := 61) (ints_snoc hv))
      case yb2 => exact ok_256 (ok_snoc (ok_snoc (ok_snoc ho8 (b64c_lt _)) (by decide)) (by decide))
      case yc2 => first | omega | (simp only [List.length_append, List.length_cons, List.length_nil]; omega)
      case yd2 =>
        intro h7 t7 k7 F7 N7
        k_steps
        refine give_val t7 hret ?_ (by assumption) (cb_drop (by assumption) fun p hp => List.mem_cons_of_mem _ hp) (by assumption)
        rw [hpn2] at hr
        simp [encB, hr, encEnd, List.append_assoc]
    · k_steps
      refine' bytes_hd (outs := outs ++ [b64c (ch % 16 * 4)] ++ [61]) (by assumption) (by assumption) ?ya3 ?yb3 ?yc3 rfl ?yd3
      case ya3 => exact ints_snoc (n := 61) (ints_snoc hv)
      case yb3 => exact ok_256 (ok_snoc (ok_snoc ho8 (b64c_lt _)) (by decide))
      case yc3 => first | omega | (simp only [List.length_append, List.length_cons, List.length_nil]; omega)
      case yd3 =>
        intro h7 t7 k7 F7 N7
        k_steps
        refine give_val t7 hret ?_ (by assumption) (cb_drop (by assumption) fun p hp => List.mem_cons_of_mem _ hp) (by assumption)
        rw [hpn2] at hr
        simp [encB, hr, encEnd, List.append_assoc]
  case turn =>
    intro c pre post k t u h tk own hke hk0 hk256 ho hP F9 N9
    obtain ⟨vs, ep, bits, ch, t1, t2⟩ := c
    obtain ⟨pn, outs, rfl, hv, hr, hb, hch, hlen, ho8⟩ := hP
    dsimp only at hv hr hb hch hlen F9 N9
    (try dsimp only [kstB] at F9)
    obtain ⟨b, rfl⟩ := Int.eq_ofNat_of_zero_le hk0
    have hoff : ∀ p ∈ news ++ own, p.1 ≠ _ := fun p hp => (List.mem_append.mp hp).elim (fun h => Nat.ne_of_lt (l1 p h)) (fun h => ho p h _ (List.Mem.head _))
    have hl5 : (iN pn).length < 1000 := by
      have := congrArg List.length hke
      rw [hxb, iN_length, List.length_append, List.length_cons] at this
      omega
    have hl6 : vs.length ≤ 2000 := by omega
    have hb2 : b < 256 := by omega
    rw [List.cons_append] at N9
    generalize hrest : news ++ own = rest at hoff N9
    (try k_fold)
    rcases hb with rfl | rfl | rfl
    · k_steps
      subst hrest
      refine' TurnEnd.intro (σ := EncC) ⟨_, _, 2, (ch * 256 + b) % 65536, _, _⟩ (by assumption) (by assumption) (.inl rfl) ?za1 ?zb1 ?zc1 ?zd1 ?ze1 ?zf1
      case zd1 => kst_all
      case za1 => exact mem_led
      case zb1 => exact own_led
      case zc1 => rfl
      case ze1 => kst_same
      case zf1 =>
        refine ⟨pn ++ [b], _, by rw [iN_append]; rfl, ints_snoc hv, ?_, .inr (.inl rfl), Nat.mod_lt _ (by decide), ?_, ?_⟩
        · rw [enc_snoc, hr]; rfl
        · simp only [List.length_append, List.length_cons, List.length_nil]; omega
        · first | exact ok_snoc ho8 (b64c_lt _) | exact ok_snoc (ok_snoc ho8 (b64c_lt _)) (b64c_lt _)
    · k_steps
      subst hrest
      refine' TurnEnd.intro (σ := EncC) ⟨_, _, 4, (ch * 256 + b) % 65536, _, _⟩ (by assumption) (by assumption) (.inl rfl) ?za2 ?zb2 ?zc2 ?zd2 ?ze2 ?zf2
      case zd2 => kst_all
      case za2 => exact mem_led
      case zb2 => exact own_led
      case zc2 => rfl
      case ze2 => kst_same
      case zf2 =>
        refine ⟨pn ++ [b], _, by rw [iN_append]; rfl, ints_snoc hv, ?_, .inr (.inr rfl), Nat.mod_lt _ (by decide), ?_, ?_⟩
        · rw [enc_snoc, hr]; rfl
        · simp only [List.length_append, List.length_cons, List.length_nil]; omega
        · first | exact ok_snoc ho8 (b64c_lt _) | exact ok_snoc (ok_snoc ho8 (b64c_lt _)) (b64c_lt _)
    · k_steps
      subst hrest
      refine' TurnEnd.intro (σ := EncC) ⟨_, _, 0, (ch * 256 + b) % 65536, _, _⟩ (by assumption) (by assumption) (.inl rfl) ?za3 ?zb3 ?zc3 ?zd3 ?ze3 ?zf3
      case zd3 => kst_all
      case za3 => exact mem_led
      case zb3 => exact own_led
      case zc3 => rfl
      case ze3 => kst_same
      case zf3 =>
        refine ⟨pn ++ [b], _, by rw [iN_append]; rfl, ints_snoc (ints_snoc hv), ?_, .inl rfl, Nat.mod_lt _ (by decide), ?_, ?_⟩
        · rw [enc_snoc, hr]; simp [encStep, Nat.div_one, List.append_assoc]
        · simp only [List.length_append, List.length_cons, List.length_nil]; omega
        · first | exact ok_snoc ho8 (b64c_lt _) | exact ok_snoc (ok_snoc ho8 (b64c_lt _)) (b64c_lt _)
end
end
section
noncomputable def b64v (c : Nat) : Nat :=
  if 65 ≤ c ∧ c ≤ 90 then c - 65 else if 97 ≤ c ∧ c ≤ 122 then c - 71 else if 48 ≤ c ∧ c ≤ 57 then c + 4 else if c = 43 then 62 else if c = 47 then 63 else 64
theorem int_val {i j : Int} {t : Tok} (h : i = j) : Value.int i t = Value.int j t := by rw [h]
section

theorem t_val (w : World) (mean : ExcName → Option Value) (mg mb : Str → Option Value) (y : Nat) (t : Tok) :
    Gives w mean mg mb 91 [.int (y : Int) t] (fun t => .int (b64v y : Int) t) 1 8 := by
  (try unfold Gives)
  unfold GivesK
  k_fill
  intro dp un gd cn cs a ccd cl outer A₀ base h₀ L m news s Q E B F X N T hk h1 hd hu hret
  refine wpAny_with_toks (n := 1) h1 ?_
  refine wpAny_call ?_

  k_dflt (refine' code_def (binds := [(Str.ofString "c", .int (y : Int) t)]) ?k1 ?k2 ?k3 ?k4 ?k5 ?kA ?kF ?kK ?k6 ?k7 ?k8 ?k9 ?kB ?_ ?c2 ?c3 ?c4 ?c5; (case kA => exact rfl); (case kF => exact rfl); (case kK => assumption); (case k1 => k_asm); (case k2 => k_asm); (case k3 => k_asm); (case k4 => k_asm); (case k5 => k_asm); (case k6 => k_is); (case k7 => k_is); (case k8 => ktr_room); (case k9 => first | exact BindsTo.of_eq rfl | exact binds_K (by k_in) rfl (by k_is) rfl rfl rfl); (case c5 => decide); (case kB => exact locs rfl); (case c2 => exact rfl); (case c3 => exact rfl); (case c4 => exact rfl); k_whole)
  intro g' L' hh FG F' N' B' X' T'
  (try dsimp only)
  (try k_lift B')
  (try k_fold)
  k_steps
  all_goals (refine give_val _ hret (int_val ?_) (by assumption) (by assumption) (by assumption); (simp only [decide_eq_true_eq, decide_eq_false_iff_not, beq_iff_eq, beq_eq_false_iff_ne, ne_eq] at *); (unfold b64v); (repeat' split) <;> omega)
end
section


local macro_rules | `(tactic| walk_at "my def") => `(tactic| exact t_b2a _ _ _ _ _ _ _ (by assumption) (by assumption))
theorem t_enc (w : World) (mean : ExcName → Option Value) (mg mb : Str → Option Value) (x : Array UInt8) (t : Tok) (xs : List Nat) (hxb : KBw.bInts x = iN xs) (hx : xs.length ≤ 1000) :
    Gives w mean mg mb 115 [.bytes x t] (fun t => .bytes (bA (encB xs)) t) 5 40 := by
  (try unfold Gives)
  unfold GivesK
  k_fill
  intro dp un gd cn cs a ccd cl outer A₀ base h₀ L m news s Q E B F X N T hk h1 hd hu hret
  refine wpAny_with_toks (n := 1) h1 ?_
  refine wpAny_call ?_

  k_dflt (refine' code_def (binds := [(Str.ofString "s", .bytes x t), (Str.ofString "altchars", .none)]) ?k1 ?k2 ?k3 ?k4 ?k5 ?kA ?kF ?kK ?k6 ?k7 ?k8 ?k9 ?kB ?_ ?c2 ?c3 ?c4 ?c5; (case kA => exact rfl); (case kF => exact rfl); (case kK => assumption); (case k1 => k_asm); (case k2 => k_asm); (case k3 => k_asm); (case k4 => k_asm); (case k5 => k_asm); (case k6 => k_is); (case k7 => k_is); (case k8 => ktr_room); (case k9 => first | exact BindsTo.of_eq rfl | exact binds_K (by k_in) rfl (by k_is) rfl rfl rfl); (case c5 => decide); (case kB => exact locs rfl); (case c2 => exact rfl); (case c3 => exact rfl); (case c4 => exact rfl); k_whole)
  intro g' L' hh FG F' N' B' X' T'
  (try dsimp only)
  (try k_lift B')
  (try k_fold)
  k_steps
  exact give_val _ hret rfl (by assumption) (by assumption) (by assumption)
end
end
section
noncomputable def decStep (st : List Nat × Nat × Nat × Nat) (y : Nat) : List Nat × Nat × Nat × Nat :=
  if y = 61 then (st.1, st.2.1, st.2.2.1, st.2.2.2 + 1)
  else if st.2.1 = 0 then (st.1, 1, b64v y, 0)
  else if st.2.1 = 1 then (st.1 ++ [st.2.2.1 * 4 + b64v y / 16], 2, b64v y % 16, 0)
  else if st.2.1 = 2 then (st.1 ++ [st.2.2.1 * 16 + b64v y / 4], 3, b64v y % 4, 0)
  else (st.1 ++ [st.2.2.1 * 64 + b64v y], 0, 0, 0)
noncomputable def decRun (ys : List Nat) : List Nat × Nat × Nat × Nat := ys.foldl decStep ([], 0, 0, 0)
theorem dec_snoc (pn : List Nat) (b : Nat) : decRun (pn ++ [b]) = decStep (decRun pn) b := by simp [decRun]
set_option genInjectivity false in
set_option genSizeOf false in
set_option genSizeOfSpec false in
structure DecC where
  vs : List Value
  ep : Nat
  q : Nat
  ch : Nat
  pads : Nat
  i : Nat
  t1 : Tok
  t2 : Tok
  t3 : Tok
  t4 : Tok
noncomputable def DecP (pre : List Int) (c : DecC) : Prop := ∃ pn outs, pre = iN pn ∧ IntsAre c.vs (iN outs) ∧ decRun pn = (outs, c.q, c.ch, c.pads) ∧ (c.q = 0 ∨ (c.q = 1 ∧ c.ch < 64) ∨ (c.q = 2 ∧ c.ch < 16) ∨ (c.q = 3 ∧ c.ch < 4)) ∧ c.vs.length ≤ pre.length ∧ (∀ o ∈ outs, o < 256) ∧ c.i = pre.length ∧ c.pads ≤ pre.length
theorem ok_snoc8 {outs : List Nat} {n : Nat} (h : ∀ o ∈ outs, o < 256) (hn : n < 256) : ∀ o ∈ outs ++ [n], o < 256 := fun o ho => by
  rcases List.mem_append.mp ho with h1 | h1
  · exact h o h1
  · rw [List.mem_singleton.mp h1]; exact hn
section
local macro_rules | `(tactic| walk_at "execs cons") => `(tactic| k_fold)


local macro_rules | `(tactic| walk_at "ite") => `(tactic| walk_at "my ite")

local macro_rules | `(tactic| walk_at "my def") => `(tactic| exact t_ascii _ _ _ _ _ _)
local macro_rules | `(tactic| walk_at "my def") => `(tactic| exact t_truth _ _ _ _ _)
local macro_rules | `(tactic| walk_at "my def") => `(tactic| exact t_val _ _ _ _ _ _)
local macro_rules | `(tactic| walk_at "binaryOp LShift int int") => `(tactic| k_dflt (first | refine r_shl 6 64 (by decide) (by first | rfl | omega) (by decide) (by omega) ?_ | refine r_shl 4 16 (by decide) (by first | rfl | omega) (by decide) (by omega) ?_ | refine r_shl 2 4 (by decide) (by first | rfl | omega) (by decide) (by omega) ?_))
local macro_rules | `(tactic| walk_at "binaryOp RShift int int") => `(tactic| k_dflt (first | refine r_shr 2 4 (by decide) (by omega) ?_ | refine r_shr 4 16 (by decide) (by omega) ?_))
local macro_rules | `(tactic| walk_at "binaryOp BitOr int int") => `(tactic| ((with_reducible show wpAny _ _ (binaryOp _ (Value.int (Nat.cast (_ * 4)) _) _) _ _ _); k_dflt (refine r_or 2 4 (by decide) (by omega) ?_)))
local macro_rules | `(tactic| walk_at "binaryOp BitOr int int") => `(tactic| ((with_reducible show wpAny _ _ (binaryOp _ (Value.int (Nat.cast (_ * 16)) _) _) _ _ _); k_dflt (refine r_or 4 16 (by decide) (by omega) ?_)))
local macro_rules | `(tactic| walk_at "binaryOp BitOr int int") => `(tactic| ((with_reducible show wpAny _ _ (binaryOp _ (Value.int (Nat.cast (_ * 64)) _) _) _ _ _); k_dflt (refine r_or 6 64 (by decide) (by omega) ?_)))
local macro_rules | `(tactic| walk_at "binaryOp BitAnd int int") => `(tactic| k_dflt (first | refine r_and 2 4 (by decide) rfl ?_ | refine r_and 4 16 (by decide) rfl ?_))
local macro_rules | `(tactic| walk_at "call builtin:list.append") => `(tactic| k_dflt (refine append_hd (by assumption) (by assumption) (by assumption) (by first | omega | (simp only [List.length_append, List.length_cons, List.length_nil]; omega)) ?_; intro h' F' N'))
theorem t_a2b (w : World) (mean : ExcName → Option Value) (mg mb : Str → Option Value) (x : Array UInt8) (t : Tok) (ys : List Nat) (hxb : KBw.bInts x = iN ys) (hx : ys.length ≤ 2000) (hok : ∀ y ∈ ys, y = 61 ∨ b64v y < 64) {outs : List Nat} {q ch pads : Nat} (hrun : decRun ys = (outs, q, ch, pads)) (hq : q ≠ 1) (hpad : q = 0 ∨ 4 ≤ q + pads) :
    GivesK w mean mg mb 99 [.bytes x t] [(Str.ofString "strict_mode", .bool false)] (fun t => .bytes (bA outs) t) 3 30 := by
  (try unfold Gives)
  unfold GivesK
  k_fill
  intro dp un gd cn cs a ccd cl outer A₀ base h₀ L m news s Q E B F X N T hk h1 hd hu hret
  refine wpAny_with_toks (n := 1) h1 ?_
  refine wpAny_call ?_

  k_dflt (refine' code_def (binds := [(Str.ofString "data", .bytes x t), (Str.ofString "strict_mode", .bool false)]) ?k1 ?k2 ?k3 ?k4 ?k5 ?kA ?kF ?kK ?k6 ?k7 ?k8 ?k9 ?kB ?_ ?c2 ?c3 ?c4 ?c5; (case kA => exact rfl); (case kF => exact rfl); (case kK => assumption); (case k1 => k_asm); (case k2 => k_asm); (case k3 => k_asm); (case k4 => k_asm); (case k5 => k_asm); (case k6 => k_is); (case k7 => k_is); (case k8 => ktr_room); (case k9 => first | exact BindsTo.of_eq rfl | exact binds_K (by k_in) rfl (by k_is) rfl rfl rfl); (case c5 => decide); (case kB => exact locs rfl); (case c2 => exact rfl); (case c3 => exact rfl); (case c4 => exact rfl); k_whole)
  intro g' L' hh FG F' N' B' X' T'
  (try dsimp only)
  (try k_lift B')
  (try k_fold)
  k_steps
  unfold Stop
  with_reducible rename Fr _ _ _ _ => hF
  with_reducible rename News _ _ _ _ => hN
  with_reducible rename (∀ (p : Addr × Obj), p ∈ news → p.fst < _) => l1
  refine' loop_bytes (σ := DecC) (fun c => (_, listOf c.vs.toArray c.ep) :: news) (fun c => [(Str.ofString "quad_pos", .int c.q c.t1), (Str.ofString "leftchar", .int c.ch c.t2), (Str.ofString "pads", .int c.pads c.t3), (Str.ofString "i", .int c.i c.t4)]) [] DecP ⟨[], 0, 0, 0, 0, 0, _, _, _, _⟩ rfl hF hN ?hk ?hp ?turn ?done
  case hk => kst_all
  case hp => exact ⟨[], [], rfl, .nil, rfl, .inl rfl, Nat.le_refl _, (fun _ h => nomatch h), rfl, Nat.le_refl _⟩
  case done =>
    intro c u h tk hP F9 N9
    obtain ⟨vs, ep, q', ch', pads', i, t1, t2, t3, t4⟩ := c
    obtain ⟨pn, outs', hpn, hv, hr, hb, hlen, ho8, hi, hpl⟩ := hP
    dsimp only at hv hr hb hlen hi hpl F9 N9
    (try dsimp only [kstB] at F9)
    have hpn2 : pn = ys := iN_inj (by rw [← hpn, hxb])
    rw [hpn2, hrun] at hr
    simp only [Prod.mk.injEq] at hr
    obtain ⟨rfl, rfl, rfl, rfl⟩ := hr
    have hl6 : vs.length ≤ 2000 := by
      rw [hxb, iN_length] at hlen; omega
    clear hb hlen hi hpl
    k_steps
    all_goals (refine bytes_hd (outs := outs) (by assumption) (by assumption) hv ho8 (by omega) rfl ?_; intro h7 t7 k7 F7 N7; k_steps; refine give_val t7 hret rfl (by assumption) (cb_drop (by assumption) fun p hp => List.mem_cons_of_mem _ hp) (by assumption))
  case turn =>
    intro c pre post k t u h tk own hke hk0 hk256 ho hP F9 N9
    obtain ⟨vs, ep, q, ch, pads, i, t1, t2, t3, t4⟩ := c
    obtain ⟨pn, outs, rfl, hv, hr, hb, hlen, ho8, hi, hpl⟩ := hP
    dsimp only at hv hr hb hlen hi hpl F9 N9
    (try dsimp only [kstB] at F9)
    obtain ⟨y, rfl⟩ := Int.eq_ofNat_of_zero_le hk0
    have hoff : ∀ p ∈ news ++ own, p.1 ≠ _ := fun p hp => (List.mem_append.mp hp).elim (fun h => Nat.ne_of_lt (l1 p h)) (fun h => ho p h _ (List.Mem.head _))
    have hke2 : ys = pn ++ y :: post.map Int.toNat := by
      have := congrArg (List.map Int.toNat) hke
      rw [hxb, iN_toNat, List.map_append, iN_toNat] at this
      exact this
    have hl5 : (iN pn).length < 2000 := by
      have := congrArg List.length hke2
      rw [List.length_append, List.length_cons] at this
      rw [iN_length]; omega
    have hl6 : vs.length ≤ 2000 := by omega
    have hy := hok y (by rw [hke2]; simp)
    have hdone : ∀ st, decStep (decRun pn) y = st → decRun (pn ++ [y]) = st := fun st e => by rw [dec_snoc]; exact e
    rw [hr] at hdone
    rw [List.cons_append] at N9
    generalize hrest : news ++ own = rest at hoff N9
    (try k_fold)
    have hln : ∀ n : Nat, (iN pn ++ [(n : Int)]).length = (iN pn).length + 1 := fun n => by simp
    have hpe : ∀ n : Nat, iN pn ++ [(n : Int)] = iN (pn ++ [n]) := fun n => by rw [iN_append]; rfl
    by_cases hy61 : y = 61
    · subst hy61
      k_steps
      all_goals subst hrest
      all_goals (try dsimp only)
      all_goals (try k_unfold)
      all_goals (try dsimp only)
      all_goals exact TurnEnd.intro2 (σ := DecC) (by assumption) (by assumption) (by first | exact .inl rfl | exact .inr rfl) (by exact own_led) (by exact ⟨⟨_, _, q, ch, pads + 1, i + 1, _, _, _, _⟩, mem_led, rfl, by kst_all, by kst_same, ⟨pn ++ [61], outs, hpe 61, hv, hdone _ (by simp [decStep]), hb, by (rw [hln]; dsimp only; omega), ho8, by (rw [hln]; dsimp only; omega), by (rw [hln]; dsimp only; omega)⟩⟩)
    · have hyv : b64v y < 64 := hy.resolve_left hy61
      rcases hb with rfl | ⟨rfl, hch⟩ | ⟨rfl, hch⟩ | ⟨rfl, hch⟩
      · k_steps
        all_goals subst hrest
        all_goals (try dsimp only)
        all_goals (try k_unfold)
        all_goals (try dsimp only)
        all_goals exact TurnEnd.intro2 (σ := DecC) (by assumption) (by assumption) (by first | exact .inl rfl | exact .inr rfl) (by exact own_led) (by exact ⟨⟨_, _, 1, b64v y, 0, i + 1, _, _, _, _⟩, mem_led, rfl, by kst_all, by kst_same, ⟨pn ++ [y], outs, hpe y, hv, hdone _ (by simp [decStep, hy61]), (.inr (.inl ⟨rfl, hyv⟩)), by (rw [hln]; (try simp only [List.length_append, List.length_cons, List.length_nil]); omega), ho8, by (rw [hln]; dsimp only; omega), Nat.zero_le _⟩⟩)
      · k_steps
        all_goals subst hrest
        all_goals (try dsimp only)
        all_goals (try k_unfold)
        all_goals (try dsimp only)
        all_goals exact TurnEnd.intro2 (σ := DecC) (by assumption) (by assumption) (by first | exact .inl rfl | exact .inr rfl) (by exact own_led) (by exact ⟨⟨_, _, 2, b64v y % 16, 0, i + 1, _, _, _, _⟩, mem_led, rfl, by kst_all, by kst_same, ⟨pn ++ [y], _, hpe y, ints_snoc hv, hdone _ (by simp [decStep, hy61]), (.inr (.inr (.inl ⟨rfl, by dsimp only; omega⟩))), by (rw [hln]; (try simp only [List.length_append, List.length_cons, List.length_nil]); omega), ok_snoc8 ho8 (by omega), by (rw [hln]; dsimp only; omega), Nat.zero_le _⟩⟩)
      · k_steps
        all_goals subst hrest
        all_goals (try dsimp only)
        all_goals (try k_unfold)
        all_goals (try dsimp only)
        all_goals exact TurnEnd.intro2 (σ := DecC) (by assumption) (by assumption) (by first | exact .inl rfl | exact .inr rfl) (by exact own_led) (by exact ⟨⟨_, _, 3, b64v y % 4, 0, i + 1, _, _, _, _⟩, mem_led, rfl, by kst_all, by kst_same, ⟨pn ++ [y], _, hpe y, ints_snoc hv, hdone _ (by simp [decStep, hy61]), (.inr (.inr (.inr ⟨rfl, by dsimp only; omega⟩))), by (rw [hln]; (try simp only [List.length_append, List.length_cons, List.length_nil]); omega), ok_snoc8 ho8 (by omega), by (rw [hln]; dsimp only; omega), Nat.zero_le _⟩⟩)
      · k_steps
        all_goals subst hrest
        all_goals (try dsimp only)
        all_goals (try k_unfold)
        all_goals (try dsimp only)
        all_goals exact TurnEnd.intro2 (σ := DecC) (by assumption) (by assumption) (by first | exact .inl rfl | exact .inr rfl) (by exact own_led) (by exact ⟨⟨_, _, 0, 0, 0, i + 1, _, _, _, _⟩, mem_led, rfl, by kst_all, by kst_same, ⟨pn ++ [y], _, hpe y, ints_snoc hv, hdone _ (by simp [decStep, hy61]), (.inl rfl), by (rw [hln]; (try simp only [List.length_append, List.length_cons, List.length_nil]); omega), ok_snoc8 ho8 (by omega), by (rw [hln]; dsimp only; omega), Nat.zero_le _⟩⟩)
end
end
section
open PySem.Builtin
theorem findBad (ys : List Nat) (h : ∀ y ∈ ys, y < 128) : ((ys.toArray).findIdx? _codecs.asciiCodec.bad) = none := by
  rw [Array.findIdx?_eq_none_iff]
  intro y hy
  have := h y (by simpa using hy)
  show decide (y ≥ 128) = false
  simp; omega
theorem fold_ascii : ∀ (ys : List Nat) (acc : Array UInt8), ys.foldl (fun acc y => acc ++ (_codecs.asciiCodec.bytesOf y).toArray) acc = acc ++ (ys.map Nat.toUInt8).toArray
  | [], acc => by simp
  | y :: r, acc => by
    rw [List.foldl_cons, fold_ascii r]
    show acc ++ [y.toUInt8].toArray ++ (r.map Nat.toUInt8).toArray = _
    simp
theorem narrow_ascii (id : String) (self : Value) (ys : List Nat) (h : ∀ y ∈ ys, y < 128) (hl : ys.length ≤ 100000) : _codecs.encodeNarrow id _codecs.asciiCodec none self (mk ys) = pure (bA ys) := by
  have hbA : bA ys = (ys.map Nat.toUInt8).toArray := by
    simp [bA, byteArr, iN]
  rw [hbA]
  unfold _codecs.encodeNarrow
  simp only [Std.Legacy.Range.forIn_eq_forIn_range']
  have hsz : (mk ys).length = ys.length := mk_length ys
  cases ys with
  | nil => rfl
  | cons y r =>
    have hb : _codecs.asciiCodec.bad y = false := by
      have := h y (List.mem_cons_self ..)
      show decide (y ≥ 128) = false
      simp; omega
    rw [hsz]
    have hr : ([0:(y :: r).length] : Std.Legacy.Range).size = r.length + 1 := by simp [Std.Legacy.Range.size]
    simp only [hr]
    rw [List.range'_succ, List.forIn_cons]
    have hx0 : (mk (y :: r)).cps[0]? = some y := by simp [mk]
    have hext : (mk (y :: r)).cps.extract 0 (mk (y :: r)).cps.size = (y :: r).toArray := by simp [mk]
    have hfind := findBad (y :: r) h
    have hsl : ¬ ((#[] : Array UInt8).size > sizeLine) := by decide
    have hfold : Array.foldl (fun acc y => acc ++ (_codecs.asciiCodec.bytesOf y).toArray) #[] ((y :: r).toArray.extract 0 (y :: r).toArray.size) = ((y :: r).map Nat.toUInt8).toArray := by
      rw [Array.extract_size, List.foldl_toArray, fold_ascii]; simp
    have hsl2 : ¬ (((y :: r).map Nat.toUInt8).toArray.size > sizeLine) := by
      rw [sizeLine_eq]; simp at hl ⊢; omega
    have hx1 : (mk (y :: r)).cps[0 + (y :: r).toArray.size]? = none := by simp [mk]
    simp only [hsl, if_false, hx0, hext, hfind, Option.getD_none, hb, Bool.not_false, if_true, hfold, pure_bind]
    cases r with
    | nil => rfl
    | cons z r' =>
      rw [show (z :: r').length = r'.length + 1 from rfl, List.range'_succ, List.forIn_cons]
      simp only [hsl2, if_false, hx1]
      rfl
theorem bA_eq (ys : List Nat) : bA ys = (ys.map Nat.toUInt8).toArray := by simp [bA, byteArr, iN]
theorem loop_pure (ys : List Nat) (st : _codecs.Faults) (f : Nat → Nat × Array Nat × _codecs.Faults → Sem (ForInStep (Nat × Array Nat × _codecs.Faults)))
    (hf : ∀ x p, p < ys.length → f x (p, (ys.take p).toArray, st) = pure (.yield (p + 1, (ys.take (p + 1)).toArray, st))) :
    ∀ (n a p : Nat), p + n = ys.length → forIn (List.range' a n) (p, (ys.take p).toArray, st) f = pure (ys.length, ys.toArray, st)
  | 0, a, p, e => by
    have : p = ys.length := by omega
    subst this
    rw [List.take_length]; rfl
  | n + 1, a, p, e => by
    rw [List.range'_succ, List.forIn_cons, hf a p (by omega)]
    exact loop_pure ys st f hf n (a + 1) (p + 1) (by omega)
theorem run_ascii (id : String) (ys : List Nat) (h : ∀ y ∈ ys, y < 128) (hl : ys.length ≤ 100000) : _codecs.runDecoder id _codecs.asciiDecoder none true (bA ys) 0 [] = pure (ys.toArray, ys.length) := by
  rw [bA_eq]
  unfold _codecs.runDecoder
  simp only [Std.Legacy.Range.forIn_eq_forIn_range']
  have hs : ([:(List.map Nat.toUInt8 ys).toArray.size] : Std.Legacy.Range).size = ys.length := by simp [Std.Legacy.Range.size]
  rw [hs]
  have hstart : (#[] : Array Nat) = (ys.take 0).toArray := by simp
  rw [hstart, loop_pure ys _ _ (fun x p hp => ?_) ys.length 0 0 (by omega)]
  · rfl
  · have h1 : ¬ ((ys.take p).toArray.size > sizeLine) := by rw [sizeLine_eq]; simp; omega
    have h2 : ¬ (p ≥ (List.map Nat.toUInt8 ys).toArray.size) := by simp; omega
    have hy := h ys[p] (List.getElem_mem hp)
    have h3 : _codecs.asciiDecoder.find true (List.map Nat.toUInt8 ys).toArray p = .text [ys[p]] (p + 1) := by
      have e : (((List.map Nat.toUInt8 ys).toArray.getD p 0).toNat) = ys[p] := by
        simp [hp]; omega
      show (if (((List.map Nat.toUInt8 ys).toArray.getD p 0).toNat) < 128 then _codecs.Found.char (((List.map Nat.toUInt8 ys).toArray.getD p 0).toNat) (p + 1) else _) = _
      rw [e, if_pos hy]; rfl
    simp only [h1, if_false, h2, h3]
    have h4 : (ys.take p).toArray ++ [ys[p]].toArray = (ys.take (p + 1)).toArray := by
      rw [List.take_add_one, List.getElem?_eq_getElem hp]; simp
    rw [h4]
open PySem.Builtin._codecs in
theorem encRoad_ascii (id : String) (self : Value) (x : Str) : encodeRoad id self x (Str.ofString "ascii") none = (do mkBytes (← encodeNarrow id asciiCodec none self x)) := by
  kernel_rfl
open PySem.Builtin._codecs in
theorem decRoad_ascii (id : String) (b : Array UInt8) : decodeRoad id b (Str.ofString "ascii") none [] = (runDecoder id asciiDecoder none true b 0 [] >>= fun r => mkStr ⟨r.1⟩) := by
  kernel_rfl
theorem encode_entry (x : Str) (t u : Tok) : Builtin.«str.encode» ⟨[.str x t, .str (Str.ofString "ascii") u], []⟩ = (do ret (← Builtin._codecs.encodeRoad "str.encode" (.str x t) x (Str.ofString "ascii") none)) := by kernel_rfl
theorem decode_entry (c : UInt8) (cs : List UInt8) (t u : Tok) : Builtin.«bytes.decode» ⟨[.bytes (c :: cs).toArray t, .str (Str.ofString "ascii") u], []⟩ = (mkStr (Str.ofString "utf-8") >>= fun _ => mkStr (Str.ofString "ascii") >>= fun e => mkStr (Str.ofString "bytes.decode") >>= fun d =>
    call (.builtin "_codecs.decode.text") [.bytes (c :: cs).toArray t, e, .none, d] >>= fun v => ret v) := by kernel_rfl
theorem args_decode_2 (a b : Value) : argsOk "bytes.decode" ⟨[a, b], []⟩ := by
  unfold argsOk; kernel_rfl
theorem bA_size (ys : List Nat) : (bA ys).size = ys.length := by rw [bA_eq]; simp
theorem mkBytes_any {M : Model} {A : Around} {E : Value → Shared → Prop} {s : Shared} {b : Array UInt8} {Q : Value → Shared → Prop} (hx : b.size ≤ sizeLine) (h : Q (.bytes b s.toks) { s with toks := s.toks + 1 }) : wpAny M A (mkBytes b) Q E s := by
  unfold mkBytes
  rw [if_neg (Nat.not_lt.mpr hx)]
  exact fun _ _ _ => h
theorem meets_encode {ys : List Nat} {t u : Tok} (h : ∀ y ∈ ys, y < 128) (hl : ys.length ≤ 100000) : Meets (Builtin.«str.encode» ⟨[.str (mk ys) t, .str (Str.ofString "ascii") u], []⟩) (fun _ R s => R (.ok (.ret (.bytes (bA ys) s.toks))) { s with toks := s.toks + 1 }) := by
  refine .of_wp fun prog w A R s hS => ?_
  rw [encode_entry, encRoad_ascii, narrow_ascii _ _ ys h hl]
  refine wpAny_bind (wpAny_bind (wpAny_pure (mkBytes_any ?_ ?_)))
  · rw [bA_size, sizeLine_eq]; omega
  · exact wpAny_pure ⟨_, rfl, hS⟩
theorem meets_text {ys : List Nat} {t t1 t2 : Tok} {d : Str} (h : ∀ y ∈ ys, y < 128) (hl : ys.length ≤ 100000) :
    Meets (Builtin.«_codecs.decode.text» ⟨[.bytes (bA ys) t, .str (Str.ofString "ascii") t1, .none, .str d t2], []⟩) (fun _ R s => R (.ok (.ret (.str (mk ys) s.toks))) { s with toks := s.toks + 1 }) := by
  refine .of_wp fun prog w A R s hS => ?_
  show wpAny _ _ (Builtin.Bytes.bytesLike _ (.bytes (bA ys) t) >>= fun r => _) _ _ s
  refine wpAny_bind (wpAny_of_eq KBd.like_eq ?_)
  refine wpAny_bind (wpAny_of_eq KBd.held_eq ?_)
  show wpAny _ _ (Builtin._codecs.decodeRoad _ (bA ys) (Str.ofString "ascii") none [] >>= fun v => _) _ _ s
  rw [decRoad_ascii, run_ascii _ ys h hl]
  refine wpAny_bind (wpAny_bind (wpAny_pure ?_))
  exact wpAny_mkStr (wpAny_pure ⟨_, rfl, hS⟩) (by show (mk ys).length ≤ _; rw [mk_length, sizeLine_eq]; omega)
theorem decode_nil (t u : Tok) : Builtin.«bytes.decode» ⟨[.bytes (bA []) t, .str (Str.ofString "ascii") u], []⟩ = (rule "bytes.decode.empty" >>= fun _ => retStr Str.empty) := by kernel_rfl
theorem meets_decode {ys : List Nat} {t u : Tok} (h : ∀ y ∈ ys, y < 128) (hl : ys.length ≤ 100000) :
    Meets (Builtin.«bytes.decode» ⟨[.bytes (bA ys) t, .str (Str.ofString "ascii") u], []⟩) (fun _ R s => ∀ t' k, R (.ok (.ret (.str (mk ys) t'))) { s with toks := k }) := by
  refine .of_wp fun prog w A R s hS => ?_
  cases ys with
  | nil =>
    rw [decode_nil]
    refine wpAny_bind (wpAny_rule ?_)
    exact wpAny_bind (wpAny_mkStr (wpAny_pure ⟨_, rfl, hS _ _⟩) (by decide))
  | cons y r =>
    have e : bA (y :: r) = (y.toUInt8 :: r.map Nat.toUInt8).toArray := bA_eq (y :: r)
    rw [e, decode_entry]
    refine wpAny_bind (wpAny_mkStr ?_ (by decide))
    refine wpAny_bind (wpAny_mkStr ?_ (by decide))
    refine wpAny_bind (wpAny_mkStr ?_ (by decide))
    rw [← e]
    exact wpAny_bind (call_function_meets KBd.kind_text KBd.plain_text KBd.entry_text (KBd.args_text _ _ _ _) (meets_text h hl) (wpAny_pure ⟨_, rfl, hS _ _⟩))
section
variable {prog : Program} {w : World} {A : Around} {E : Value → Shared → Prop} {s : Shared} {t u : Tok} {ys : List Nat} {Q : Value → Shared → Prop}
theorem encode_ascii {x y : Str} (hx : x = mk ys) (hy : y = Str.ofString "ascii") (h : ∀ y ∈ ys, y < 128) (hl : ys.length ≤ 100000) (hq : Q (.bytes (bA ys) s.toks) { s with toks := s.toks + 1 }) : wpAny (model prog w) A (call (.builtin "str.encode") [.str x t, .str y u]) Q E s := by
  subst hx hy
  exact call_meets F.slot_str_encode (typeIs_str _ _ _) F.entry_str_encode (F.args_str_encode_2 _ _) (meets_encode h hl) hq
theorem decode_ascii {y : Str} (hy : y = Str.ofString "ascii") (h : ∀ y ∈ ys, y < 128) (hl : ys.length ≤ 100000) (hq : ∀ t' k, Q (.str (mk ys) t') { s with toks := k }) : wpAny (model prog w) A (call (.builtin "bytes.decode") [.bytes (bA ys) t, .str y u]) Q E s := by
  subst hy
  exact call_meets FB.slot_bytes_decode (typeIs_bytes _ _ _) FB.entry_bytes_decode (args_decode_2 _ _) (meets_decode h hl) hq
theorem method_encode {M : Model} {x : Str} {pl : Sem Bool} {Q : Value × List Value → Shared → Prop} (h : Q (.builtin "str.encode", [.str x t]) s) : wpAny M A (getMethod (.str x t) (Str.ofString "encode") pl) Q E s := by
  with_reducible exact GM.of (.str x t) (typeIs_str _ _ _) F.slot_str_encode F.type_str_encode GM.noRef h
end
end
section
section


local macro_rules | `(tactic| walk_at "getMethod str") => `(tactic| with_reducible refine method_encode ?_)
local macro_rules | `(tactic| walk_at "call builtin:str.encode") => `(tactic| k_dflt (refine encode_ascii (by assumption) rfl (by assumption) (by omega) ?_))
theorem t_bfd (w : World) (mean : ExcName → Option Value) (mg mb : Str → Option Value) (x : Str) (t : Tok) (ys : List Nat) (hx : x = mk ys) (hl : ys.length ≤ 2000) (hy : ∀ y ∈ ys, y < 128) :
    Gives w mean mg mb 50 [.str x t] (fun t => .bytes (bA ys) t) 1 10 := by
  (try unfold Gives)
  unfold GivesK
  k_fill
  intro dp un gd cn cs a ccd cl outer A₀ base h₀ L m news s Q E B F X N T hk h1 hd hu hret
  refine wpAny_with_toks (n := 1) h1 ?_
  refine wpAny_call ?_

  k_dflt (refine' code_def (binds := [(Str.ofString "s", .str x t)]) ?k1 ?k2 ?k3 ?k4 ?k5 ?kA ?kF ?kK ?k6 ?k7 ?k8 ?k9 ?kB ?_ ?c2 ?c3 ?c4 ?c5; (case kA => exact rfl); (case kF => exact rfl); (case kK => assumption); (case k1 => k_asm); (case k2 => k_asm); (case k3 => k_asm); (case k4 => k_asm); (case k5 => k_asm); (case k6 => k_is); (case k7 => k_is); (case k8 => ktr_room); (case k9 => first | exact BindsTo.of_eq rfl | exact binds_K (by k_in) rfl (by k_is) rfl rfl rfl); (case c5 => decide); (case kB => exact locs rfl); (case c2 => exact rfl); (case c3 => exact rfl); (case c4 => exact rfl); k_whole)
  intro g' L' hh FG F' N' B' X' T'
  (try dsimp only)
  (try k_lift B')
  (try k_fold)
  k_steps
  exact give_val _ hret rfl (by assumption) (by assumption) (by assumption)
end
theorem bInts_bA (ys : List Nat) (h : ∀ y ∈ ys, y < 256) : KBw.bInts (bA ys) = iN ys := by
  rw [bA_eq, KBw.ints_list]
  show (ys.map Nat.toUInt8).map (fun c => (c.toNat : Int)) = ys.map fun n : Nat => (n : Int)
  rw [List.map_map]
  refine List.map_congr_left fun y hy => ?_
  have := h y hy
  show ((y.toUInt8.toNat : Nat) : Int) = (y : Int)
  simp; omega
section


local macro_rules | `(tactic| walk_at "my def") => `(tactic| exact t_bfd _ _ _ _ _ _ _ (by assumption) (by assumption) (by assumption))
local macro_rules | `(tactic| walk_at "my def") => `(tactic| exact t_a2b _ _ _ _ _ _ _ (bInts_bA _ (by assumption)) (by assumption) (by assumption) (by assumption) (by assumption) (by assumption))
theorem t_dec (w : World) (mean : ExcName → Option Value) (mg mb : Str → Option Value) (x : Str) (t : Tok) (ys : List Nat) (hx : x = mk ys) (hl : ys.length ≤ 2000) (hy : ∀ y ∈ ys, y < 128) (hok : ∀ y ∈ ys, y = 61 ∨ b64v y < 64) {outs : List Nat} {q ch pads : Nat} (hrun : decRun ys = (outs, q, ch, pads)) (hq : q ≠ 1) (hpad : q = 0 ∨ 4 ≤ q + pads) :
    Gives w mean mg mb 123 [.str x t] (fun t => .bytes (bA outs) t) 5 40 := by
  have hy8 : ∀ y ∈ ys, y < 256 := fun y h => Nat.lt_trans (hy y h) (by decide)
  (try unfold Gives)
  unfold GivesK
  k_fill
  intro dp un gd cn cs a ccd cl outer A₀ base h₀ L m news s Q E B F X N T hk h1 hd hu hret
  refine wpAny_with_toks (n := 1) h1 ?_
  refine wpAny_call ?_

  k_dflt (refine' code_def (binds := [(Str.ofString "s", .str x t), (Str.ofString "altchars", .none), (Str.ofString "validate", .bool false)]) ?k1 ?k2 ?k3 ?k4 ?k5 ?kA ?kF ?kK ?k6 ?k7 ?k8 ?k9 ?kB ?_ ?c2 ?c3 ?c4 ?c5; (case kA => exact rfl); (case kF => exact rfl); (case kK => assumption); (case k1 => k_asm); (case k2 => k_asm); (case k3 => k_asm); (case k4 => k_asm); (case k5 => k_asm); (case k6 => k_is); (case k7 => k_is); (case k8 => ktr_room); (case k9 => first | exact BindsTo.of_eq rfl | exact binds_K (by k_in) rfl (by k_is) rfl rfl rfl); (case c5 => decide); (case kB => exact locs rfl); (case c2 => exact rfl); (case c3 => exact rfl); (case c4 => exact rfl); k_whole)
  intro g' L' hh FG F' N' B' X' T'
  (try dsimp only)
  (try k_lift B')
  (try k_fold)
  k_steps
  exact give_val _ hret rfl (by assumption) (by assumption) (by assumption)
end
end
section
section

theorem r_andN {prog : Program} {w : World} {A : Around} {E : Value → Shared → Prop} {s : Shared} {a k : Nat} {j : Int} {t u : Tok} {Q : Value → Shared → Prop} (hj : j = (k : Int)) (h : Q (.int ((a &&& k : Nat) : Int) s.toks) { s with toks := s.toks + 1 }) : wpAny (model prog w) A (binaryOp .BitAnd (.int (a : Int) t) (.int j u)) Q E s := by
  subst hj
  refine and_int ?_
  have e : Builtin.bitAnd (a : Int) (k : Int) = ((a &&& k : Nat) : Int) := by
    rw [bitAnd_pp (by omega) (by omega), Int.toNat_natCast, Int.toNat_natCast]
  rw [e]; exact h
local macro_rules | `(tactic| walk_at "binaryOp BitAnd") => `(tactic| k_dflt (refine r_andN (k := 4095) rfl ?_))
theorem t_imode (w : World) (mean : ExcName → Option Value) (mg mb : Str → Option Value) (M : Nat) (t : Tok) :
    Gives w mean mg mb 130 [.int (M : Int) t] (fun t => .int ((M &&& 4095 : Nat) : Int) t) 1 8 := by
  (try unfold Gives)
  unfold GivesK
  k_fill
  intro dp un gd cn cs a ccd cl outer A₀ base h₀ L m news s Q E B F X N T hk h1 hd hu hret
  refine wpAny_with_toks (n := 1) h1 ?_
  refine wpAny_call ?_

  k_dflt (refine' code_def (binds := [(Str.ofString "mode", .int (M : Int) t)]) ?k1 ?k2 ?k3 ?k4 ?k5 ?kA ?kF ?kK ?k6 ?k7 ?k8 ?k9 ?kB ?_ ?c2 ?c3 ?c4 ?c5; (case kA => exact rfl); (case kF => exact rfl); (case kK => assumption); (case k1 => k_asm); (case k2 => k_asm); (case k3 => k_asm); (case k4 => k_asm); (case k5 => k_asm); (case k6 => k_is); (case k7 => k_is); (case k8 => ktr_room); (case k9 => first | exact BindsTo.of_eq rfl | exact binds_K (by k_in) rfl (by k_is) rfl rfl rfl); (case c5 => decide); (case kB => exact locs rfl); (case c2 => exact rfl); (case c3 => exact rfl); (case c4 => exact rfl); k_whole)
  intro g' L' hh FG F' N' B' X' T'
  (try dsimp only)
  (try k_lift B')
  (try k_fold)
  k_steps
  all_goals exact give_val _ hret rfl (by assumption) (by assumption) (by assumption)
local macro_rules | `(tactic| walk_at "binaryOp BitAnd") => `(tactic| k_dflt (refine r_andN (k := 61440) rfl ?_))
theorem t_ifmt (w : World) (mean : ExcName → Option Value) (mg mb : Str → Option Value) (M : Nat) (t : Tok) :
    Gives w mean mg mb 137 [.int (M : Int) t] (fun t => .int ((M &&& 61440 : Nat) : Int) t) 1 8 := by
  (try unfold Gives)
  unfold GivesK
  k_fill
  intro dp un gd cn cs a ccd cl outer A₀ base h₀ L m news s Q E B F X N T hk h1 hd hu hret
  refine wpAny_with_toks (n := 1) h1 ?_
  refine wpAny_call ?_

  k_dflt (refine' code_def (binds := [(Str.ofString "mode", .int (M : Int) t)]) ?k1 ?k2 ?k3 ?k4 ?k5 ?kA ?kF ?kK ?k6 ?k7 ?k8 ?k9 ?kB ?_ ?c2 ?c3 ?c4 ?c5; (case kA => exact rfl); (case kF => exact rfl); (case kK => assumption); (case k1 => k_asm); (case k2 => k_asm); (case k3 => k_asm); (case k4 => k_asm); (case k5 => k_asm); (case k6 => k_is); (case k7 => k_is); (case k8 => ktr_room); (case k9 => first | exact BindsTo.of_eq rfl | exact binds_K (by k_in) rfl (by k_is) rfl rfl rfl); (case c5 => decide); (case kB => exact locs rfl); (case c2 => exact rfl); (case c3 => exact rfl); (case c4 => exact rfl); k_whole)
  intro g' L' hh FG F' N' B' X' T'
  (try dsimp only)
  (try k_lift B')
  (try k_fold)
  k_steps
  all_goals exact give_val _ hret rfl (by assumption) (by assumption) (by assumption)
end
noncomputable def FM : List (List (Nat × Nat)) := [[(40960, 108), (49152, 115), (32768, 45), (24576, 98), (16384, 100), (8192, 99), (4096, 112)], [(256, 114)], [(128, 119)], [(2112, 115), (2048, 83), (64, 120)], [(32, 114)], [(16, 119)], [(1032, 115), (1024, 83), (8, 120)], [(4, 114)], [(2, 119)], [(513, 116), (512, 84), (1, 120)]]
inductive All2 {α β : Type} (R : α → β → Prop) : List α → List β → Prop
  | nil : All2 R [] []
  | cons {a b l k} : R a b → All2 R l k → All2 R (a :: l) (b :: k)
theorem All2.len {α β : Type} {R : α → β → Prop} {l : List α} {k : List β} (h : All2 R l k) : l.length = k.length := by
  induction h with
  | nil => rfl
  | cons _ _ ih => simp [ih]
noncomputable def RowAt (h : Heap) (a : Addr) (row : List (Nat × Nat)) : Prop := ∃ ps : List Addr, h.IsTuple a (ps.map Value.ref).toArray ∧ ps.length = row.length ∧ ∀ (j : Nat) (p : Addr) (r : Nat × Nat), ps[j]? = some p → row[j]? = some r → ∃ t u, h.IsTuple p #[.int (r.1 : Int) t, .str (mk [r.2]) u]
theorem rowAt {h : Heap} {a : Addr} {row : List (Nat × Nat)} (ps : List Addr) (h1 : h.IsTuple a (ps.map Value.ref).toArray) (h2 : All2 (fun (p : Addr) (r : Nat × Nat) => ∃ t u, h.IsTuple p #[.int (r.1 : Int) t, .str (mk [r.2]) u]) ps row) : RowAt h a row := by
  refine ⟨ps, h1, h2.len, ?_⟩
  clear h1
  induction h2 with
  | nil => intro j p r e; simp at e
  | cons x _ ih =>
    intro j p r e1 e2
    cases j with
    | zero => simp at e1 e2; subst e1 e2; exact x
    | succ j => exact ih j p r (by simpa using e1) (by simpa using e2)
theorem tab (w : World) (h₀ : Heap) (X : (hd.heap_39 w.params).In h₀) : ∃ ts : List Addr, h₀.IsTuple 170 (ts.map Value.ref).toArray ∧ ts.length = FM.length ∧ ∀ (i : Nat) (p : Addr) (r : List (Nat × Nat)), ts[i]? = some p → FM[i]? = some r → RowAt h₀ p r := by
  have h : All2 (RowAt h₀) [145, 147, 149, 153, 155, 157, 161, 163, 165, 169] FM := by
    refine .cons (rowAt [138, 139, 140, 141, 142, 143, 144] (tupK X (by k_is)) ?_) <| .cons (rowAt [146] (tupK X (by k_is)) ?_) <| .cons (rowAt [148] (tupK X (by k_is)) ?_) <| .cons (rowAt [150, 151, 152] (tupK X (by k_is)) ?_) <| .cons (rowAt [154] (tupK X (by k_is)) ?_) <| .cons (rowAt [156] (tupK X (by k_is)) ?_) <| .cons (rowAt [158, 159, 160] (tupK X (by k_is)) ?_) <| .cons (rowAt [162] (tupK X (by k_is)) ?_) <| .cons (rowAt [164] (tupK X (by k_is)) ?_) <| .cons (rowAt [166, 167, 168] (tupK X (by k_is)) ?_) <| .nil
    all_goals (repeat' (first | exact .nil | refine .cons ⟨_, _, tupK (l := [.int _ _, .str (mk [_]) _]) X (by k_is)⟩ ?_))
  refine ⟨_, tupK (l := [145, 147, 149, 153, 155, 157, 161, 163, 165, 169].map Value.ref) X (by k_is), rfl, ?_⟩
  generalize [145, 147, 149, 153, 155, 157, 161, 163, 165, 169] = ts at h
  generalize FM = rows at h
  induction h with
  | nil => intro j p r e; simp at e
  | cons x _ ih =>
    intro j p r e1 e2
    cases j with
    | zero => simp at e1 e2; subst e1 e2; exact x
    | succ j => exact ih j p r (by simpa using e1) (by simpa using e2)
end
section
noncomputable def pickR (z : Bool) (M : Nat) : List (Nat × Nat) → Nat
  | [] => if z then 63 else 45
  | r :: l => if (M &&& (if z then 61440 else r.1)) = r.1 then r.2 else pickR z M l
noncomputable def permAt (M i : Nat) : Nat := pickR (i == 0) M (FM.getD i [])
noncomputable def permL (M : Nat) : List Nat := (List.range 10).map (permAt M)
noncomputable def ones (l : List Nat) : List Str := l.map fun c => mk [c]
theorem strs_snoc {x : Str} {t : Tok} : ∀ {vs : List Value} {ss : List Str}, StrsAre vs ss → StrsAre (vs ++ [.str x t]) (ss ++ [x])
  | _, _, .nil => .cons _ _ .nil
  | _, _, .cons _ _ h => .cons _ _ (strs_snoc h)
theorem joinE_mk (ls : List (List Nat)) : Txt.join (Str.ofString "") (ls.map mk) = mk ls.flatten := by
  show Builtin.Str.glued _ _ = _
  rw [StrLaws.glued_eq_join]
  have e : Str.ofString "" = mk [] := by decide +kernel
  rw [e]
  induction ls with
  | nil => rfl
  | cons a l ih =>
    cases l with
    | nil => show mk a = _; simp
    | cons b l =>
      show mk a ++ mk [] ++ Str.join (mk []) ((b :: l).map mk) = _
      rw [ih, mk_append, mk_append]; simp
theorem join_ones (l : List Nat) : Txt.join (Str.ofString "") (ones l) = mk l := by
  have h := joinE_mk (l.map fun c => [c])
  rw [List.map_map] at h
  rw [show ones l = l.map (mk ∘ fun c => [c]) from rfl, h]
  congr 1
  clear h
  induction l with
  | nil => rfl
  | cons a l ih => simp [ih]
theorem sum_ones (l : List Nat) : ((ones l).map (·.length)).sum = l.length := by
  induction l with
  | nil => rfl
  | cons a l ih => simp only [ones, List.map_cons, List.sum_cons, List.length_cons, mk_length, List.length_nil] at ih ⊢; omega
theorem For_genF {prog : Program} {w : World} {A : Around} {E : Value → Shared → Prop} {s : Shared} {env : Env} {h₀ : Heap} {target : Expr} {body orelse : List Stmt} {Q : Flow → Shared → Prop} {iter : Expr} {pos : Pos} {m : Str → Option Value} (F : Fr h₀ env.locals s.heap m)
    (h : wpAny (model prog w) A (eval iter env) (fun xv s₁ => wpAny (model prog w) A (pyIter xv) (fun it s₂ => LoopG prog w A h₀ env target body orelse Q E it s₂) E s₁) E s)
    (hs : ∀ x, foldedSetIterable iter env x = pure x) (hE : PassesOwn (model prog w) A env E) :
    wpAny (model prog w) A (exec (.For target iter body orelse pos) env) Q E s := For_gen h hs hE
theorem mem_led2 {α : Type} {x : α} {news own own2 : List α} : ∀ p ∈ x :: news, p ∈ x :: (news ++ own ++ own2) := by rw [List.append_assoc]; exact mem_led
theorem own_led2 {α : Type} {x : α} {news own own2 : List α} : ∀ p ∈ own, p ∈ x :: (news ++ own ++ own2) := fun _ hp => .tail _ (List.mem_append_left _ (List.mem_append_right _ hp))
theorem r_andV {prog : Program} {w : World} {A : Around} {E : Value → Shared → Prop} {s : Shared} {a k v : Nat} {j : Int} {t u : Tok} {Q : Value → Shared → Prop} (hj : j = (k : Int)) (hv : a &&& k = v) (h : Q (.int (v : Int) s.toks) { s with toks := s.toks + 1 }) : wpAny (model prog w) A (binaryOp .BitAnd (.int (a : Int) t) (.int j u)) Q E s := by
  subst hv; exact r_andN hj h
set_option genInjectivity false in
set_option genSizeOf false in
set_option genSizeOfSpec false in
structure FmC where
  vs : List Value
  ep : Nat
noncomputable def FmP (M i : Nat) (c : FmC) : Prop := StrsAre c.vs (ones ((List.range i).map (permAt M))) ∧ c.vs.length = i
section


local macro_rules | `(tactic| walk_at "ite") => `(tactic| walk_at "my ite")

local macro_rules | `(tactic| walk_at "my def") => `(tactic| exact t_ifmt _ _ _ _ _ _)
local macro_rules | `(tactic| walk_at "exec For Tuple Call") => `(tactic| k_dflt (refine' For_genF (F := ?F) ?a ?b ?c; (case F => assumption); (case b => (intro _; rfl)); (case c => passes_own)))
local macro_rules | `(tactic| walk_at "exec For Tuple Call cons nil") => `(tactic| k_dflt (refine' For_genF (F := ?F) ?a ?b ?c; (case F => assumption); (case b => (intro _; rfl)); (case c => passes_own)))
local macro_rules | `(tactic| walk_at "exec For Tuple Name") => `(tactic| k_dflt (refine' For_genF (F := ?F) ?a ?b ?c; (case F => assumption); (case b => (intro _; rfl)); (case c => passes_own)))
local macro_rules | `(tactic| walk_at "exec For Tuple Name cons nil") => `(tactic| k_dflt (refine' For_genF (F := ?F) ?a ?b ?c; (case F => assumption); (case b => (intro _; rfl)); (case c => passes_own)))
local macro_rules | `(tactic| walk_at "call type:enumerate") => `(tactic| (with_reducible refine stop_of ?_))
local macro_rules | `(tactic| walk_at "binaryOp BitAnd int int") => `(tactic| k_dflt (refine r_andV rfl (by assumption) ?_))
local macro_rules | `(tactic| walk_at "call builtin:list.append") => `(tactic| k_dflt (refine append_hd (by assumption) (by assumption) (by assumption) (by first | omega | (simp only [List.length_append, List.length_cons, List.length_nil]; omega)) ?_; intro h' F' N'))
local macro_rules | `(tactic| walk_at "call builtin:str.join") => `(tactic| k_dflt (refine join_list (News.isList (by assumption) (by k_mem)) (by assumption) (by assumption) ?_; intro t5 k5))
theorem t_filemode (w : World) (mean : ExcName → Option Value) (mg mb : Str → Option Value) (M : Nat) (t : Tok) :
    Gives w mean mg mb 177 [.int (M : Int) t] (fun t => .str (mk (permL M)) t) 3 30 := by
  (try unfold Gives)
  unfold GivesK
  k_fill
  intro dp un gd cn cs a ccd cl outer A₀ base h₀ L m news s Q E B F X N T hk h1 hd hu hret
  refine wpAny_with_toks (n := 1) h1 ?_
  refine wpAny_call ?_

  k_dflt (refine' code_def (binds := [(Str.ofString "mode", .int (M : Int) t)]) ?k1 ?k2 ?k3 ?k4 ?k5 ?kA ?kF ?kK ?k6 ?k7 ?k8 ?k9 ?kB ?_ ?c2 ?c3 ?c4 ?c5; (case kA => exact rfl); (case kF => exact rfl); (case kK => assumption); (case k1 => k_asm); (case k2 => k_asm); (case k3 => k_asm); (case k4 => k_asm); (case k5 => k_asm); (case k6 => k_is); (case k7 => k_is); (case k8 => ktr_room); (case k9 => first | exact BindsTo.of_eq rfl | exact binds_K (by k_in) rfl (by k_is) rfl rfl rfl); (case c5 => decide); (case kB => exact locs rfl); (case c2 => exact rfl); (case c3 => exact rfl); (case c4 => exact rfl); k_whole)
  intro g' L' hh FG F' N' B' X' T'
  (try dsimp only)
  (try k_lift B')
  (try k_fold)
  k_steps
  unfold Stop
  with_reducible rename Fr _ _ _ _ => hF
  with_reducible rename News _ _ _ _ => hN
  with_reducible rename (∀ (p : Addr × Obj), p ∈ news → p.fst < _) => l1
  have hX : (Mine.hd.heap_39 w.params).In _ := X'
  obtain ⟨ts, hts, htl, hrows⟩ := tab w _ hX
  refine' g_enumT (σ := FmC) (vs := ts.map Value.ref) (fun c => (_, listOf c.vs.toArray c.ep) :: news) (fun c => [(Str.ofString "mode", .int (M : Int) t), (Str.ofString "perm", .ref _)]) [Str.ofString "index", Str.ofString "table", Str.ofString "bit", Str.ofString "char", Str.ofString ""] (FmP M) ⟨[], 0⟩ ?hh ?ht ?hF ?hN ?h1 ?hk ?hp (by decide) ?turn ?done
  case hh => exact rfl
  case hF => exact hF
  case hN => exact hN
  case ht => exact hts
  case h1 => ((try dsimp only); omega)
  case hk => kst_all
  case hp => exact ⟨.nil, rfl⟩
  case done =>
    intro c u h tk hP hk9 F9 N9
    obtain ⟨vs, ep⟩ := c
    obtain ⟨hv, hlen⟩ := hP
    rw [List.length_map, htl] at hv
    have hv10 : StrsAre vs (ones (permL M)) := hv
    clear hv hlen
    dsimp only at hv10 F9 N9
    have hsum : ((ones (permL M)).map (·.length)).sum + (ones (permL M)).length * (Str.ofString "").length ≤ 16777216 := by
      rw [sum_ones]; simp [permL, ones]; decide +kernel
    (try k_fold)
    (try dsimp only [kstB] at F9)
    k_steps
    rw [join_ones]
    exact give_val _ hret rfl (by assumption) (cb_drop (by assumption) fun p hp => List.mem_cons_of_mem _ hp) (by assumption)
  case turn =>
    intro c i v u h tk own hi hv hP hk9 ho F9 N9
    obtain ⟨vs, ep⟩ := c
    obtain ⟨hstrs, hvl⟩ := hP
    obtain ⟨T9, ti, x, rfl, hx, hT9⟩ := hv
    dsimp only at hstrs hvl F9 N9
    have hi10 : i < 10 := by rw [List.length_map, htl] at hi; exact hi
    obtain ⟨p, hp, rfl⟩ : ∃ p, ts[i]? = some p ∧ x = .ref p := by
      rw [List.getElem?_map] at hx
      cases h : ts[i]? with
      | none => rw [h] at hx; cases hx
      | some p => rw [h] at hx; exact ⟨p, rfl, (Option.some.inj hx).symm⟩
    obtain ⟨r, hr, hrD⟩ : ∃ r, FM[i]? = some r ∧ FM.getD i [] = r := by
      have : i < FM.length := hi10
      exact ⟨FM[i], List.getElem?_eq_getElem this, by rw [List.getD_eq_getElem?_getD, List.getElem?_eq_getElem this]; rfl⟩
    obtain ⟨ps, hps, hpl, hrow⟩ := hrows i p r hp hr
    have hT8 : IsTup h T9 #[.int i ti, .ref p] := hT9
    have hoff : ∀ p ∈ news ++ own, p.1 ≠ _ := fun p hp => (List.mem_append.mp hp).elim (fun h => Nat.ne_of_lt (l1 p h)) (fun h => ho p h _ (List.Mem.head _))
    rw [List.cons_append] at N9
    generalize hrest : news ++ own = rest at hoff N9
    have hsn : ∀ (c : Nat) (t : Tok), c = permAt M i → StrsAre (vs ++ [.str (mk [c]) t]) (ones ((List.range (i + 1)).map (permAt M))) := by
      rintro c t rfl
      rw [List.range_succ, List.map_append]
      show StrsAre _ (List.map _ _)
      rw [List.map_append]
      exact strs_snoc hstrs
    have hrow2 : permAt M i = pickR (i == 0) M r := by rw [permAt, hrD]
    (try dsimp only [kstB] at F9)
    (try k_fold)
    k_steps
    unfold Stop
    with_reducible rename Fr _ _ _ _ => hF2
    with_reducible rename News _ _ _ _ => hN2
    refine' g_tuple (σ := Unit) (vs := ps.map Value.ref) (fun _ => (_, listOf vs.toArray ep) :: rest) (fun _ => [(Str.ofString "mode", .int (M : Int) t), (Str.ofString "perm", .ref _), (Str.ofString "index", .int i ti)]) [Str.ofString "bit", Str.ofString "char", Str.ofString ""] (fun j _ => permAt M i = pickR (i == 0) M (r.drop j)) () ?hh2 ?ht2 ?hF2 ?hN2 ?h12 ?hk2 ?hp2 (by decide) ?turn2 ?done2
    case hh2 => exact rfl
    case ht2 => exact hps
    case hF2 => exact hF2
    case hN2 => exact hN2
    case h12 => ((try dsimp only); omega)
    case hk2 => kst_all
    case hp2 => exact hrow2
    case done2 =>
      intro c u2 h2 tk2 hP2 hk2 F8 N8
      rw [List.length_map, hpl, List.drop_length] at hP2
      (try dsimp only [kstB] at F8)
      (try k_fold)
      have hcode : permAt M i = if i = 0 then 63 else 45 := by
        rw [hP2, pickR]; by_cases h : i = 0 <;> simp [h]
      by_cases hi0 : i = 0
      · rw [if_pos hi0] at hcode
        k_steps
        all_goals subst hrest
        all_goals (try dsimp only)
        all_goals (try k_unfold)
        all_goals (try dsimp only)
        all_goals exact TurnEnd.intro2 (σ := FmC) (by assumption) (by assumption) (by first | exact .inl rfl | exact .inr rfl) (by exact own_led) (by exact ⟨⟨_, _⟩, mem_led, rfl, by kst_all, by kst_same, ⟨hsn _ _ hcode.symm, by simp [hvl]⟩⟩)
      · rw [if_neg hi0] at hcode
        k_steps
        all_goals subst hrest
        all_goals (try dsimp only)
        all_goals (try k_unfold)
        all_goals (try dsimp only)
        all_goals exact TurnEnd.intro2 (σ := FmC) (by assumption) (by assumption) (by first | exact .inl rfl | exact .inr rfl) (by exact own_led) (by exact ⟨⟨_, _⟩, mem_led, rfl, by kst_all, by kst_same, ⟨hsn _ _ hcode.symm, by simp [hvl]⟩⟩)
    case turn2 =>
      intro c j v u2 h2 tk2 own2 hj hv2 hP2 hk2 ho2 F8 N8
      obtain ⟨q, hq, rfl⟩ : ∃ q, ps[j]? = some q ∧ v = .ref q := by
        rw [List.getElem?_map] at hv2
        cases h : ps[j]? with
        | none => rw [h] at hv2; cases hv2
        | some q => rw [h] at hv2; exact ⟨q, rfl, (Option.some.inj hv2).symm⟩
      rw [List.length_map, hpl] at hj
      obtain ⟨tb, tc, hT6⟩ := hrow j q r[j] hq (List.getElem?_eq_getElem hj)
      rw [List.drop_eq_getElem_cons hj] at hP2
      generalize r[j] = bc at hT6 hP2
      obtain ⟨b, ch⟩ := bc
      dsimp only at hT6 hP2
      have hT5 : IsTup h2 q #[.int (b : Int) tb, .str (mk [ch]) tc] := hT6.at fun o e => F8.keep q o e
      have hoff2 : ∀ p ∈ rest ++ own2, p.1 ≠ _ := fun p hp => (List.mem_append.mp hp).elim (fun h => hoff p h) (fun h => ho2 p h _ (List.Mem.head _))
      rw [List.cons_append] at N8
      generalize hrest2 : rest ++ own2 = rest2 at hoff2 N8
      rw [pickR] at hP2
      (try dsimp only [kstB] at F8)
      (try k_fold)
      by_cases hi0 : i = 0
      · by_cases hm : M &&& 61440 = b
        · have hcode : permAt M i = ch := by rw [hP2]; simp [hi0, hm]
          k_steps
          all_goals subst hrest2
          all_goals subst hrest
          all_goals (try dsimp only)
          all_goals (try k_unfold)
          all_goals (try dsimp only)
          all_goals (try dsimp only [GTurn])
          all_goals k_steps
          all_goals exact TurnEnd.intro2 (σ := FmC) (by assumption) (by assumption) (by first | exact .inl rfl | exact .inr rfl) (by exact own_led2) (by exact ⟨⟨_, _⟩, mem_led2, rfl, by kst_all, by kst_same, ⟨hsn _ _ hcode.symm, by simp [hvl]⟩⟩)
        · have hcode : permAt M i = pickR (i == 0) M (r.drop (j + 1)) := by rw [hP2]; simp [hi0, hm]
          k_steps
          all_goals subst hrest2
          all_goals (try dsimp only)
          all_goals (try k_unfold)
          all_goals (try dsimp only)
          all_goals exact TurnEnd.intro2 (σ := Unit) (by assumption) (by assumption) (by first | exact .inl rfl | exact .inr rfl) (by exact own_led) (by exact ⟨(), mem_led, rfl, by kst_all, by kst_same, hcode⟩)
      · have hi0' : (i == 0) = false := by simp [hi0]
        obtain ⟨mv, hmv⟩ : ∃ v, M &&& b = v := ⟨_, rfl⟩
        by_cases hm : mv = b
        · have hcode : permAt M i = ch := by rw [hP2]; simp [hi0, hmv, hm]
          k_steps
          all_goals subst hrest2
          all_goals subst hrest
          all_goals (try dsimp only)
          all_goals (try k_unfold)
          all_goals (try dsimp only)
          all_goals (try dsimp only [GTurn])
          all_goals k_steps
          all_goals exact TurnEnd.intro2 (σ := FmC) (by assumption) (by assumption) (by first | exact .inl rfl | exact .inr rfl) (by exact own_led2) (by exact ⟨⟨_, _⟩, mem_led2, rfl, by kst_all, by kst_same, ⟨hsn _ _ hcode.symm, by simp [hvl]⟩⟩)
        · have hcode : permAt M i = pickR (i == 0) M (r.drop (j + 1)) := by rw [hP2]; simp [hi0, hmv, hm]
          k_steps
          all_goals subst hrest2
          all_goals (try dsimp only)
          all_goals (try k_unfold)
          all_goals (try dsimp only)
          all_goals exact TurnEnd.intro2 (σ := Unit) (by assumption) (by assumption) (by first | exact .inl rfl | exact .inr rfl) (by exact own_led) (by exact ⟨(), mem_led, rfl, by kst_all, by kst_same, hcode⟩)
end
end
section
theorem b64vc : ∀ i, i < 64 → b64v (b64c i) = i := by decide
theorem b64c61 : ∀ i, i < 64 → b64c i ≠ 61 := by decide
theorem dec_char {es : List Nat} {outs : List Nat} {q lc : Nat} (h : decRun es = (outs, q, lc, 0)) {i : Nat} (hi : i < 64) :
    decRun (es ++ [b64c i]) = (if q = 0 then (outs, 1, i, 0) else if q = 1 then (outs ++ [lc * 4 + i / 16], 2, i % 16, 0) else if q = 2 then (outs ++ [lc * 16 + i / 4], 3, i % 4, 0) else (outs ++ [lc * 64 + i], 0, 0, 0)) := by
  rw [dec_snoc, h, decStep, if_neg (b64c61 i hi), b64vc i hi]
noncomputable def EncI (xs : List Nat) : Prop := ∃ outs q lc, decRun (encRun xs).1 = (outs, q, lc, 0) ∧
  (((encRun xs).2.1 = 0 ∧ q = 0 ∧ outs = xs) ∨ (∃ b, (encRun xs).2.1 = 2 ∧ q = 1 ∧ b < 256 ∧ (encRun xs).2.2 % 256 = b ∧ xs = outs ++ [b] ∧ lc = b / 4) ∨ (∃ b, (encRun xs).2.1 = 4 ∧ q = 2 ∧ b < 256 ∧ (encRun xs).2.2 % 256 = b ∧ xs = outs ++ [b] ∧ lc = b / 16))
theorem encI_snoc {xs : List Nat} (h : EncI xs) {b : Nat} (hb : b < 256) : EncI (xs ++ [b]) := by
  obtain ⟨outs, q, lc, hd, hc⟩ := h
  unfold EncI
  rw [enc_snoc]
  generalize encRun xs = st at hd hc
  obtain ⟨es, bits, ch⟩ := st
  dsimp only at hd hc
  rcases hc with ⟨rfl, rfl, rfl⟩ | ⟨b0, rfl, rfl, hb0, hch, hxs, hlc⟩ | ⟨b0, rfl, rfl, hb0, hch, hxs, hlc⟩
  · have e : encStep (es, 0, ch) b = (es ++ [b64c ((ch * 256 + b) % 65536 / 4 % 64)], 2, (ch * 256 + b) % 65536) := rfl
    rw [e]
    exact ⟨_, _, _, dec_char hd (Nat.mod_lt _ (by decide)), .inr (.inl ⟨b, rfl, rfl, hb, (by show (ch * 256 + b) % 65536 % 256 = b; omega), rfl, by omega⟩)⟩
  · have e : encStep (es, 2, ch) b = (es ++ [b64c ((ch * 256 + b) % 65536 / 16 % 64)], 4, (ch * 256 + b) % 65536) := rfl
    rw [e]
    refine ⟨_, _, _, dec_char hd (Nat.mod_lt _ (by decide)), .inr (.inr ⟨b, rfl, rfl, hb, (by show (ch * 256 + b) % 65536 % 256 = b; omega), ?_, by omega⟩)⟩
    have e2 : lc * 4 + (ch * 256 + b) % 65536 / 16 % 64 / 16 = b0 := by omega
    rw [hxs, e2]
  · have e : encStep (es, 4, ch) b = (es ++ [b64c ((ch * 256 + b) % 65536 / 64 % 64), b64c ((ch * 256 + b) % 65536 % 64)], 0, (ch * 256 + b) % 65536) := rfl
    rw [e]
    have h1 : decRun (es ++ [b64c ((ch * 256 + b) % 65536 / 64 % 64)]) = (outs ++ [lc * 16 + (ch * 256 + b) % 65536 / 64 % 64 / 4], 3, (ch * 256 + b) % 65536 / 64 % 64 % 4, 0) := dec_char hd (Nat.mod_lt _ (by decide))
    have h2 : decRun (es ++ [b64c ((ch * 256 + b) % 65536 / 64 % 64)] ++ [b64c ((ch * 256 + b) % 65536 % 64)]) = (outs ++ [lc * 16 + (ch * 256 + b) % 65536 / 64 % 64 / 4] ++ [(ch * 256 + b) % 65536 / 64 % 64 % 4 * 64 + (ch * 256 + b) % 65536 % 64], 0, 0, 0) := dec_char h1 (Nat.mod_lt _ (by decide))
    rw [List.append_assoc] at h2
    refine ⟨_, _, _, h2, .inl ⟨rfl, rfl, ?_⟩⟩
    have e1 : lc * 16 + (ch * 256 + b) % 65536 / 64 % 64 / 4 = b0 := by omega
    have e2 : (ch * 256 + b) % 65536 / 64 % 64 % 4 * 64 + (ch * 256 + b) % 65536 % 64 = b := by omega
    rw [hxs, e1, e2]
theorem encI (xs : List Nat) (h : ∀ x ∈ xs, x < 256) : EncI xs := by
  have : ∀ n, ∀ xs : List Nat, xs.length = n → (∀ x ∈ xs, x < 256) → EncI xs := by
    intro n
    induction n with
    | zero => intro xs hl _; rw [List.length_eq_zero_iff.mp hl]; exact ⟨[], 0, 0, rfl, .inl ⟨rfl, rfl, rfl⟩⟩
    | succ n ih =>
      intro xs hl hx
      have hne : xs ≠ [] := by intro e; rw [e] at hl; cases hl
      rw [← List.dropLast_concat_getLast hne]
      refine encI_snoc (ih _ (by simp [hl]) fun x hm => hx x (List.dropLast_subset _ hm)) (hx _ (List.getLast_mem hne))
  exact this _ xs rfl h
theorem dec_pad {es : List Nat} {st : List Nat × Nat × Nat × Nat} (h : decRun es = st) : decRun (es ++ [61]) = (st.1, st.2.1, st.2.2.1, st.2.2.2 + 1) := by
  rw [dec_snoc, h]; rfl
theorem enc_dec (xs : List Nat) (h : ∀ x ∈ xs, x < 256) : ∃ q ch pads, decRun (encB xs) = (xs, q, ch, pads) ∧ q ≠ 1 ∧ (q = 0 ∨ 4 ≤ q + pads) := by
  obtain ⟨outs, q, lc, hd, hc⟩ := encI xs h
  unfold encB encEnd
  generalize encRun xs = st at hd hc
  obtain ⟨es, bits, ch⟩ := st
  dsimp only at hd hc ⊢
  rcases hc with ⟨rfl, rfl, rfl⟩ | ⟨b0, rfl, rfl, hb0, hch, hxs, hlc⟩ | ⟨b0, rfl, rfl, hb0, hch, hxs, hlc⟩
  · exact ⟨0, lc, 0, hd, by decide, .inl rfl⟩
  · have h1 := dec_char hd (i := ch % 4 * 16) (by omega)
    have h2 := dec_pad (dec_pad h1)
    simp only [List.append_assoc, List.cons_append, List.nil_append] at h2
    have e : lc * 4 + ch % 4 * 16 / 16 = b0 := by omega
    rw [if_pos rfl]
    have h3 : decRun (es ++ [b64c (ch % 4 * 16), 61, 61]) = (outs ++ [lc * 4 + ch % 4 * 16 / 16], 2, ch % 4 * 16 % 16, 2) := h2
    rw [e, ← hxs] at h3
    exact ⟨_, _, _, h3, by decide, .inr (by decide)⟩
  · have h1 := dec_char hd (i := ch % 16 * 4) (by omega)
    have h2 := dec_pad h1
    simp only [List.append_assoc, List.cons_append, List.nil_append] at h2
    have e : lc * 16 + ch % 16 * 4 / 4 = b0 := by omega
    rw [if_neg (by decide), if_pos rfl]
    have h3 : decRun (es ++ [b64c (ch % 16 * 4), 61]) = (outs ++ [lc * 16 + ch % 16 * 4 / 4], 3, ch % 16 * 4 % 4, 1) := h2
    rw [e, ← hxs] at h3
    exact ⟨_, _, _, h3, by decide, .inr (by decide)⟩
end
section
noncomputable def eC (c : Nat) : List Nat := if c = 38 then [38, 97, 109, 112, 59] else if c = 60 then [38, 108, 116, 59] else if c = 62 then [38, 103, 116, 59] else [c]
noncomputable def eA (c : Nat) : List Nat := if c = 34 then [38, 113, 117, 111, 116, 59] else if c = 13 then [38, 35, 49, 51, 59] else if c = 10 then [38, 35, 49, 48, 59] else if c = 9 then [38, 35, 48, 57, 59] else eC c
theorem repl_flat (c : Nat) (z : List Nat) (f : Nat → List Nat) (l : List Nat) : repl c z (l.flatMap f) = l.flatMap fun d => repl c z (f d) := by
  unfold repl; rw [List.flatMap_assoc]
theorem flat_congr {f g : Nat → List Nat} (h : ∀ d, f d = g d) (l : List Nat) : l.flatMap f = l.flatMap g := by rw [show f = g from funext h]
theorem escCL_eq (l : List Nat) : escCL l = l.flatMap eC := by
  unfold escCL
  rw [show repl 38 [38, 97, 109, 112, 59] l = l.flatMap (fun d => if d = 38 then [38, 97, 109, 112, 59] else [d]) from rfl, repl_flat, repl_flat]
  refine flat_congr (fun d => ?_) l
  unfold eC
  by_cases h1 : d = 38
  · subst h1; decide
  · rw [if_neg h1, if_neg h1]
    by_cases h2 : d = 60
    · subst h2; decide
    · rw [if_neg h2]
      have : repl 60 [38, 108, 116, 59] [d] = [d] := by simp [repl, h2]
      rw [this]
      simp [repl]
theorem escAL_eq (l : List Nat) : escAL l = l.flatMap eA := by
  unfold escAL
  rw [escCL_eq, repl_flat, repl_flat, repl_flat, repl_flat]
  refine flat_congr (fun d => ?_) l
  unfold eA
  by_cases h1 : d = 34
  · subst h1; decide
  by_cases h2 : d = 13
  · subst h2; decide
  by_cases h3 : d = 10
  · subst h3; decide
  by_cases h4 : d = 9
  · subst h4; decide
  rw [if_neg h1, if_neg h2, if_neg h3, if_neg h4]
  unfold eC
  by_cases h5 : d = 38
  · subst h5; decide
  by_cases h6 : d = 60
  · subst h6; decide
  by_cases h7 : d = 62
  · subst h7; decide
  rw [if_neg h5, if_neg h6, if_neg h7]
  simp [repl, h1, h2, h3, h4]
theorem escAL_app (a b : List Nat) : escAL (a ++ b) = escAL a ++ escAL b := by rw [escAL_eq, escAL_eq, escAL_eq, List.flatMap_append]
theorem escAL_flat (ls : List (List Nat)) : escAL ls.flatten = (ls.map escAL).flatten := by
  induction ls with
  | nil => rfl
  | cons a l ih => rw [List.flatten_cons, escAL_app, ih]; rfl
theorem escCL_id (l : List Nat) (h : ∀ c ∈ l, c ≠ 38 ∧ c ≠ 60 ∧ c ≠ 62) : escCL l = l := by
  rw [escCL_eq]
  induction l with
  | nil => rfl
  | cons a l ih =>
    have := h a (List.mem_cons_self ..)
    rw [List.flatMap_cons, ih fun c hc => h c (List.mem_cons_of_mem _ hc)]
    simp [eC, this.1, this.2.1, this.2.2]
end
section
theorem step_pre (pre : List Nat) (st : List Nat × Nat × Nat) (b : Nat) : encStep (pre ++ st.1, st.2.1, st.2.2) b = (pre ++ (encStep st b).1, (encStep st b).2.1, (encStep st b).2.2) := by
  unfold encStep
  dsimp only
  split
  · simp
  · split <;> simp
theorem run_alike (pre : List Nat) : ∀ (xs : List Nat) (es : List Nat) (bits c d : Nat), c % 256 = d % 256 ∨ bits = 0 →
    ∃ c', xs.foldl encStep (pre ++ es, bits, c) = (pre ++ (xs.foldl encStep (es, bits, d)).1, (xs.foldl encStep (es, bits, d)).2.1, c') ∧ (c' % 256 = (xs.foldl encStep (es, bits, d)).2.2 % 256 ∨ (xs.foldl encStep (es, bits, d)).2.1 = 0)
  | [], es, bits, c, d, h => ⟨c, rfl, h⟩
  | b :: xs, es, bits, c, d, h => by
    rw [List.foldl_cons, List.foldl_cons]
    by_cases h0 : bits = 0
    · subst h0
      have e1 : encStep (pre ++ es, 0, c) b = (pre ++ (es ++ [b64c ((d * 256 + b) % 65536 / 4 % 64)]), 2, (c * 256 + b) % 65536) := by
        show (pre ++ es ++ [b64c ((c * 256 + b) % 65536 / 4 % 64)], 2, (c * 256 + b) % 65536) = _
        rw [List.append_assoc, show (c * 256 + b) % 65536 / 4 % 64 = (d * 256 + b) % 65536 / 4 % 64 by omega]
      have e2 : encStep (es, 0, d) b = (es ++ [b64c ((d * 256 + b) % 65536 / 4 % 64)], 2, (d * 256 + b) % 65536) := rfl
      rw [e1, e2]
      exact run_alike pre xs _ _ _ _ (.inl (by omega))
    · have hcd : c % 256 = d % 256 := h.resolve_right h0
      have e : (c * 256 + b) % 65536 = (d * 256 + b) % 65536 := by omega
      have e1 : encStep (pre ++ es, bits, c) b = (pre ++ (encStep (es, bits, d) b).1, (encStep (es, bits, d) b).2.1, (encStep (es, bits, d) b).2.2) := by
        rw [← step_pre]
        unfold encStep
        dsimp only
        rw [e]
      rw [e1]
      exact run_alike pre xs _ _ _ _ (.inl rfl)
theorem enc3 (xs : List Nat) : encB ([97, 38, 98] ++ xs) = encB [97, 38, 98] ++ encB xs := by
  have e0 : encB [97, 38, 98] = (encRun [97, 38, 98]).1 := by decide
  have er : encRun [97, 38, 98] = ((encRun [97, 38, 98]).1 ++ [], 0, (encRun [97, 38, 98]).2.2) := by decide
  obtain ⟨c', h1, h2⟩ := run_alike (encRun [97, 38, 98]).1 xs [] 0 (encRun [97, 38, 98]).2.2 0 (.inr rfl)
  rw [← er] at h1
  have e1 : encRun ([97, 38, 98] ++ xs) = xs.foldl encStep (encRun [97, 38, 98]) := by unfold encRun; rw [List.foldl_append]
  unfold encB at e0 ⊢
  rw [e1, h1, e0]
  show encEnd (_, _, c') = _ ++ encEnd (xs.foldl encStep ([], 0, 0))
  generalize xs.foldl encStep ([], 0, 0) = st at h2
  obtain ⟨es, bits, ch⟩ := st
  dsimp only at h2 ⊢
  unfold encEnd
  dsimp only
  by_cases hb2 : bits = 2
  · subst hb2
    have : c' % 256 = ch % 256 := h2.resolve_right (by decide)
    rw [if_pos rfl, if_pos rfl, show c' % 4 = ch % 4 by omega, List.append_assoc]
  · rw [if_neg hb2, if_neg hb2]
    by_cases hb4 : bits = 4
    · subst hb4
      have : c' % 256 = ch % 256 := h2.resolve_right (by decide)
      rw [if_pos rfl, if_pos rfl, show c' % 16 = ch % 16 by omega, List.append_assoc]
    · rw [if_neg hb4, if_neg hb4]
noncomputable def B64S (c : Nat) : Prop := c < 128 ∧ (c = 61 ∨ b64v c < 64) ∧ c ≠ 34 ∧ c ≠ 38 ∧ c ≠ 60 ∧ c ≠ 62
theorem b64S : ∀ i, i < 64 → b64c i < 128 ∧ (b64c i = 61 ∨ b64v (b64c i) < 64) ∧ b64c i ≠ 34 ∧ b64c i ≠ 38 ∧ b64c i ≠ 60 ∧ b64c i ≠ 62 := by decide
theorem b64S61 : B64S 61 := by unfold B64S; decide
theorem run_signs : ∀ (xs : List Nat) (st : List Nat × Nat × Nat), (∀ c ∈ st.1, B64S c) → (∀ c ∈ (xs.foldl encStep st).1, B64S c) ∧ (xs.foldl encStep st).1.length ≤ st.1.length + 2 * xs.length
  | [], st, h => ⟨h, Nat.le_refl _⟩
  | b :: xs, st, h => by
    rw [List.foldl_cons]
    have hs : (∀ c ∈ (encStep st b).1, B64S c) ∧ (encStep st b).1.length ≤ st.1.length + 2 := by
      unfold encStep
      dsimp only
      split
      · refine ⟨fun c hc => ?_, by simp⟩
        rcases List.mem_append.mp hc with hc | hc
        · exact h c hc
        · rw [List.mem_singleton.mp hc]; exact b64S _ (Nat.mod_lt _ (by decide))
      · split
        · refine ⟨fun c hc => ?_, by simp⟩
          rcases List.mem_append.mp hc with hc | hc
          · exact h c hc
          · rw [List.mem_singleton.mp hc]; exact b64S _ (Nat.mod_lt _ (by decide))
        · refine ⟨fun c hc => ?_, by simp⟩
          rcases List.mem_append.mp hc with hc | hc
          · exact h c hc
          · simp only [List.mem_cons, List.not_mem_nil, or_false] at hc
            rcases hc with rfl | rfl <;> exact b64S _ (Nat.mod_lt _ (by decide))
    have ih := run_signs xs _ hs.1
    exact ⟨ih.1, by have := ih.2; have := hs.2; rw [List.length_cons]; omega⟩
theorem enc_signs (xs : List Nat) : (∀ c ∈ encB xs, B64S c) ∧ (encB xs).length ≤ 2 * xs.length + 3 := by
  have h := run_signs xs ([], 0, 0) (fun _ h => nomatch h)
  unfold encB
  show (∀ c ∈ encEnd (xs.foldl encStep ([], 0, 0)), B64S c) ∧ (encEnd (xs.foldl encStep ([], 0, 0))).length ≤ _
  generalize xs.foldl encStep ([], 0, 0) = st at h
  obtain ⟨h1, h2⟩ := h
  simp only [List.length_nil] at h2
  unfold encEnd
  split
  · refine ⟨fun c hc => ?_, by simp; omega⟩
    rcases List.mem_append.mp hc with hc | hc
    · exact h1 c hc
    · simp only [List.mem_cons, List.not_mem_nil, or_false] at hc
      rcases hc with rfl | rfl | rfl
      · exact b64S _ (by omega)
      · exact b64S61
      · exact b64S61
  · split
    · refine ⟨fun c hc => ?_, by simp; omega⟩
      rcases List.mem_append.mp hc with hc | hc
      · exact h1 c hc
      · simp only [List.mem_cons, List.not_mem_nil, or_false] at hc
        rcases hc with rfl | rfl
        · exact b64S _ (by omega)
        · exact b64S61
    · exact ⟨h1, by omega⟩
end
section
section
variable {prog : Program} {w : World} {A : Around} {E : Value → Shared → Prop} {s : Shared} {env : Env} {h₀ : Heap} {target : Expr} {body orelse : List Stmt} {Q : Flow → Shared → Prop}
theorem g_list {σ : Type} {D : Addr} {vs : List Value} {n : Nat} {rest : List (Addr × Obj)} {m₀ : Str → Option Value} (Led : σ → List (Addr × Obj)) (ps : σ → List (Str × Value)) (stored : List Str) (PP : Nat → σ → Prop) (c₀ : σ)
    (hh : A.handled = none) (F : Fr h₀ env.locals s.heap m₀) (N0 : News h₀ env.locals s.heap ((D, listOf vs.toArray n) :: rest)) (hsub : ∀ p ∈ Led c₀, p ∈ rest) (hDl : ∀ p ∈ Led c₀, p.1 ≠ D) (h1 : 1 ≤ s.toks) (hk : ∀ p ∈ ps c₀, m₀ p.1 = some p.2) (hp : PP 0 c₀) (hemp : stored.contains (Str.ofString "") = true)
    (turn : ∀ (c : σ) i v (u : Str → Option Value) h tk own, i < vs.length → vs[i]? = some v → PP i c → 1 ≤ tk → OwnOff own ((Led c₀).map (·.1)) →
      Fr h₀ env.locals h (kstB (fun z => if stored.contains z then u z else m₀ z) (ps c)) → News h₀ env.locals h (Led c ++ own) →
      wpAny (model prog w) A (assign target env v) (fun _ s₃ => wpAny (model prog w) A (execs body env) (GTurn h₀ env.locals Led ((Led c₀).map (·.1)) own ps stored m₀ (PP (i + 1)) Q { s with heap := h, toks := tk }) E s₃) E { s with heap := h, toks := tk })
    (done : ∀ (c : σ) (u : Str → Option Value) h tk, PP vs.length c → 1 ≤ tk → Fr h₀ env.locals h (kstB (fun z => if stored.contains z then u z else m₀ z) (ps c)) → News h₀ env.locals h (Led c) → wpAny (model prog w) A (execs orelse env) Q E { s with heap := h, toks := tk }) :
    wpAny (model prog w) A (pyIter (.ref D)) (fun it s₂ => LoopG prog w A h₀ env target body orelse Q E it s₂) E s := by
  have N : News h₀ env.locals s.heap (Led c₀) := fun p hp => N0 p (List.mem_cons_of_mem _ (hsub p hp))
  have hD := N0 (D, listOf vs.toArray n) (.head _)
  have hts : s.heap.IsList D vs.toArray := News.isList N0 (.head _)
  have hlt : D < s.heap.objs.size := Heap.lt_size hD.1
  refine wpAny_pyIter_list hts ?_
  refine g_sigma (s := { s with heap := s.heap.push { cls := .type "list_iterator", data := .fields #[.ref D, .int 0 0] } }) (P := fun i v _ => vs.toArray[i]? = some v) Led ps stored PP c₀ (KTurns.ofWalks (Walks.list hh s.heap.objs.size D (Nat.ne_of_lt hlt) vs.toArray) fun i v s Q E st q => letGo_listiter st.1 q) ?_ ?_ ?_ ?_ (F.push _) (fun p hp => ⟨Heap.get?_push_of_some _ (N p hp).1, (N p hp).2⟩) h1 hk hp hemp ?_ ?_
  · intro hm
    rcases List.mem_cons.mp hm with e | hm
    · exact absurd F.ns.lt (e ▸ Nat.lt_irrefl _)
    · exact hD.2.1 (List.mem_singleton.mp hm).symm
  · intro b hb
    rw [List.mem_singleton.mp hb]
    exact next_is_new F
  · exact ⟨⟨_, Heap.get?_push_size _ rfl, rfl, rfl⟩, hts.at fun o e => Heap.get?_push_of_some _ e⟩
  · intro p hp hm
    rcases List.mem_cons.mp hm with e | hm
    · exact absurd (Heap.lt_size (N p hp).1) (e ▸ Nat.lt_irrefl _)
    · exact hDl p hp (List.mem_singleton.mp hm)
  · intro c i v u h tk own hi hP
    exact turn c i v u h tk own (by simpa using hi) (by simpa using hP)
  · intro c u h tk hP
    exact done c u h tk (by simpa using hP)
end
end
section
set_option genInjectivity false in
set_option genSizeOf false in
set_option genSizeOfSpec false in
structure LawC where
  ns : List Value
  e1 : Nat
  ws : List Value
  e2 : Nat
  o1 : Obj
  o2 : Obj
noncomputable def LawP (i : Nat) (c : LawC) : Prop := ∃ nms : List (List Nat), StrsAre c.ns (nms.map mk) ∧ StrsAre c.ws (nms.map fun l => mk (escAL l)) ∧ nms.length = i ∧ (∀ l ∈ nms, l.length ≤ 6) ∧ (∃ v, c.o1.data = .cell v) ∧ (∃ v, c.o2.data = .cell v)
noncomputable def LawLed (W Nm c2 c1 : Addr) (c : LawC) : List (Addr × Obj) := [(W, listOf c.ws.toArray c.e2), (Nm, listOf c.ns.toArray c.e1), (c2, c.o2), (c1, c.o1)]
noncomputable def LawPs (W Nm : Addr) (_ : LawC) : List (Str × Value) := [(Str.ofString "names", .ref Nm), (Str.ofString "writings", .ref W)]
noncomputable def LawSt : List Str := [Str.ofString "rest", Str.ofString "name", Str.ofString "kind", Str.ofString "mode", Str.ofString "contents", Str.ofString "coded", Str.ofString "writing", Str.ofString "element", Str.ofString "rights", Str.ofString ""]
theorem ints_item : ∀ {vs : List Value} {ns : List Int}, IntsAre vs ns → ∀ (i : Nat) (v : Value), vs[i]? = some v → ∃ k t, v = .int k t ∧ ns[i]? = some k
  | _, _, .nil, i, v, e => by simp at e
  | _, _, .cons k t _, 0, v, e => by simp at e; exact ⟨k, t, e.symm, rfl⟩
  | _, _, .cons _ _ h, i + 1, v, e => by simpa using ints_item h i v (by simpa using e)
theorem ints_len : ∀ {vs : List Value} {ns : List Int}, IntsAre vs ns → vs.length = ns.length
  | _, _, .nil => rfl
  | _, _, .cons _ _ h => by simp [ints_len h]
section
variable {prog : Program} {w : World} {A : Around} {E : Value → Shared → Prop} {s : Shared} {env : Env} {h₀ : Heap} {target : Expr} {body orelse : List Stmt} {Q : Flow → Shared → Prop}
theorem law_loop {D C S W Nm c2 c1 : Addr} {vs : List Value} {n : Nat} {oc os o2 o1 : Obj} {ks : List Int} {v1 v2 : Option Value} {m₀ : Str → Option Value}
    (hh : A.handled = none) (F : Fr h₀ env.locals s.heap m₀) (N0 : News h₀ env.locals s.heap [(D, listOf vs.toArray n), (C, oc), (S, os), (W, listOf #[] 0), (Nm, listOf #[] 0), (c2, o2), (c1, o1)])
    (hI : IntsAre vs ks) (hl : C < D ∧ S < D ∧ W < D ∧ Nm < D ∧ c2 < D ∧ c1 < D) (h1 : 1 ≤ s.toks) (hn : m₀ (Str.ofString "names") = some (.ref Nm)) (hw : m₀ (Str.ofString "writings") = some (.ref W)) (d1 : o1.data = .cell v1) (d2 : o2.data = .cell v2)
    (hE : PassesOwn (model prog w) A env E)
    (d4 : Nm ≠ W ∧ c2 ≠ W ∧ c1 ≠ W ∧ c2 ≠ Nm ∧ c1 ≠ Nm ∧ c1 ≠ c2)
    (turn : PassesOwn (model prog w) A env E → (Nm ≠ W ∧ c2 ≠ W ∧ c1 ≠ W ∧ c2 ≠ Nm ∧ c1 ≠ Nm ∧ c1 ≠ c2) → ∀ (c : LawC) i k t (u : Str → Option Value) h tk own, i < ks.length → ks[i]? = some k → LawP i c → 1 ≤ tk → OwnOff own [W, Nm, c2, c1] →
      Fr h₀ env.locals h (kstB (fun z => if LawSt.contains z then u z else m₀ z) (LawPs W Nm c)) → News h₀ env.locals h (LawLed W Nm c2 c1 c ++ own) →
      wpAny (model prog w) A (assign target env (.int k t)) (fun _ s₃ => wpAny (model prog w) A (execs body env) (GTurn h₀ env.locals (LawLed W Nm c2 c1) [W, Nm, c2, c1] own (LawPs W Nm) LawSt m₀ (LawP (i + 1)) Q { s with heap := h, toks := tk }) E s₃) E { s with heap := h, toks := tk })
    (done : ∀ (c : LawC) (u : Str → Option Value) h tk, LawP ks.length c → 1 ≤ tk → Fr h₀ env.locals h (kstB (fun z => if LawSt.contains z then u z else m₀ z) (LawPs W Nm c)) → News h₀ env.locals h (LawLed W Nm c2 c1 c) → wpAny (model prog w) A (execs orelse env) Q E { s with heap := h, toks := tk }) :
    wpAny (model prog w) A (pyIter (.ref D)) (fun it s₂ => LoopG prog w A h₀ env target body orelse Q E it s₂) E s := by
  obtain ⟨l1, l2, l3, l4, l5, l6⟩ := hl
  refine g_list (σ := LawC) (LawLed W Nm c2 c1) (LawPs W Nm) LawSt LawP ⟨[], 0, [], 0, o1, o2⟩ hh F N0 ?_ ?_ h1 ?_ ?_ (by decide) ?_ ?_
  · intro p hp
    exact List.mem_cons_of_mem _ (List.mem_cons_of_mem _ hp)
  · intro p hp
    simp only [LawLed, List.mem_cons, List.not_mem_nil, or_false] at hp
    rcases hp with rfl | rfl | rfl | rfl
    · exact Nat.ne_of_lt l3
    · exact Nat.ne_of_lt l4
    · exact Nat.ne_of_lt l5
    · exact Nat.ne_of_lt l6
  · intro p hp
    simp only [LawPs, List.mem_cons, List.not_mem_nil, or_false] at hp
    rcases hp with rfl | rfl
    · exact hn
    · exact hw
  · exact ⟨[], .nil, .nil, rfl, (fun _ h => nomatch h), ⟨_, d1⟩, ⟨_, d2⟩⟩
  · intro c i v u h tk own hi hv hP htk ho F N
    obtain ⟨k, t, rfl, hk⟩ := ints_item hI i v hv
    exact turn hE d4 c i k t u h tk own (ints_len hI ▸ hi) hk hP htk ho F N
  · intro c u h tk hP
    exact done c u h tk (ints_len hI ▸ hP)
end
end
section
noncomputable def SG : List Nat := [38, 60, 62, 34, 13, 10, 9, 97, 98, 39]
noncomputable def sgn (i : Nat) : Nat := SG.getD i 0
noncomputable def nameD : Nat → Nat → List Nat
  | 0, _ => []
  | f + 1, r => if r = 0 then [] else sgn (r % 10) :: nameD f (r / 10)
set_option genInjectivity false in
set_option genSizeOf false in
set_option genSizeOfSpec false in
structure WhC where
  r : Nat
  nm : List Nat
  tr : Tok
  tn : Tok
noncomputable def WhP (R0 : Nat) (c : WhC) : Prop := c.nm.length ≤ 6 ∧ c.nm ++ nameD (6 - c.nm.length) c.r = nameD 6 R0
noncomputable def WhPs (c : WhC) : List (Str × Value) := [(Str.ofString "rest", .int (c.r : Int) c.tr), (Str.ofString "name", .str (mk c.nm) c.tn)]
theorem nameD_go {R0 r : Nat} {nm : List Nat} (h6 : nm.length ≤ 6) (h : nm ++ nameD (6 - nm.length) r = nameD 6 R0) (hr : 0 < r) (hl : nm.length < 6) :
    (nm ++ [sgn (r % 10)]).length ≤ 6 ∧ (nm ++ [sgn (r % 10)]) ++ nameD (6 - (nm ++ [sgn (r % 10)]).length) (r / 10) = nameD 6 R0 := by
  refine ⟨by simp; omega, ?_⟩
  rw [← h]
  have e : 6 - nm.length = (6 - (nm ++ [sgn (r % 10)]).length) + 1 := by simp; omega
  rw [e, nameD, if_neg (by omega), List.append_assoc]; rfl
theorem nameD_end {R0 r : Nat} {nm : List Nat} (h : nm ++ nameD (6 - nm.length) r = nameD 6 R0) (hr : r = 0 ∨ 6 ≤ nm.length) : nm = nameD 6 R0 := by
  rw [← h]
  rcases hr with rfl | h6
  · cases 6 - nm.length <;> simp [nameD]
  · rw [show 6 - nm.length = 0 by omega]; simp [nameD]
theorem nameD_len : ∀ f r, (nameD f r).length ≤ f
  | 0, _ => Nat.le_refl _
  | f + 1, r => by
    rw [nameD]
    split
    · exact Nat.zero_le _
    · have := nameD_len f (r / 10)
      simp; omega
theorem nameD_mem : ∀ f r, ∀ c ∈ nameD f r, c ∈ SG
  | 0, _, c, h => nomatch h
  | f + 1, r, c, h => by
    rw [nameD] at h
    split at h
    · cases h
    · rcases List.mem_cons.mp h with rfl | h
      · have hlt : r % 10 < 10 := Nat.mod_lt _ (by decide)
        generalize r % 10 = n at hlt
        have : n = 0 ∨ n = 1 ∨ n = 2 ∨ n = 3 ∨ n = 4 ∨ n = 5 ∨ n = 6 ∨ n = 7 ∨ n = 8 ∨ n = 9 := by omega
        rcases this with rfl | rfl | rfl | rfl | rfl | rfl | rfl | rfl | rfl | rfl <;> decide
      · exact nameD_mem f (r / 10) c h
noncomputable def WDone (h₀ : Heap) (L : Addr) (s : Shared) (news : List (Addr × Obj)) (m₀ : Str → Option Value) (R0 : Nat) (f : Flow) (s' : Shared) : Prop :=
  f = .next ∧ ∃ c h tk m', s' = { s with heap := h, toks := tk } ∧ Fr h₀ L h m' ∧ News h₀ L h news ∧ (∀ p ∈ WhPs c, m' p.1 = some p.2) ∧ (∀ z, (∀ p ∈ WhPs c, z ≠ p.1) → ([] : List Str).contains z = false → m' z = m₀ z) ∧ c.nm = nameD 6 R0
section
variable {prog : Program} {w : World} {A : Around} {E : Value → Shared → Prop} {s : Shared}
theorem len_mk {l : List Nat} {t : Tok} {Q : Value → Shared → Prop} (hl : l.length ≤ 100000) (h : Q (.int (l.length : Int) (s.toks + 1)) { s with toks := s.toks + 1 + 1 }) : wpAny (model prog w) A (call (.builtin "len") [.str (mk l) t]) Q E s := by
  refine len_str (by rw [mk_length]; omega) ?_
  rw [mk_length]; exact h
theorem r_modN {a k : Nat} {j : Int} {t u : Tok} {Q : Value → Shared → Prop} (hj : j = (k : Int)) (hk : 0 < k) (h : Q (.int ((a % k : Nat) : Int) s.toks) { s with toks := s.toks + 1 }) : wpAny (model prog w) A (binaryOp .Mod (.int (a : Int) t) (.int j u)) Q E s := by
  subst hj
  refine mod_int (by omega) ?_
  rw [Int.fmod_eq_emod_of_nonneg _ (by omega), ← Int.natCast_emod]; exact h
theorem r_divN {a k : Nat} {j : Int} {t u : Tok} {Q : Value → Shared → Prop} (hj : j = (k : Int)) (hk : 0 < k ∧ k < 1073741824) (h : Q (.int ((a / k : Nat) : Int) s.toks) { s with toks := s.toks + 1 }) : wpAny (model prog w) A (binaryOp .FloorDiv (.int (a : Int) t) (.int j u)) Q E s := by
  subst hj
  refine floordiv_int (by omega) ?_ (.inl (PyProof.noPylong_small (by omega)))
  rw [Int.fdiv_eq_ediv_of_nonneg _ (by omega), ← Int.natCast_ediv]; exact h
theorem r_modV {a b v : Int} {t u : Tok} {Q : Value → Shared → Prop} (hv : a.fmod b = v) (hb : b ≠ 0) (h : Q (.int v s.toks) { s with toks := s.toks + 1 }) : wpAny (model prog w) A (binaryOp .Mod (.int a t) (.int b u)) Q E s := by
  subst hv; exact mod_int hb h
theorem s_empty : Str.ofString "" = mk [] := by decide +kernel
theorem while_name {env : Env} {h₀ : Heap} {test : Expr} {body : List Stmt} {pos : Pos} {m₀ : Str → Option Value} {news : List (Addr × Obj)} {R0 : Nat} {t1 t2 : Tok} {Q : Flow → Shared → Prop}
    (F : Fr h₀ env.locals s.heap m₀) (N : News h₀ env.locals s.heap news) (h1 : 1 ≤ s.toks) (hr : m₀ (Str.ofString "rest") = some (.int (R0 : Int) t1)) (hn : m₀ (Str.ofString "name") = some (.str (mk []) t2)) (hE : PassesOwn (model prog w) A env E)
    (turn : ∀ (c : WhC) (u : Str → Option Value) h tk, WhP R0 c → Fr h₀ env.locals h (kstB (fun z => if ([] : List Str).contains z then u z else m₀ z) (WhPs c)) → News h₀ env.locals h news →
      wpAny (model prog w) A (isTrue test env (eval test env)) (fun b s₂ =>
        if b = true then wpAny (model prog w) A (execs body env) (KswPost h₀ env.locals s (fun _ => news) WhPs (fun _ => True) [] m₀ (WhP R0) (fun c => c.r) (WDone h₀ env.locals s news m₀ R0) c) E s₂ else WDone h₀ env.locals s news m₀ R0 .next s₂) E { s with heap := h, toks := tk })
    (done : ∀ tr tn (r : Nat) h tk, 1 ≤ tk → Fr h₀ env.locals h (kstB m₀ [(Str.ofString "rest", .int (r : Int) tr), (Str.ofString "name", .str (mk (nameD 6 R0)) tn)]) → News h₀ env.locals h news → Q .next { s with heap := h, toks := tk }) :
    wpAny (model prog w) A (exec (.While test body [] pos) env) Q E s := by
  refine wpAny_with_toks (n := 1) h1 (wpAny_mono (ksw_while (fun _ => news) WhPs (fun _ => True) [] (WhP R0) (fun c => c.r) ⟨R0, [], t1, t2⟩ F N trivial ?_ ⟨Nat.zero_le _, rfl⟩ (fun c u h tk _ hp F' N' => turn c u h tk hp F' N') hE) (fun f s' x => ?_) (fun _ _ e _ => e))
  · intro p hp
    simp only [WhPs, List.mem_cons, List.not_mem_nil, or_false] at hp
    rcases hp with rfl | rfl
    · exact hr
    · exact hn
  · obtain ⟨rfl, c, h, tk, m', rfl, F', N', e1, e2, e3⟩ := x
    intro htk
    obtain ⟨r, nm, tr, tn⟩ := c
    dsimp only at e3
    subst e3
    refine done tr tn r h tk htk ?_ N'
    have := ksw_fr (stored := []) e1 e2 F'
    simpa [WhPs] using this
end
theorem signs_item {w : World} : ∀ {A : Around} {E : Value → Shared → Prop} {s : Shared} {h₀ : Heap} {L : Addr} {m : Str → Option Value} {r : Nat} {j : Int} {value slice : Expr} {u : Tok} {Q : Value → Shared → Prop} (_ : j = ((r % 10 : Nat) : Int)) (_ : Fr h₀ L s.heap m) (_ : (hd.heap_39 w.params).In h₀) (_ : ∀ t', Q (.str (mk [sgn (r % 10)]) t') s)
    (_ : ∀ k, subscripted slice false (.ref 178) (.int k u) = operate [.ref 178, .int k u] (getItem (.ref 178) (.int k u))),
    wpAny (model PySem.Challenge.rw_il0041_01.row.prog w) A (subscriptTail value slice (.ref 178) (.int j u)) Q E s := by
  k_fill
  intro A E s h₀ L m r j value slice u Q hj F X h hs
  subst hj
  have hlt : r % 10 < 10 := Nat.mod_lt _ (by decide)
  generalize r % 10 = n at *
  have : n = 0 ∨ n = 1 ∨ n = 2 ∨ n = 3 ∨ n = 4 ∨ n = 5 ∨ n = 6 ∨ n = 7 ∨ n = 8 ∨ n = 9 := by omega
  rcases this with rfl | rfl | rfl | rfl | rfl | rfl | rfl | rfl | rfl | rfl <;>
    k_dflt (refine' topList_K F X ?l ?k ?e ?x ?_ ?z; (case l => k_is); (case k => decide); (case e => decide); (case x => exact rfl); (case z => exact hs _); exact h _)
end
section
theorem ints_of_carried : ∀ {ys : List Value} {ns : List Int}, CarriedAll ys (ns.map PyData.int) → IntsAre ys ns
  | _, [], .nil => .nil
  | _, _ :: _, .cons (.int n t) h => .cons n t (ints_of_carried h)
noncomputable def sgOf (a : Str) : Int := (a.cps.toList.headD 0 : Nat)
noncomputable def KB (i : Nat) : Nat := [4096, 8192, 16384, 24576, 32768, 40960, 49152].getD i 0
section
variable {prog : Program} {w : World} {A : Around} {E : Value → Shared → Prop} {s : Shared} {h₀ : Heap} {L : Addr} {m : Str → Option Value} {news : List (Addr × Obj)} {env : Env}
theorem r_addN {a b : Nat} {t u : Tok} {Q : Value → Shared → Prop} (h : Q (.int ((a + b : Nat) : Int) s.toks) { s with toks := s.toks + 1 }) : wpAny (model prog w) A (binaryOp .Add (.int (a : Int) t) (.int (b : Int) u)) Q E s := by
  refine add_int ?_
  rw [← Int.natCast_add]; exact h
theorem r_addV {a b : Int} {x y : Nat} {t u : Tok} {Q : Value → Shared → Prop} (ha : a = (x : Int)) (hb : b = (y : Int)) (h : Q (.int ((x + y : Nat) : Int) s.toks) { s with toks := s.toks + 1 }) : wpAny (model prog w) A (binaryOp .Add (.int a t) (.int b u)) Q E s := by
  subst ha hb; exact r_addN h
theorem ListComp_sg {elt iter : Expr} {x : Str} {px : Pos} {scope : Scope} {cl : List (Str × Addr)} {pos : Pos} {Q : Value → Shared → Prop} {l : List Nat} (_ : l.length ≤ 6) (_ : Fr h₀ L s.heap m) (_ : News h₀ L s.heap news)
    (hall : A.handled = none ∧ closureFor scope env = pure cl ∧ (∀ y ∈ scope.names, y.2 ≠ .cell) ∧ scope.kind = .function ∧ (∀ y ∈ scope.names, y.2 = .local → scope.names.lookup y.1 = some .local) ∧ scope.names.lookup x = some .local)
    (h : wpAny (model prog w) A (eval iter env) (fun xv s₁ => ∃ t, xv = .str (mk l) t ∧ l.length ≤ 100000 ∧ Fr h₀ L s₁.heap m ∧ News h₀ L s₁.heap news ∧
      (∀ C c u s₂ m₂ E', c ∈ l → s₂.heap.Ns (compEnvC scope cl C env).locals m₂ → m₂ x = some (.str (mk [c]) u) → Fr h₀ L s₂.heap m → News h₀ L s₂.heap news → wpAny (model prog w) A (eval elt (compEnvC scope cl C env)) (fun r s₃ => (∃ t, r = .int (c : Int) t) ∧ Keeps s₂ s₃) E' s₂) ∧
      (∀ D (ys : List Value) n h' tk, Fr h₀ L h' m → News h₀ L h' ((D, listOf ys.toArray n) :: news) → (∀ p ∈ news, p.1 ≠ D) → IntsAre ys (iN l) → Q (.ref D) { s₁ with heap := h', toks := tk })) E s)
    (hs : ∀ x, foldedSetIterable iter env x = pure x) :
    wpAny (model prog w) A (eval (.ListComp elt [⟨.Name x px, iter, [], 0⟩] scope pos) env) Q E s := by
  obtain ⟨hh, hclos, hcell, hkind, hnames, hx⟩ := hall
  refine wpAny_ListComp_free (ItemKind.str.lift fun _ => true) (fun v r => ∃ a, ItemKind.str.is a v ∧ Carried r (.int (sgOf a))) hclos hcell hkind hnames hx
    (wpAny_mono h (fun xv s₁ h₁ => ?_) fun _ _ e => e) hs
  obtain ⟨t, rfl, hsz, F, N, helt, hQ⟩ := h₁
  refine wpAny_pyIter_str fun o St W hst => ?_
  have up : ∀ (h' : Heap), (∀ b o', b ∉ [s₁.heap.objs.size] → (s₁.heap.push o).get? b = some o' → h'.get? b = some o') → ∀ b o', s₁.heap.get? b = some o' → h'.get? b = some o' :=
    fun h' hk b o' e => hk b o' (old_not_new e) (Heap.get?_push_of_some _ e)
  have hsz2 : (mk l).cps.size = l.length := by simp [mk]
  refine ⟨s₁.heap.objs.size, [s₁.heap.objs.size], [s₁.heap.objs.size], (mk l).cps.size, SignAt (mk l), St, rfl, W A hh, (by rw [hsz2, sizeLine_eq]; omega), hst, ?_, ⟨?_, ?_⟩, ?_⟩
  · intro b hb
    show b < (s₁.heap.push o).objs.size
    rw [Heap.size_push, List.mem_singleton.mp hb]
    exact Nat.lt_succ_self _
  · intro C i v s₃ m₃ E' _ hP hn hm _ _
    obtain ⟨c, u, _, rfl⟩ := hP
    have ha : ItemKind.str.is ⟨#[c]⟩ (.str ⟨#[c]⟩ u) := ⟨u, rfl⟩
    rw [ItemKind.lift_is ha]
    exact wpAny_tests_nil ⟨rfl, ⟨_, _, rfl, fun _ _ e => e⟩⟩
  · intro C i v s₃ m₃ E' _ hP hp hn hm hk _
    obtain ⟨c, u, hc, rfl⟩ := hP
    have hcl : c ∈ l := by
      have := Array.mem_of_getElem? hc
      simpa [mk] using this
    have ha : ItemKind.str.is ⟨#[c]⟩ (.str ⟨#[c]⟩ u) := ⟨u, rfl⟩
    refine wpAny_mono (helt C c u s₃ m₃ E' hcl hn hm (F.keeps (up _ hk)) (N.grown (up _ hk))) (fun r s₄ h₄ => ⟨⟨_, ha, ?_⟩, h₄.2⟩) fun _ _ e => e
    obtain ⟨⟨t, rfl⟩, _⟩ := h₄
    exact .int _ _
  · intro D h' tk ys vs hnew hlD hplD hlen hP hF hk
    have hD0 : h₀.get? D = none := by
      cases e : h₀.get? D with
      | none => rfl
      | some o' => rw [Heap.get?_push_of_some _ (F.keep _ _ e)] at hnew; cases hnew
    have hDn : ∀ p ∈ news, p.1 ≠ D := fun p hp e => by rw [← e, Heap.get?_push_of_some _ (N p hp).1] at hnew; cases hnew
    have hDL : D ≠ L := fun e => by
      obtain ⟨oL, es, ep, heL, _⟩ := F.ns
      rw [e, Heap.get?_push_of_some _ heL] at hnew; cases hnew
    obtain ⟨n, hpl⟩ := hplD
    have hca := (areOf_signs hlen hP).paired (fun _ => true) (fun a => .int (sgOf a)) _ hF
    have hfl : ((signs (mk l)).filter fun _ => true).map (fun a => PyData.int (sgOf a)) = (iN l).map PyData.int := by
      have : ∀ l : List Nat, ((l.map fun c => (⟨#[c]⟩ : Str)).filter fun _ => true).map (fun a => PyData.int (sgOf a)) = (iN l).map PyData.int := by
        intro l
        induction l with
        | nil => rfl
        | cons a l ih => simp [iN, sgOf] at ih ⊢; exact ih
      exact this l
    rw [hfl] at hca
    refine hQ D ys.toList n h' tk (F.keeps (up h' hk)) (fun p hp => ?_) hDn (ints_of_carried hca)
    rcases List.mem_cons.mp hp with rfl | hp
    · exact ⟨by rw [Array.toArray_toList]; exact hpl, hDL, hD0⟩
    · exact N.grown (up h' hk) p hp
theorem ListComp_rg {elt iter : Expr} {x : Str} {px : Pos} {ifs : List Expr} {scope : Scope} {cl : List (Str × Addr)} {pos : Pos} {Q : Value → Shared → Prop} {a₀ : Int} {n : Nat} (pz : Int → Bool) (f : Int → Int) (_ : Fr h₀ L s.heap m) (_ : News h₀ L s.heap news)
    (hh : A.handled = none) (hclos : closureFor scope env = pure cl) (hcell : ∀ y ∈ scope.names, y.2 ≠ .cell) (hkind : scope.kind = .function)
    (hnames : ∀ y ∈ scope.names, y.2 = .local → scope.names.lookup y.1 = some .local) (hx : scope.names.lookup x = some .local)
    (h : wpAny (model prog w) A (eval iter env) (fun xv s₁ => ∃ r b₀ t₀ u₀ v₀, xv = .ref r ∧ IsRange s₁.heap r a₀ b₀ 1 t₀ u₀ v₀ ∧ Builtin.Range.small a₀ b₀ 1 = true ∧ Builtin.Range.rangeSize a₀ b₀ 1 = (n : Int) ∧ n ≤ 1000 ∧ Fr h₀ L s₁.heap m ∧ News h₀ L s₁.heap news ∧
      (∀ C a t s₂ m₂ E', a ∈ rangeInts a₀ 1 n → s₂.heap.Ns (compEnvC scope cl C env).locals m₂ → m₂ x = some (.int a t) → Fr h₀ L s₂.heap m → News h₀ L s₂.heap news →
        wpAny (model prog w) A (forIn ifs true fun c r => if r = true then do let ok ← isTrue c (compEnvC scope cl C env) (eval c (compEnvC scope cl C env)); pure (ForInStep.yield ok) else pure (ForInStep.yield r))
          (fun ok s₃ => ok = pz a ∧ Keeps s₂ s₃) E' s₂) ∧
      (∀ C a t s₂ m₂ E', a ∈ rangeInts a₀ 1 n → s₂.heap.Ns (compEnvC scope cl C env).locals m₂ → m₂ x = some (.int a t) → Fr h₀ L s₂.heap m → News h₀ L s₂.heap news →
        wpAny (model prog w) A (eval elt (compEnvC scope cl C env)) (fun y s₃ => (∃ t, y = .int (f a) t) ∧ Keeps s₂ s₃) E' s₂) ∧
      (∀ D (ys : List Value) k h' tk, Fr h₀ L h' m → News h₀ L h' ((D, listOf ys.toArray k) :: news) → (∀ p ∈ news, p.1 ≠ D) → IntsAre ys (((rangeInts a₀ 1 n).filter pz).map f) → Q (.ref D) { s₁ with heap := h', toks := tk })) E s)
    (hs : ∀ x, foldedSetIterable iter env x = pure x) :
    wpAny (model prog w) A (eval (.ListComp elt [⟨.Name x px, iter, ifs, 0⟩] scope pos) env) Q E s := by
  refine ListComp_DCr (h₀ := h₀) (L := L) (m := m) (pz := pz) (d := fun a => .int (f a)) hh hclos hcell hkind hnames hx (wpAny_mono h (fun xv s₁ h₁ => ?_) fun _ _ e => e) hs
  obtain ⟨r, b₀, t₀, u₀, v₀, rfl, hr, hsm, hn, hsz, F, N, ht, he, hQ⟩ := h₁
  refine ⟨news, r, a₀, b₀, 1, t₀, u₀, v₀, n, rfl, hr, hsm, hn, (by rw [sizeLine_eq]; omega), F, N, ?_, ?_, ?_⟩
  · intro C a v s₂ m₂ E' _ ha hv hn hm hk
    obtain ⟨t, rfl⟩ := hv
    exact ht C a t s₂ m₂ E' ha hn hm (F.keeps hk) (N.grown hk)
  · intro C a v s₂ m₂ E' _ ha hv _ hn hm hk
    obtain ⟨t, rfl⟩ := hv
    refine wpAny_mono (he C a t s₂ m₂ E' ha hn hm (F.keeps hk) (N.grown hk)) (fun y s₄ h₄ => ⟨?_, h₄.2⟩) fun _ _ e => e
    obtain ⟨⟨t, rfl⟩, _⟩ := h₄
    exact .int _ _
  · intro D ys h' tk F' N' hD0 hl hpl hca
    obtain ⟨k, hpl1⟩ := hpl.1
    refine hQ D ys k h' tk F' (fun p hp => ?_) hpl.2 (ints_of_carried (by rw [List.map_map]; exact hca))
    rcases List.mem_cons.mp hp with rfl | hp
    · exact ⟨hpl1, hpl.ne_locals F', hD0⟩
    · exact N' p hp
end
end
section
noncomputable def dgs (k : Int) (C : Nat) : List Nat := (List.range C).map fun p => ((k.fdiv (256 ^ p)).fmod 256).toNat
theorem dgs_len (k : Int) (C : Nat) : (dgs k C).length = C := by simp [dgs]
theorem dgs_lt (k : Int) (C : Nat) : ∀ o ∈ dgs k C, o < 256 := by
  intro o ho
  obtain ⟨p, _, rfl⟩ := List.mem_map.mp ho
  have := Int.fmod_lt_of_pos (k.fdiv (256 ^ p)) (b := 256) (by decide)
  have := Int.fmod_nonneg_of_pos (k.fdiv (256 ^ p)) (b := 256) (by decide)
  omega
theorem dgs_eq (k : Int) (C : Nat) : ((rangeInts 0 1 C).filter fun _ => true).map (fun a => (k.fdiv (256 ^ a.toNat)).fmod 256) = iN (dgs k C) := by
  rw [List.filter_eq_self.mpr (fun _ _ => rfl)]
  unfold rangeInts dgs iN
  rw [List.map_map, List.map_map]
  refine List.map_congr_left fun p _ => ?_
  have e : ((0 : Int) + (p : Nat) * 1).toNat = p := by omega
  have := Int.fmod_nonneg_of_pos (k.fdiv (256 ^ p)) (b := 256) (by decide)
  show (k.fdiv (256 ^ ((0 : Int) + (p : Nat) * 1).toNat)).fmod 256 = _
  rw [e]
  show _ = ((((k.fdiv (256 ^ p)).fmod 256).toNat : Nat) : Int)
  omega
noncomputable def ReadsTo (x : Str) (r : List Nat) : Prop := ∃ p0 es, 38 ∉ p0 ∧ GoodE es ∧ x = mk (p0 ++ encE es) ∧ r = p0 ++ decE es ∧ x.length ≤ 60000
noncomputable def CdTo (l l2 : List Nat) : Prop := escCL l = l2 ∧ l.length ≤ 60000
noncomputable def DecTo (ys outs : List Nat) : Prop := ys.length ≤ 2000 ∧ (∀ y ∈ ys, y < 128) ∧ (∀ y ∈ ys, y = 61 ∨ b64v y < 64) ∧ ∃ q ch pads, decRun ys = (outs, q, ch, pads) ∧ q ≠ 1 ∧ (q = 0 ∨ 4 ≤ q + pads)
section
variable (w : World) (mean : ExcName → Option Value) (mg mb : Str → Option Value)
theorem t_read2 {x : Str} {r : List Nat} {t : Tok} (h : ReadsTo x r) : Gives w mean mg mb 193 [.str x t] (fun t => .str (mk r) t) 1 8 := by
  obtain ⟨p0, es, h0, hg, hx, rfl, hl⟩ := h
  exact t_read w mean mg mb p0 es x t h0 hg hx hl
theorem t_attrib2 {l wl : List Nat} {t : Tok} (h : l.length ≤ 48) (hw : escAL l = wl) : Gives w mean mg mb 42 [.str (mk l) t] (fun t => .str (mk wl) t) 1 8 := by
  subst hw
  have := t_attrib w mean mg mb (mk l) t (by rw [mk_length]; exact h)
  rw [show escA (mk l) = mk (escAL l) from by unfold escA; rw [toList_mk]] at this
  exact this
theorem t_cdata2 {l l2 : List Nat} {t : Tok} (h : CdTo l l2) : Gives w mean mg mb 35 [.str (mk l) t] (fun t => .str (mk l2) t) 1 8 := by
  have := t_cdata w mean mg mb (mk l) t (by rw [mk_length]; exact h.2)
  rw [show escC (mk l) = mk l2 from by unfold escC; rw [toList_mk, h.1]] at this
  exact this
theorem t_imode2 {M v : Nat} {t : Tok} (h : M &&& 4095 = v) : Gives w mean mg mb 130 [.int (M : Int) t] (fun t => .int (v : Int) t) 1 8 := by
  subst h; exact t_imode w mean mg mb M t
theorem t_ifmt2 {M v : Nat} {t : Tok} (h : M &&& 61440 = v) : Gives w mean mg mb 137 [.int (M : Int) t] (fun t => .int (v : Int) t) 1 8 := by
  subst h; exact t_ifmt w mean mg mb M t
theorem t_filemode2 {M : Nat} {pm : List Nat} {t : Tok} (h : permL M = pm) : Gives w mean mg mb 177 [.int (M : Int) t] (fun t => .str (mk pm) t) 3 30 := by
  subst h; exact t_filemode w mean mg mb M t
theorem t_enc2 {x : Array UInt8} {t : Tok} {xs ys : List Nat} (hx : KBw.bInts x = iN xs) (hl : xs.length ≤ 1000) (h : encB xs = ys) : Gives w mean mg mb 115 [.bytes x t] (fun t => .bytes (bA ys) t) 5 40 := by
  subst h; exact t_enc w mean mg mb x t xs hx hl
theorem t_dec2 {ys outs : List Nat} {t : Tok} (h : DecTo ys outs) : Gives w mean mg mb 123 [.str (mk ys) t] (fun t => .bytes (bA outs) t) 5 40 := by
  obtain ⟨hl, hy, hok, q, ch, pads, hrun, hq, hpad⟩ := h
  exact t_dec w mean mg mb (mk ys) t ys rfl hl hy hok hrun hq hpad
end
section
variable {prog : Program} {w : World} {A : Around} {E : Value → Shared → Prop} {s : Shared} {h₀ : Heap} {L : Addr} {m : Str → Option Value} {news : List (Addr × Obj)}
theorem pow256 {a : Int} {C : Nat} {t u : Tok} {Q : Value → Shared → Prop} (ha : a ∈ rangeInts 0 1 C) (hC : C < 4) (h : Q (.int (256 ^ a.toNat) s.toks) { s with toks := s.toks + 1 }) : wpAny (model prog w) A (binaryOp .Pow (.int 256 t) (.int a u)) Q E s := by
  have := mem_rangeInts ha
  exact pow_int_small (by omega) (by omega) (by decide) h
theorem fdiv256 {a k : Int} {C : Nat} {t u : Tok} {Q : Value → Shared → Prop} (ha : a ∈ rangeInts 0 1 C) (hC : C < 4) (h : Q (.int (k.fdiv (256 ^ a.toNat)) s.toks) { s with toks := s.toks + 1 }) : wpAny (model prog w) A (binaryOp .FloorDiv (.int k t) (.int (256 ^ a.toNat) u)) Q E s := by
  have := mem_rangeInts ha
  have h3 : a = 0 ∨ a = 1 ∨ a = 2 := by omega
  rcases h3 with rfl | rfl | rfl <;> exact floordiv_int (by decide) h (.inl (PyProof.noPylong_small (by decide)))
theorem bytes_hdE {D : Addr} {rest : List (Addr × Obj)} {Q : Value → Shared → Prop} {vs : List Value} {n : Nat} {outs : List Nat} {ns : List Int}
    (F : Fr h₀ L s.heap m) (N : News h₀ L s.heap ((D, listOf vs.toArray n) :: rest)) (hi : IntsAre vs ns) (he : ns = iN outs) (hr : ∀ o ∈ outs, o < 256) (hz : outs.length ≤ 1000) (hh : A.handled = none)
    (h : ∀ h' t k, Fr h₀ L h' m → News h₀ L h' ((D, listOf vs.toArray n) :: rest) → Q (.bytes (bA outs) t) { s with heap := h', toks := k }) : wpAny (model prog w) A (call (.type "bytes") [.ref D]) Q E s := by
  subst he
  exact bytes_hd F N hi hr (by rw [ints_len hi, iN_length]; omega) hh h
theorem r_adds {x y : Str} {a b : List Nat} {t u : Tok} {Q : Value → Shared → Prop} (hx : x = mk a) (hy : y = mk b) (hsz : (a ++ b).length ≤ 16777216) (h : ∀ t' k, Q (.str (mk (a ++ b)) t') { s with toks := k }) :
    wpAny (model prog w) A (binaryOp .Add (.str x t) (.str y u)) Q E s := by
  subst hx hy; exact add_mk hsz h
theorem r_addB {x y : Array UInt8} {a b : List Nat} {t u : Tok} {Q : Value → Shared → Prop} (hx : x = bA a) (hy : y = bA b) (hsz : a.length + b.length ≤ 16777216) (h : ∀ t' k, Q (.bytes (bA (a ++ b)) t') { s with toks := k }) :
    wpAny (model prog w) A (binaryOp .Add (.bytes x t) (.bytes y u)) Q E s := by
  subst hx hy
  have e : bA a ++ bA b = bA (a ++ b) := by rw [bA_eq, bA_eq, bA_eq]; simp
  exact KBy.add_bytes (by rw [bA_size, bA_size]; exact hsz) fun t' k => by rw [e]; exact h t' k
theorem ne_str_same {x y : Str} {t u : Tok} {Q : Value → Shared → Prop} (hx : x = y) (h : Q (.bool false) s) : wpAny (model prog w) A (compareOp .NotEq (.str x t) (.str y u)) Q E s := by
  subst hx; exact PyProof.Rows.ne_str (by simpa using h)
theorem eq_str_same {x y : Str} {t u : Tok} {Q : Value → Shared → Prop} (hx : x = y) (h : Q (.bool true) s) : wpAny (model prog w) A (compareOp .Eq (.str x t) (.str y u)) Q E s := by
  subst hx; exact PyProof.Rows.eq_str (by simpa using h)
theorem ne_bytes_same {x y : Array UInt8} {t u : Tok} {Q : Value → Shared → Prop} (hx : x = y) (h : Q (.bool false) s) : wpAny (model prog w) A (compareOp .NotEq (.bytes x t) (.bytes y u)) Q E s := by
  subst hx; exact ne_bytes (by simpa using h)
theorem count_free {l : List Nat} {c : Nat} {y : Str} {t u : Tok} {Q : Value → Shared → Prop} (hy : y = mk [c]) (hc : c ∉ l) (h : Q (.int 0 s.toks) { s with toks := s.toks + 1 }) : wpAny (model prog w) A (call (.builtin "str.count") [.str (mk l) t, .str y u]) Q E s := by
  subst hy
  refine SC.count ?_
  have e : Txt.count (mk l) (mk [c]) = 0 := by
    have hat : ∀ i, StrLaws.At (mk l) (mk [c]) (mk l).length i ↔ l[i]? = some c := fun i => StrLaws.subAt_one (mk l) c i
    unfold Txt.count
    rcases StrLaws.occ_head (mk l) (mk [c]) ((mk l).length + 1) (by omega) with ⟨e, _⟩ | ⟨i, r, e, h1, h2⟩
    · rw [e]; rfl
    · exact absurd (List.mem_of_getElem? ((hat i).mp h1)) hc
  rw [e]; exact h
theorem split5 {el a0 a1 a2 a3 a4 : List Nat} {y : Str} {t u : Tok} {Q : Value → Shared → Prop} (F : Fr h₀ L s.heap m) (N : News h₀ L s.heap news) (hy : y = mk [34]) (hcut : cutL 34 el = [a0, a1, a2, a3, a4]) (hl : el.length ≤ 60000)
    (h : ∀ D t0 t1 t2 t3 t4 h' k, Fr h₀ L h' m → News h₀ L h' ((D, listOf #[.str (mk a0) t0, .str (mk a1) t1, .str (mk a2) t2, .str (mk a3) t3, .str (mk a4) t4] 0) :: news) → (∀ p ∈ news, p.1 < D) → Q (.ref D) { s with heap := h', toks := k }) :
    wpAny (model prog w) A (call (.builtin "str.split") [.str (mk el) t, .str y u]) Q E s := by
  subst hy
  refine splitN1 F N rfl (fun l h' k e F' N' => ?_) (by rw [mk_length, sizeLine_eq]; omega)
  rw [split_mk, toList_mk, hcut] at e
  match l, e with
  | [(b0, t0), (b1, t1), (b2, t2), (b3, t3), (b4, t4)], e =>
    simp only [List.map_cons, List.map_nil, List.cons.injEq, and_true] at e
    obtain ⟨rfl, rfl, rfl, rfl, rfl⟩ := e
    exact h _ t0 t1 t2 t3 t4 h' k F' N' fun p hp => Heap.lt_size (N p hp).1
theorem slice_1m4 {value slice : Expr} {c0 c1 c2 c3 c4 : Nat} {b : List Nat} {t ui uj : Tok} {Q : Value → Shared → Prop} (hF : Fr h₀ L s.heap m) (hN : News h₀ L s.heap news) (hsz : b.length ≤ 16777000) (h : ∀ h' t' k, Fr h₀ L h' m → News h₀ L h' news → Q (.str (mk b) t') { s with heap := h', toks := k })
    (hs : subscripted slice false (.str (mk ([c0] ++ b ++ [c1, c2, c3, c4])) t) (.ref s.heap.objs.size) = operate [.ref s.heap.objs.size, .str (mk ([c0] ++ b ++ [c1, c2, c3, c4])) t] (getItem (.str (mk ([c0] ++ b ++ [c1, c2, c3, c4])) t) (.ref s.heap.objs.size)) := by with_unfolding_all rfl)
    (ht : ∀ r, letTemporaryGo value (.str (mk ([c0] ++ b ++ [c1, c2, c3, c4])) t) r = pure () := by intro _; with_unfolding_all rfl) :
    wpAny (model prog w) A (subscriptTail value slice (.str (mk ([c0] ++ b ++ [c1, c2, c3, c4])) t) (.ref s.heap.objs.size)) Q E { s with heap := s.heap.push { cls := .type "slice", data := .fields #[.int 1 ui, .int (-4) uj, .none] } } :=
  slice_strN_ss hF hN (fun h' t' k F' N' => by
    have hlen : (mk ([c0] ++ b ++ [c1, c2, c3, c4])).length = b.length + 5 := by rw [mk_length]; simp
    have e : Txt.slice (mk ([c0] ++ b ++ [c1, c2, c3, c4])) (some 1) (some (-4)) = mk b := by
      rw [slice_eq, StrLaws.sliceText_neg_hi _ _ (by decide) (by rw [hlen]; omega), ← slice_eq, hlen]
      exact slice_mid [c0] b [c1, c2, c3, c4] rfl (by simp; omega)
    rw [e]; exact h h' t' k F' N') hs ht (by rw [mk_length, sizeLine_eq]; simp; omega)
theorem r_sum {D : Addr} {vs : List Value} {n R : Nat} {ns : List Int} {rest : List (Addr × Obj)} {Q : Value → Shared → Prop} (F : Fr h₀ L s.heap m) (N : News h₀ L s.heap ((D, listOf vs.toArray n) :: rest)) (hh : A.handled = none) (hi : IntsAre vs ns) (hs : ns.sum = (R : Int))
    (h : ∀ h' t k, Fr h₀ L h' m → News h₀ L h' ((D, listOf vs.toArray n) :: rest) → Q (.int (R : Int) t) { s with heap := h', toks := k }) : wpAny (model prog w) A (call (.builtin "sum") [.ref D]) Q E s := by
  have hl := News.isList N (.head _)
  have hall := hi.allInts
  have hnum : numsOf vs.toArray.toList = ns := by rw [show vs.toArray.toList = vs from rfl, hi.numsOf]
  obtain ⟨xs, e⟩ := hall.items
  rw [e] at hl
  refine sum_intListG hh hl fun h' tk t' hk => ?_
  rw [preSum_eq, List.take_of_length_le (by simp)]
  rw [e, nums_intItems] at hnum
  rw [hnum, hs]
  exact h h' t' tk (F.keeps hk) (N.grown hk)
end
end
section
noncomputable def KC (i : Nat) : Nat := [112, 99, 100, 98, 45, 108, 115].getD i 0
noncomputable def elOf (wl pm en : List Nat) : List Nat := [60, 102, 32, 110, 61, 34] ++ wl ++ [34, 32, 114, 61, 34] ++ pm ++ [34, 62] ++ en ++ [60, 47, 102, 62]
noncomputable def pzOf (pm : List Nat) (a : Int) : Bool := pm.getD a.toNat 0 != 45
theorem land_lo {M x : Nat} (hx : x < 4096) : M &&& x = (M % 4096) &&& x := by
  have h1 : (M &&& x) % 2 ^ 12 = (M % 2 ^ 12) &&& (x % 2 ^ 12) := Nat.and_mod_two_pow
  have h2 : M &&& x ≤ x := Nat.and_le_right
  have e : x % 2 ^ 12 = x := Nat.mod_eq_of_lt hx
  have f : (M &&& x) % 2 ^ 12 = M &&& x := Nat.mod_eq_of_lt (Nat.lt_of_le_of_lt h2 hx)
  rw [f, e] at h1
  exact h1
theorem KB_dvd {K : Nat} (hK : K < 7) : ∃ q, KB K = 4096 * q ∧ q < 16 ∧ 4096 * (q &&& 15) = KB K := by
  have : K = 0 ∨ K = 1 ∨ K = 2 ∨ K = 3 ∨ K = 4 ∨ K = 5 ∨ K = 6 := by omega
  rcases this with rfl | rfl | rfl | rfl | rfl | rfl | rfl
  · exact ⟨1, rfl, by decide, rfl⟩
  · exact ⟨2, rfl, by decide, rfl⟩
  · exact ⟨4, rfl, by decide, rfl⟩
  · exact ⟨6, rfl, by decide, rfl⟩
  · exact ⟨8, rfl, by decide, rfl⟩
  · exact ⟨10, rfl, by decide, rfl⟩
  · exact ⟨12, rfl, by decide, rfl⟩
theorem land_hi {K R : Nat} (hK : K < 7) (hR : R < 512) : (KB K + R) &&& 61440 = KB K := by
  obtain ⟨q, e, hq, e2⟩ := KB_dvd hK
  have h1 : ((KB K + R) &&& 61440) % 2 ^ 12 = ((KB K + R) % 2 ^ 12) &&& (61440 % 2 ^ 12) := Nat.and_mod_two_pow
  have h2 : ((KB K + R) &&& 61440) / 2 ^ 12 = ((KB K + R) / 2 ^ 12) &&& (61440 / 2 ^ 12) := Nat.and_div_two_pow
  have e3 : 61440 % 2 ^ 12 = 0 := by decide
  have e4 : 61440 / 2 ^ 12 = 15 := by decide
  have e5 : (KB K + R) / 2 ^ 12 = q := by omega
  rw [e3, Nat.and_zero] at h1
  rw [e4, e5] at h2
  generalize (KB K + R) &&& 61440 = Z at *
  generalize q &&& 15 = Y at *
  omega
theorem land_R {K R : Nat} (hK : K < 7) (hR : R < 512) {x : Nat} (hx : x < 4096) : (KB K + R) &&& x = R &&& x := by
  obtain ⟨q, e, _, _⟩ := KB_dvd hK
  rw [land_lo hx, show (KB K + R) % 4096 = R by omega]
theorem land_mask {K R : Nat} (hK : K < 7) (hR : R < 512) : (KB K + R) &&& 4095 = R := by
  rw [land_R hK hR (by decide)]
  have h1 : R &&& (2 ^ 12 - 1) = R % 2 ^ 12 := Nat.and_two_pow_sub_one_eq_mod R 12
  rw [show (4095 : Nat) = 2 ^ 12 - 1 by decide, h1]; omega
noncomputable def permT (R : Nat) : List Nat := [1, 2, 3, 4, 5, 6, 7, 8, 9].map (permAt R)
theorem pick_R {K R : Nat} (hK : K < 7) (hR : R < 512) : ∀ l : List (Nat × Nat), (∀ r ∈ l, r.1 < 4096) → pickR false (KB K + R) l = pickR false R l
  | [], _ => rfl
  | r :: l, h => by
    have ih := pick_R hK hR l fun q hq => h q (List.mem_cons_of_mem _ hq)
    unfold pickR
    rw [ih]
    simp only [Bool.false_eq_true, if_false]
    rw [land_R hK hR (h r (List.mem_cons_self ..))]
theorem perm_split {K R : Nat} (hK : K < 7) (hR : R < 512) : permL (KB K + R) = KC K :: permT R := by
  have h0 : permAt (KB K + R) 0 = KC K := by
    unfold permAt
    have e : ∀ l : List (Nat × Nat), pickR true (KB K + R) l = (l.find? fun r => KB K == r.1).elim 63 (·.2) := by
      intro l
      induction l with
      | nil => rfl
      | cons r l ih =>
        unfold pickR
        rw [ih, if_pos rfl, land_hi hK hR, List.find?_cons]
        by_cases h : KB K = r.1
        · rw [if_pos h, show (KB K == r.1) = true by simpa using h]; rfl
        · rw [if_neg h, show (KB K == r.1) = false by simpa using h]
    show pickR true _ _ = _
    rw [e]
    have : K = 0 ∨ K = 1 ∨ K = 2 ∨ K = 3 ∨ K = 4 ∨ K = 5 ∨ K = 6 := by omega
    rcases this with rfl | rfl | rfl | rfl | rfl | rfl | rfl <;> rfl
  have hi : ∀ i ∈ [1, 2, 3, 4, 5, 6, 7, 8, 9], permAt (KB K + R) i = permAt R i := by
    intro i hm
    unfold permAt
    have hz : (i == 0) = false := by
      simp only [List.mem_cons, List.not_mem_nil, or_false] at hm
      rcases hm with rfl | rfl | rfl | rfl | rfl | rfl | rfl | rfl | rfl <;> rfl
    rw [hz]
    refine pick_R hK hR _ ?_
    simp only [List.mem_cons, List.not_mem_nil, or_false] at hm
    rcases hm with rfl | rfl | rfl | rfl | rfl | rfl | rfl | rfl | rfl <;> decide
  have hr : List.range 10 = 0 :: [1, 2, 3, 4, 5, 6, 7, 8, 9] := by decide
  unfold permL permT
  rw [hr, List.map_cons, h0]
  exact congrArg _ (List.map_congr_left hi)
noncomputable def okC (c : Nat) : Bool := c != 34 && c != 38 && c != 60 && c != 62
noncomputable def permOk (R : Nat) : Bool :=
  (((rangeInts 1 1 9).filter (pzOf (0 :: permT R))).map fun a => (2 : Int) ^ (9 - a).toNat).sum == (R : Int) && (permT R).all okC
theorem perm_all : ((List.range 512).all fun R => permOk R) = true := by decide +kernel
theorem perm_ok {R : Nat} (hR : R < 512) : permOk R = true := List.all_eq_true.mp perm_all R (List.mem_range.mpr hR)
end
section
noncomputable def EscOne (f : Nat → List Nat) (d : Nat) : Prop := (f d = [d] ∧ d ≠ 38) ∨ ∃ e, (e, [d]) ∈ MARKS ∧ f d = 38 :: (e ++ [59])
theorem reads_flat (f : Nat → List Nat) (hf : ∀ d, EscOne f d) : ∀ l : List Nat, ∃ p0 es, 38 ∉ p0 ∧ GoodE es ∧ l.flatMap f = p0 ++ encE es ∧ l = p0 ++ decE es
  | [] => ⟨[], [], by simp, (fun _ h => nomatch h), rfl, rfl⟩
  | d :: l => by
    obtain ⟨p0, es, h0, hg, h1, h2⟩ := reads_flat f hf l
    rcases hf d with ⟨e1, e2⟩ | ⟨e, e1, e2⟩
    · refine ⟨d :: p0, es, ?_, hg, ?_, ?_⟩
      · simp only [List.mem_cons, not_or]; exact ⟨fun h => e2 h.symm, h0⟩
      · rw [List.flatMap_cons, e1, h1]; rfl
      · rw [List.cons_append, ← h2]
    · refine ⟨[], ((e, [d]), p0) :: es, by simp, ?_, ?_, ?_⟩
      · intro q hq
        rcases List.mem_cons.mp hq with rfl | hq
        · exact ⟨e1, h0⟩
        · exact hg q hq
      · rw [List.flatMap_cons, e2, h1]; simp [encE]
      · rw [List.nil_append]
        show d :: l = ((([d] : List Nat) ++ p0) ++ decE es)
        rw [List.append_assoc, ← h2]; rfl
theorem escOne_C (d : Nat) : EscOne eC d := by
  unfold EscOne eC
  by_cases h1 : d = 38
  · subst h1; exact .inr ⟨[97, 109, 112], by decide, rfl⟩
  by_cases h2 : d = 60
  · subst h2; exact .inr ⟨[108, 116], by decide, rfl⟩
  by_cases h3 : d = 62
  · subst h3; exact .inr ⟨[103, 116], by decide, rfl⟩
  · rw [if_neg h1, if_neg h2, if_neg h3]; exact .inl ⟨rfl, h1⟩
theorem escOne_A (d : Nat) : EscOne eA d := by
  by_cases h1 : d = 34
  · subst h1; exact .inr ⟨[113, 117, 111, 116], by decide, rfl⟩
  by_cases h2 : d = 13
  · subst h2; exact .inr ⟨[35, 49, 51], by decide, rfl⟩
  by_cases h3 : d = 10
  · subst h3; exact .inr ⟨[35, 49, 48], by decide, rfl⟩
  by_cases h4 : d = 9
  · subst h4; exact .inr ⟨[35, 48, 57], by decide, rfl⟩
  have e : eA d = eC d := by unfold eA; rw [if_neg h1, if_neg h2, if_neg h3, if_neg h4]
  have := escOne_C d
  unfold EscOne at this ⊢
  rw [e]; exact this
theorem eC_facts (d : Nat) : (eC d).length ≤ 5 ∧ 60 ∉ eC d ∧ 62 ∉ eC d := by
  unfold eC
  by_cases h1 : d = 38
  · subst h1; decide
  by_cases h2 : d = 60
  · subst h2; decide
  by_cases h3 : d = 62
  · subst h3; decide
  rw [if_neg h1, if_neg h2, if_neg h3]
  exact ⟨by simp, by simpa using Ne.symm h2, by simpa using Ne.symm h3⟩
theorem eA_facts (d : Nat) : (eA d).length ≤ 6 ∧ 60 ∉ eA d ∧ 62 ∉ eA d ∧ 34 ∉ eA d := by
  by_cases h1 : d = 34
  · subst h1; decide
  by_cases h2 : d = 13
  · subst h2; decide
  by_cases h3 : d = 10
  · subst h3; decide
  by_cases h4 : d = 9
  · subst h4; decide
  have e : eA d = eC d := by unfold eA; rw [if_neg h1, if_neg h2, if_neg h3, if_neg h4]
  have h := eC_facts d
  rw [e]
  refine ⟨by omega, h.2.1, h.2.2, ?_⟩
  unfold eC
  by_cases h1 : d = 38
  · subst h1; decide
  by_cases h2 : d = 60
  · subst h2; decide
  by_cases h3 : d = 62
  · subst h3; decide
  rw [if_neg h1, if_neg h2, if_neg h3]
  simp only [List.mem_singleton]; omega
theorem flat_len (f : Nat → List Nat) (k : Nat) (hf : ∀ d, (f d).length ≤ k) : ∀ l : List Nat, (l.flatMap f).length ≤ k * l.length
  | [] => by simp
  | d :: l => by
    have := flat_len f k hf l
    have := hf d
    rw [List.flatMap_cons, List.length_append, List.length_cons, Nat.mul_add]; omega
theorem flat_not {f : Nat → List Nat} {c : Nat} (hf : ∀ d, c ∉ f d) (l : List Nat) : c ∉ l.flatMap f := by
  intro h
  obtain ⟨d, _, hd⟩ := List.mem_flatMap.mp h
  exact hf d hd
theorem cd_of (l : List Nat) (h : l.length ≤ 1000) : CdTo l (escCL l) ∧ ReadsTo (mk (escCL l)) l ∧ 60 ∉ escCL l := by
  obtain ⟨p0, es, h0, hg, h1, h2⟩ := reads_flat eC escOne_C l
  have hl := flat_len eC 5 (fun d => (eC_facts d).1) l
  rw [← escCL_eq] at h1 hl
  refine ⟨⟨rfl, by omega⟩, ⟨p0, es, h0, hg, by rw [h1], h2, by rw [mk_length]; omega⟩, ?_⟩
  rw [escCL_eq]; exact flat_not (fun d => (eC_facts d).2.1) l
theorem at_of (l : List Nat) (h : l.length ≤ 1000) : (escAL l).length ≤ 6 * l.length ∧ ReadsTo (mk (escAL l)) l ∧ 60 ∉ escAL l ∧ 62 ∉ escAL l ∧ 34 ∉ escAL l := by
  obtain ⟨p0, es, h0, hg, h1, h2⟩ := reads_flat eA escOne_A l
  have hl := flat_len eA 6 (fun d => (eA_facts d).1) l
  rw [← escAL_eq] at h1 hl
  refine ⟨hl, ⟨p0, es, h0, hg, by rw [h1], h2, by rw [mk_length]; omega⟩, ?_⟩
  rw [escAL_eq]
  exact ⟨flat_not (fun d => (eA_facts d).2.1) l, flat_not (fun d => (eA_facts d).2.2.1) l, flat_not (fun d => (eA_facts d).2.2.2) l⟩
theorem SG_lt : ∀ c ∈ SG, c < 128 := by decide
theorem KC_ok {K : Nat} (hK : K < 7) : okC (KC K) = true := by
  have : K = 0 ∨ K = 1 ∨ K = 2 ∨ K = 3 ∨ K = 4 ∨ K = 5 ∨ K = 6 := by omega
  rcases this with rfl | rfl | rfl | rfl | rfl | rfl | rfl <;> rfl
theorem perm_facts {K R : Nat} (hK : K < 7) (hR : R < 512) : (permL (KB K + R)).length = 10 ∧ (permL (KB K + R)).getD 0 0 = KC K ∧
    ((((rangeInts 1 1 9).filter (pzOf (permL (KB K + R)))).map fun a => (2 : Int) ^ (9 - a).toNat).sum = (R : Int)) ∧ ∀ c ∈ permL (KB K + R), okC c = true := by
  have ok := perm_ok hR
  unfold permOk at ok
  rw [Bool.and_eq_true, beq_iff_eq] at ok
  rw [perm_split hK hR]
  refine ⟨by simp [permT], rfl, ?_, ?_⟩
  · have e : (rangeInts 1 1 9).filter (pzOf (KC K :: permT R)) = (rangeInts 1 1 9).filter (pzOf (0 :: permT R)) := by
      refine List.filter_congr fun a ha => ?_
      have := mem_rangeInts ha
      unfold pzOf
      obtain ⟨n, hn⟩ : ∃ n, a.toNat = n + 1 := ⟨a.toNat - 1, by omega⟩
      rw [hn]; rfl
    rw [e]; exact ok.1
  · intro c hc
    rcases List.mem_cons.mp hc with rfl | hc
    · exact KC_ok hK
    · exact List.all_eq_true.mp ok.2 c hc
theorem enc_ab : encB [97, 38, 98] = [89, 83, 90, 105] := by decide +kernel
theorem turn_facts (k : Int) (nm : List Nat) (h6 : nm.length ≤ 6) (hm : ∀ c ∈ nm, c ∈ SG) (K R C : Nat) (hK : K < 7) (hR : R < 512) (hC : C < 4) :
    ∃ xs en pm wl el el2, iN nm ++ ((rangeInts 0 1 C).filter fun _ => true).map (fun a => (k.fdiv (256 ^ a.toNat)).fmod 256) = iN xs ∧ (∀ o ∈ xs, o < 256) ∧ xs.length ≤ 9 ∧
      encB xs = en ∧ (∀ y ∈ en, y < 128) ∧ en.length ≤ 100 ∧ DecTo en xs ∧ CdTo en en ∧
      (∀ o ∈ [97, 38, 98] ++ xs, o < 256) ∧ encB ([97, 38, 98] ++ xs) = [89, 83, 90, 105] ++ en ∧
      permL (KB K + R) = pm ∧ pm.length = 10 ∧ pm.getD 0 0 = KC K ∧ (KB K + R) &&& 4095 = R ∧ (KB K + R) &&& 61440 = KB K ∧
      ((((rangeInts 1 1 9).filter (pzOf pm)).map fun a => (2 : Int) ^ (9 - a).toNat).sum = (R : Int)) ∧
      escAL nm = wl ∧ wl.length ≤ 60 ∧ ReadsTo (mk wl) nm ∧ 60 ∉ wl ∧ 62 ∉ wl ∧
      elOf wl pm en = el ∧ el.length ≤ 300 ∧ cutL 34 el = [[60, 102, 32, 110, 61], wl, [32, 114, 61], pm, [62] ++ en ++ [60, 47, 102, 62]] ∧
      CdTo el el2 ∧ ReadsTo (mk el2) el ∧ 60 ∉ el2 := by
  have hxs : ∀ o ∈ nm ++ dgs k C, o < 256 := by
    intro o ho
    rcases List.mem_append.mp ho with ho | ho
    · have := SG_lt o (hm o ho); omega
    · exact dgs_lt k C o ho
  have hxl : (nm ++ dgs k C).length ≤ 9 := by rw [List.length_append, dgs_len]; omega
  obtain ⟨hes, hel⟩ := enc_signs (nm ++ dgs k C)
  obtain ⟨q, ch, pads, hd1, hd2, hd3⟩ := enc_dec (nm ++ dgs k C) hxs
  obtain ⟨p1, p2, p3, p4⟩ := perm_facts hK hR
  obtain ⟨a1, a2, a3, a4, a5⟩ := at_of nm (by omega)
  have hell : (elOf (escAL nm) (permL (KB K + R)) (encB (nm ++ dgs k C))).length ≤ 300 := by
    unfold elOf
    simp only [List.length_append, List.length_cons, List.length_nil]
    rw [p1]
    simp only [List.length_append] at hel hxl
    omega
  obtain ⟨c1, c2, c3⟩ := cd_of _ (Nat.le_trans hell (by decide))
  refine ⟨nm ++ dgs k C, _, _, _, _, _, by rw [dgs_eq, iN_append], hxs, hxl, rfl, fun y hy => (hes y hy).1, by omega, ⟨by omega, fun y hy => (hes y hy).1, fun y hy => (hes y hy).2.1, q, ch, pads, hd1, hd2, hd3⟩,
    ⟨escCL_id _ fun c hc => ⟨(hes c hc).2.2.2.1, (hes c hc).2.2.2.2⟩, by omega⟩, ?_, (enc3 _).trans (congrArg (· ++ encB (nm ++ dgs k C)) enc_ab), rfl, p1, p2, land_mask hK hR, land_hi hK hR, p3, rfl, by omega, a2, a3, a4, rfl, hell, ?_, c1, c2, c3⟩
  · intro o ho
    rcases List.mem_append.mp ho with ho | ho
    · simp only [List.mem_cons, List.not_mem_nil, or_false] at ho; omega
    · exact hxs o ho
  · have e : elOf (escAL nm) (permL (KB K + R)) (encB (nm ++ dgs k C)) = [60, 102, 32, 110, 61] ++ 34 :: (escAL nm ++ 34 :: ([32, 114, 61] ++ 34 :: (permL (KB K + R) ++ 34 :: ([62] ++ encB (nm ++ dgs k C) ++ [60, 47, 102, 62])))) := by
      unfold elOf; simp
    have hp : 34 ∉ permL (KB K + R) := fun h => by have := p4 34 h; revert this; decide
    rw [e, cutL_app 34 _ _ (by decide), cutL_app 34 _ _ a5, cutL_app 34 _ _ (by decide), cutL_app 34 _ _ hp, cutL_free]
    simp only [List.mem_append, List.mem_cons, List.not_mem_nil, or_false, not_or]
    exact ⟨⟨by decide, fun h => (hes 34 h).2.2.1 rfl⟩, by decide, by decide, by decide, by decide⟩
end
section
section
variable {prog : Program} {w : World} {A : Around} {E : Value → Shared → Prop} {s : Shared} {h₀ : Heap} {L : Addr} {m : Str → Option Value} {news : List (Addr × Obj)} {env : Env}
theorem ListComp_rg4 {elt iter : Expr} {x : Str} {px : Pos} {ifs : List Expr} {scope : Scope} {cl : List (Str × Addr)} {pos : Pos} {Q : Value → Shared → Prop} {kk : Int} {n : Nat} (_ : kk.fmod 4 = (n : Int)) (hF : Fr h₀ L s.heap m) (hN : News h₀ L s.heap news)
    (hall : A.handled = none ∧ closureFor scope env = pure cl ∧ (∀ y ∈ scope.names, y.2 ≠ .cell) ∧ scope.kind = .function ∧ (∀ y ∈ scope.names, y.2 = .local → scope.names.lookup y.1 = some .local) ∧ scope.names.lookup x = some .local)
    (h : wpAny (model prog w) A (eval iter env) (fun xv s₁ => ∃ r b₀ t₀ u₀ v₀, xv = .ref r ∧ IsRange s₁.heap r (0) b₀ 1 t₀ u₀ v₀ ∧ Builtin.Range.small (0) b₀ 1 = true ∧ Builtin.Range.rangeSize (0) b₀ 1 = (((n) : Nat) : Int) ∧ (n) ≤ 1000 ∧ Fr h₀ L s₁.heap m ∧ News h₀ L s₁.heap news ∧
      (∀ C a t s₂ m₂ E', a ∈ rangeInts (0) 1 (n) → s₂.heap.Ns (compEnvC scope cl C env).locals m₂ → m₂ x = some (.int a t) → Fr h₀ L s₂.heap m → News h₀ L s₂.heap news →
        wpAny (model prog w) A (forIn ifs true fun c r => if r = true then do let ok ← isTrue c (compEnvC scope cl C env) (eval c (compEnvC scope cl C env)); pure (ForInStep.yield ok) else pure (ForInStep.yield r))
          (fun ok s₃ => ok = (fun _ => true) a ∧ Keeps s₂ s₃) E' s₂) ∧
      (∀ C a t s₂ m₂ E', a ∈ rangeInts (0) 1 (n) → s₂.heap.Ns (compEnvC scope cl C env).locals m₂ → m₂ x = some (.int a t) → Fr h₀ L s₂.heap m → News h₀ L s₂.heap news →
        wpAny (model prog w) A (eval elt (compEnvC scope cl C env)) (fun y s₃ => (∃ t, y = .int ((fun a => (kk.fdiv (256 ^ a.toNat)).fmod 256) a) t) ∧ Keeps s₂ s₃) E' s₂) ∧
      (∀ D (ys : List Value) k h' tk, Fr h₀ L h' m → News h₀ L h' ((D, listOf ys.toArray k) :: news) → (∀ p ∈ news, p.1 ≠ D) → IntsAre ys (((rangeInts (0) 1 (n)).filter (fun _ => true)).map (fun a => (kk.fdiv (256 ^ a.toNat)).fmod 256)) → Q (.ref D) { s₁ with heap := h', toks := tk })) E s)
    (hs : ∀ x, foldedSetIterable iter env x = pure x) :
    wpAny (model prog w) A (eval (.ListComp elt [⟨.Name x px, iter, ifs, 0⟩] scope pos) env) Q E s :=
  ListComp_rg (n := n) (a₀ := 0) (fun _ => true) (fun a => (kk.fdiv (256 ^ a.toNat)).fmod 256) hF hN hall.1 hall.2.1 hall.2.2.1 hall.2.2.2.1 hall.2.2.2.2.1 hall.2.2.2.2.2 h hs
theorem ListComp_rg9 {elt iter : Expr} {x : Str} {px : Pos} {ifs : List Expr} {scope : Scope} {cl : List (Str × Addr)} {pos : Pos} {Q : Value → Shared → Prop} {pm : List Nat} {R : Nat} (_ : ((((rangeInts 1 1 9).filter (pzOf pm)).map fun a => (2 : Int) ^ (9 - a).toNat).sum = (R : Int))) (hF : Fr h₀ L s.heap m) (hN : News h₀ L s.heap news)
    (hall : A.handled = none ∧ closureFor scope env = pure cl ∧ (∀ y ∈ scope.names, y.2 ≠ .cell) ∧ scope.kind = .function ∧ (∀ y ∈ scope.names, y.2 = .local → scope.names.lookup y.1 = some .local) ∧ scope.names.lookup x = some .local)
    (h : wpAny (model prog w) A (eval iter env) (fun xv s₁ => ∃ r b₀ t₀ u₀ v₀, xv = .ref r ∧ IsRange s₁.heap r (1) b₀ 1 t₀ u₀ v₀ ∧ Builtin.Range.small (1) b₀ 1 = true ∧ Builtin.Range.rangeSize (1) b₀ 1 = (((9) : Nat) : Int) ∧ (9) ≤ 1000 ∧ Fr h₀ L s₁.heap m ∧ News h₀ L s₁.heap news ∧
      (∀ C a t s₂ m₂ E', a ∈ rangeInts (1) 1 (9) → s₂.heap.Ns (compEnvC scope cl C env).locals m₂ → m₂ x = some (.int a t) → Fr h₀ L s₂.heap m → News h₀ L s₂.heap news →
        wpAny (model prog w) A (forIn ifs true fun c r => if r = true then do let ok ← isTrue c (compEnvC scope cl C env) (eval c (compEnvC scope cl C env)); pure (ForInStep.yield ok) else pure (ForInStep.yield r))
          (fun ok s₃ => ok = (pzOf pm) a ∧ Keeps s₂ s₃) E' s₂) ∧
      (∀ C a t s₂ m₂ E', a ∈ rangeInts (1) 1 (9) → s₂.heap.Ns (compEnvC scope cl C env).locals m₂ → m₂ x = some (.int a t) → Fr h₀ L s₂.heap m → News h₀ L s₂.heap news →
        wpAny (model prog w) A (eval elt (compEnvC scope cl C env)) (fun y s₃ => (∃ t, y = .int ((fun a => (2 : Int) ^ (9 - a).toNat) a) t) ∧ Keeps s₂ s₃) E' s₂) ∧
      (∀ D (ys : List Value) k h' tk, Fr h₀ L h' m → News h₀ L h' ((D, listOf ys.toArray k) :: news) → (∀ p ∈ news, p.1 ≠ D) → IntsAre ys (((rangeInts (1) 1 (9)).filter (pzOf pm)).map (fun a => (2 : Int) ^ (9 - a).toNat)) → Q (.ref D) { s₁ with heap := h', toks := tk })) E s)
    (hs : ∀ x, foldedSetIterable iter env x = pure x) :
    wpAny (model prog w) A (eval (.ListComp elt [⟨.Name x px, iter, ifs, 0⟩] scope pos) env) Q E s :=
  ListComp_rg (n := 9) (a₀ := 1) (pzOf pm) (fun a => (2 : Int) ^ (9 - a).toNat) hF hN hall.1 hall.2.1 hall.2.2.1 hall.2.2.2.1 hall.2.2.2.2.1 hall.2.2.2.2.2 h hs
end
section
variable {prog : Program} {w : World} {A : Around} {E : Value → Shared → Prop} {s : Shared} {h₀ : Heap} {L : Addr} {m : Str → Option Value} {rest : List (Addr × Obj)}
theorem r_addLL {D1 D2 : Addr} {ys1 ys2 : List Value} {n1 n2 : Nat} {a b : List Int} {outs : List Nat} {Q : Value → Shared → Prop} (F : Fr h₀ L s.heap m) (N : News h₀ L s.heap ((D2, listOf ys2.toArray n2) :: (D1, listOf ys1.toArray n1) :: rest)) (i1 : IntsAre ys1 a) (i2 : IntsAre ys2 b)
    (hs : a ++ b = iN outs) (hl : outs.length ≤ 1000)
    (h : ∀ D ws h', Fr h₀ L h' m → News h₀ L h' ((D, listOf ws.toArray 0) :: (D2, listOf ys2.toArray n2) :: (D1, listOf ys1.toArray n1) :: rest) → (∀ p ∈ (D2, listOf ys2.toArray n2) :: (D1, listOf ys1.toArray n1) :: rest, p.1 < D) → IntsAre ws (iN outs) → Q (.ref D) { s with heap := h' }) :
    wpAny (model prog w) A (binaryOp .Add (.ref D1) (.ref D2)) Q E s := by
  have e := congrArg List.length hs
  rw [List.length_append, iN_length] at e
  refine kmk_add_ints F N (News.isList N (.tail _ (.head _))) (News.isList N (.head _)) i1 i2 (fun D ws h' F' N' l hI => ?_) (by rw [sizeLine_eq]; omega)
  rw [hs] at hI
  exact h D ws h' F' N' l hI
end
theorem with_t {M : Model} {A : Around} {α : Type} {t : Sem α} {Q : α → Shared → Prop} {E : Value → Shared → Prop} {s : Shared} (h1 : 1 ≤ s.toks) (h : wpAny M A t (fun v s' => 1 ≤ s'.toks → Q v s') E s) : wpAny M A t Q E s :=
  wpAny_with_toks (n := 1) h1 (wpAny_mono h (fun _ _ x => x) (fun _ _ e _ => e))
theorem r_addsTo {prog : Program} {w : World} {A : Around} {E : Value → Shared → Prop} {s : Shared} {x y : Str} {a b c : List Nat} {t u : Tok} {Q : Value → Shared → Prop} (hx : x = mk a) (hy : y = mk b) (he : a ++ b = c) (hsz : c.length ≤ 16777216) (h : ∀ t' k, Q (.str (mk c) t') { s with toks := k }) :
    wpAny (model prog w) A (binaryOp .Add (.str x t) (.str y u)) Q E s := by
  subst he; exact r_adds hx hy hsz h
end
section
noncomputable def Dis (W Nm c2 c1 : Addr) (own : List (Addr × Obj)) : Prop := (Nm ≠ W ∧ c2 ≠ W ∧ c1 ≠ W ∧ c2 ≠ Nm ∧ c1 ≠ Nm ∧ c1 ≠ c2) ∧ OwnOff own [W, Nm, c2, c1]
section
variable {prog : Program} {w : World} {A : Around} {E : Value → Shared → Prop} {s : Shared} {h₀ : Heap} {L a : Addr} {m : Str → Option Value} {cn : Str} {cs : Scope} {ccd : Value} {cl : List (Str × Addr)} {W Nm c2 c1 D : Addr} {oD oW oN o2 o1 : Obj} {own news : List (Addr × Obj)}
theorem store_parts {x : Str} {v : Value} {v₀ : Option Value} {Q : Unit → Shared → Prop} (dis : Dis W Nm c2 c1 own) (F : Fr h₀ L s.heap m) (N : News h₀ L s.heap ((D, oD) :: news)) (hlt : ∀ p ∈ news, p.1 < D)
    (hsub : ∀ p ∈ (W, oW) :: (Nm, oN) :: (c2, o2) :: (c1, o1) :: own, p ∈ news) (hc : cl.lookup x = some c2) (hd : o2.data = .cell v₀)
    (h : ∀ h' o', Fr h₀ L h' m → News h₀ L h' ((D, oD) :: (W, oW) :: (Nm, oN) :: (c2, o') :: (c1, o1) :: own) → o'.data = .cell (some v) → (∀ p ∈ (W, oW) :: (Nm, oN) :: (c2, o') :: (c1, o1) :: own, p.1 < D) → Q () { s with heap := h' })
    (hk : cs.kind = .function := by rfl) (hx : (envX cn cs L a ccd cl).kindOf x = some .cell := by rfl) : wpAny (model prog w) A (storeName (envX cn cs L a ccd cl) x v) Q E s := by
  obtain ⟨⟨d1, d2, d3, d4, d5, d6⟩, hown⟩ := dis
  have N' : News h₀ L s.heap ((D, oD) :: (W, oW) :: (Nm, oN) :: (c2, o2) :: (c1, o1) :: own) := fun p hp => N p (by
    rcases List.mem_cons.mp hp with rfl | hp
    · exact .head _
    · exact .tail _ (hsub p hp))
  have lt : ∀ p ∈ (W, oW) :: (Nm, oN) :: (c2, o2) :: (c1, o1) :: own, p.1 < D := fun p hp => hlt p (hsub p hp)
  have lc2 : c2 < D := lt (c2, o2) (by simp)
  refine storeX_C F N' hc (g := fun o' => (D, oD) :: (W, oW) :: (Nm, oN) :: (c2, o') :: (c1, o1) :: own) (.tail (Ne.symm (Nat.ne_of_lt lc2)) (.tail (Ne.symm d2) (.tail (Ne.symm d4) (.head ?_)))) hd (fun h' o' F' N' hd' => h h' o' F' N' hd' ?_) hk hx
  · intro p hp
    rcases List.mem_cons.mp hp with rfl | hp
    · exact d6
    · exact hown p hp c2 (by simp)
  · intro p hp
    simp only [List.mem_cons] at hp
    rcases hp with rfl | rfl | rfl | rfl | hp
    · exact lt (W, oW) (by simp)
    · exact lt (Nm, oN) (by simp)
    · exact lc2
    · exact lt (c1, o1) (by simp)
    · exact lt p (by simp [hp])
theorem append_nm {ns : List Value} {e : Nat} {x : Value} {Q : Value → Shared → Prop} (dis : Dis W Nm c2 c1 own) (F : Fr h₀ L s.heap m) (N : News h₀ L s.heap news) (hsub : ∀ p ∈ (W, oW) :: (Nm, listOf ns.toArray e) :: (c2, o2) :: (c1, o1) :: own, p ∈ news) (hsz : ns.length ≤ 100)
    (h : ∀ h', Fr h₀ L h' m → News h₀ L h' ((W, oW) :: (Nm, listOf (ns ++ [x]).toArray (e + 1)) :: (c2, o2) :: (c1, o1) :: own) → Q .none { s with heap := h' }) : wpAny (model prog w) A (call (.builtin "list.append") [.ref Nm, x]) Q E s := by
  obtain ⟨⟨d1, d2, d3, d4, d5, d6⟩, hown⟩ := dis
  have N' : News h₀ L s.heap ((W, oW) :: (Nm, listOf ns.toArray e) :: (c2, o2) :: (c1, o1) :: own) := fun p hp => N p (hsub p hp)
  refine append_K (news' := (W, oW) :: (Nm, listOf (ns.toArray.push x) (e + 1)) :: (c2, o2) :: (c1, o1) :: own) F N' (.tail (Ne.symm d1) (.head ?_)) (fun h' F' N' => ?_) (by rw [sizeLine_eq]; simp; omega)
  · intro p hp
    simp only [List.mem_cons] at hp
    rcases hp with rfl | rfl | hp
    · exact d4
    · exact d5
    · exact hown p hp Nm (by simp)
  · rw [List.push_toArray] at N'
    exact h h' F' N'
theorem append_ws {ws : List Value} {e : Nat} {x : Value} {Q : Value → Shared → Prop} (dis : Dis W Nm c2 c1 own) (F : Fr h₀ L s.heap m) (N : News h₀ L s.heap ((W, listOf ws.toArray e) :: (Nm, oN) :: (c2, o2) :: (c1, o1) :: own)) (hsz : ws.length ≤ 100)
    (h : ∀ h', Fr h₀ L h' m → News h₀ L h' ((W, listOf (ws ++ [x]).toArray (e + 1)) :: (Nm, oN) :: (c2, o2) :: (c1, o1) :: own) → Q .none { s with heap := h' }) : wpAny (model prog w) A (call (.builtin "list.append") [.ref W, x]) Q E s := by
  obtain ⟨⟨d1, d2, d3, d4, d5, d6⟩, hown⟩ := dis
  refine append_hd F N ?_ (by omega) h
  intro p hp
  simp only [List.mem_cons] at hp
  rcases hp with rfl | rfl | rfl | hp
  · exact d1
  · exact d2
  · exact d3
  · exact hown p hp W (by simp)
end
end
section
section
variable {prog : Program} {w : World} {A : Around} {E : Value → Shared → Prop} {s : Shared}
theorem item_mk {value slice : Expr} {l : List Nat} {i c : Nat} {j : Int} {t u : Tok} {Q : Value → Shared → Prop} (hj : j = (i : Int)) (hi : i < 1000) (hc : l[i]? = some c) (h : Q (.str (mk [c]) s.toks) { s with toks := s.toks + 1 })
    (hs : subscripted slice false (.str (mk l) t) (.int j u) = operate [.str (mk l) t, .int j u] (getItem (.str (mk l) t) (.int j u))) :
    wpAny (model prog w) A (subscriptTail value slice (.str (mk l) t) (.int j u)) Q E s := by
  subst hj
  have hlt : i < l.length := (List.getElem?_eq_some_iff.mp hc).1
  refine tail_any (typeIs_str s _ t) slot_str_getitem.lookup (PyProof.Rows.getItem_str (by simp; omega) ?_ h) hs
  rw [mk_length]
  have e : seqIndex? (i : Int) l.length = some i := by
    unfold seqIndex?; simp; omega
  rw [e]
  show (mk l).cps[i]? = some c
  simpa [mk] using hc
theorem item_at {value slice : Expr} {D : Addr} {vs : List Value} {v : Value} {j : Int} {u : Tok} {Q : Value → Shared → Prop} (hl : s.heap.IsList D vs.toArray) (h0 : 0 ≤ j) (h1 : j < 2 ^ 63) (hx : vs[j.toNat]? = some v) (h : Q v s)
    (hs : subscripted slice false (.ref D) (.int j u) = operate [.ref D, .int j u] (getItem (.ref D) (.int j u))) : wpAny (model prog w) A (subscriptTail value slice (.ref D) (.int j u)) Q E s :=
  tail_any hl.typeIs slot_list_getitem.lookup (wpAny_getItem_list hl h0 h1 (by simpa using hx) h) hs
theorem item_place {value slice : Expr} {pm : List Nat} {a : Int} {t u : Tok} {Q : Value → Shared → Prop} (ha : a ∈ rangeInts 1 1 9) (hl : pm.length = 10) (h : Q (.str (mk [pm.getD a.toNat 0]) s.toks) { s with toks := s.toks + 1 })
    (hs : subscripted slice false (.str (mk pm) t) (.int a u) = operate [.str (mk pm) t, .int a u] (getItem (.str (mk pm) t) (.int a u))) :
    wpAny (model prog w) A (subscriptTail value slice (.str (mk pm) t) (.int a u)) Q E s := by
  have := mem_rangeInts ha
  refine item_mk (i := a.toNat) (by omega) (by omega) ?_ h hs
  rw [List.getD_eq_getElem?_getD, List.getElem?_eq_getElem (by omega)]; rfl
theorem item_perm0 {value slice : Expr} {pm : List Nat} {c : Nat} {t u : Tok} {Q : Value → Shared → Prop} (hl : pm.length = 10) (hc : pm.getD 0 0 = c) (h : Q (.str (mk [c]) s.toks) { s with toks := s.toks + 1 })
    (hs : subscripted slice false (.str (mk pm) t) (.int 0 u) = operate [.str (mk pm) t, .int 0 u] (getItem (.str (mk pm) t) (.int 0 u))) :
    wpAny (model prog w) A (subscriptTail value slice (.str (mk pm) t) (.int 0 u)) Q E s := by
  refine item_mk (i := 0) rfl (by decide) ?_ h hs
  rw [← hc, List.getD_eq_getElem?_getD, List.getElem?_eq_getElem (by omega)]; rfl
theorem item_kind {value slice : Expr} {x : Str} {K : Nat} {t u : Tok} {Q : Value → Shared → Prop} (hx : x = mk [112, 99, 100, 98, 45, 108, 115]) (hK : K < 7) (h : Q (.str (mk [KC K]) s.toks) { s with toks := s.toks + 1 })
    (hs : subscripted slice false (.str x t) (.int (K : Int) u) = operate [.str x t, .int (K : Int) u] (getItem (.str x t) (.int (K : Int) u))) :
    wpAny (model prog w) A (subscriptTail value slice (.str x t) (.int (K : Int) u)) Q E s := by
  subst hx
  refine item_mk (i := K) rfl (by omega) ?_ h hs
  have : K = 0 ∨ K = 1 ∨ K = 2 ∨ K = 3 ∨ K = 4 ∨ K = 5 ∨ K = 6 := by omega
  rcases this with rfl | rfl | rfl | rfl | rfl | rfl | rfl <;> rfl
theorem ne_dash {pm : List Nat} {a : Int} {y : Str} {t u : Tok} {Q : Value → Shared → Prop} (hy : y = mk [45]) (h : Q (.bool (pzOf pm a)) s) : wpAny (model prog w) A (compareOp .NotEq (.str (mk [pm.getD a.toNat 0]) t) (.str y u)) Q E s := by
  subst hy
  refine PyProof.Rows.ne_str ?_
  have e : (mk [pm.getD a.toNat 0] != mk [45]) = pzOf pm a := by
    unfold pzOf
    rw [Bool.eq_iff_iff]
    simp only [bne_iff_ne, ne_eq]
    refine not_congr ⟨fun h => ?_, fun h => by rw [h]⟩
    have := mk_inj h
    simpa using this
  rw [e]; exact h
theorem pow29 {a : Int} {t u : Tok} {Q : Value → Shared → Prop} (ha : a ∈ rangeInts 1 1 9) (h : Q (.int (2 ^ (9 - a).toNat) s.toks) { s with toks := s.toks + 1 }) : wpAny (model prog w) A (binaryOp .Pow (.int 2 t) (.int (9 - a) u)) Q E s := by
  have := mem_rangeInts ha
  exact pow_int_small (by omega) (by omega) (by decide) h
end
end
section
theorem flatten_len (n : Nat) : ∀ nms : List (List Nat), (∀ l ∈ nms, l.length ≤ n) → nms.flatten.length ≤ n * nms.length
  | [], _ => by simp
  | l :: nms, h => by
    have := flatten_len n nms fun q hq => h q (List.mem_cons_of_mem _ hq)
    have := h l (List.mem_cons_self ..)
    rw [List.flatten_cons, List.length_append, List.length_cons, Nat.mul_add]; omega
theorem done_facts (nms : List (List Nat)) (h6 : ∀ l ∈ nms, l.length ≤ 6) (hn : nms.length ≤ 8) :
    ∃ fl wfl, nms.flatten = fl ∧ fl.length ≤ 48 ∧ (nms.map escAL).flatten = wfl ∧ wfl.length ≤ 400 ∧ escAL fl = wfl := by
  have h1 := flatten_len 6 nms h6
  have h2 := (at_of nms.flatten (by omega)).1
  rw [escAL_flat] at h2
  exact ⟨_, _, rfl, by omega, rfl, by omega, escAL_flat nms⟩
section
variable {prog : Program} {w : World} {A : Around} {E : Value → Shared → Prop} {s : Shared}
theorem sum_lens : ∀ ls : List (List Nat), ((ls.map mk).map (·.length)).sum = ls.flatten.length
  | [] => rfl
  | a :: l => by
    have := sum_lens l
    simp only [List.map_cons, List.sum_cons, List.flatten_cons, List.length_append, mk_length] at this ⊢
    omega
theorem join_to {D : Addr} {vs : List Value} {ss : List Str} {ls : List (List Nat)} {fl : List Nat} {x : Str} {t : Tok} {Q : Value → Shared → Prop} (hl : s.heap.IsList D vs.toArray) (hi : StrsAre vs ss) (hs : ss = ls.map mk) (hf : ls.flatten = fl) (hx : x = mk []) (hz : fl.length ≤ 400)
    (h : ∀ t' k, Q (.str (mk fl) t') { s with toks := k }) : wpAny (model prog w) A (call (.builtin "str.join") [.str x t, .ref D]) Q E s := by
  subst hs hf hx
  refine join_list hl hi ?_ fun t' k => ?_
  · rw [sum_lens, mk_length, List.length_nil, Nat.mul_zero]; omega
  · have e : Str.ofString "" = mk [] := by decide +kernel
    rw [← e, joinE_mk]; exact h t' k
theorem map_mk (nms : List (List Nat)) : (nms.map fun l => mk (escAL l)) = (nms.map escAL).map mk := by rw [List.map_map]; rfl
theorem strs_app {x : Str} {t : Tok} : ∀ {vs : List Value} {ss : List Str}, StrsAre vs ss → StrsAre (vs ++ [.str x t]) (ss ++ [x]) := strs_snoc
theorem law_next {ns ws : List Value} {e1 e2 : Nat} {o1 o2 : Obj} {nms : List (List Nat)} {i : Nat} {nm wl : List Nat} {t1 t2 : Tok} {v1 v2 : Option Value} (hns : StrsAre ns (nms.map mk)) (hws : StrsAre ws (nms.map fun l => mk (escAL l))) (hl : nms.length = i) (h6 : ∀ l ∈ nms, l.length ≤ 6)
    (hn : nm.length ≤ 6) (hw : escAL nm = wl) (d1 : o1.data = .cell v1) (d2 : o2.data = .cell v2) : LawP (i + 1) ⟨ns ++ [.str (mk nm) t1], e1, ws ++ [.str (mk wl) t2], e2, o1, o2⟩ := by
  subst hw
  refine ⟨nms ++ [nm], ?_, ?_, by simp [hl], ?_, ⟨_, d1⟩, ⟨_, d2⟩⟩
  · rw [List.map_append]; exact strs_snoc hns
  · rw [List.map_append]; exact strs_snoc hws
  · intro l hm
    rcases List.mem_append.mp hm with hm | hm
    · exact h6 l hm
    · rw [List.mem_singleton.mp hm]; exact hn
end
theorem mem_lw {α : Type} {a b c d : α} {own : List α} : ∀ p ∈ [a, b, c, d], p ∈ a :: b :: c :: d :: own := fun _ hp => List.mem_append_left own hp
theorem own_lw {α : Type} {a b c d : α} {own : List α} : ∀ p ∈ own, p ∈ a :: b :: c :: d :: own := fun _ hp => .tail _ (.tail _ (.tail _ (.tail _ hp)))
theorem rs_nat (C : Nat) : Builtin.Range.rangeSize 0 (C : Int) 1 = (C : Int) := by rw [rangeSize_nat]; omega
theorem ne_int_same {prog : Program} {w : World} {A : Around} {E : Value → Shared → Prop} {s : Shared} {a b : Int} {t u : Tok} {Q : Value → Shared → Prop} (hx : a = b) (h : Q (.bool false) s) : wpAny (model prog w) A (compareOp .NotEq (.int a t) (.int b u)) Q E s := by
  subst hx; exact PyProof.Rows.ne_int (by simpa using h)
section
variable {prog : Program} {w : World} {A : Around} {E : Value → Shared → Prop} {s : Shared} {env : Env} {h₀ : Heap} {target : Expr} {body orelse : List Stmt} {Q : Flow → Shared → Prop}
theorem m_open {h₀ h : Heap} {L : Addr} {m : Str → Option Value} {a b : Value} {P : Prop} (F : Fr h₀ L h m) (h1 : m (Str.ofString "names") = some a) (h2 : m (Str.ofString "writings") = some b)
    (k : ∀ m' : Str → Option Value, m' (Str.ofString "names") = some a → m' (Str.ofString "writings") = some b → Fr h₀ L h m' → P) : P := k m h1 h2 F
theorem law_loop2 {D C S W Nm c2 c1 : Addr} {vs : List Value} {n : Nat} {oc os o2 o1 : Obj} {ks : List Int} {v1 v2 : Option Value} {m₀ : Str → Option Value}
    (hh : A.handled = none) (F : Fr h₀ env.locals s.heap m₀) (N0 : News h₀ env.locals s.heap [(D, listOf vs.toArray n), (C, oc), (S, os), (W, listOf #[] 0), (Nm, listOf #[] 0), (c2, o2), (c1, o1)])
    (hI : IntsAre vs ks) (hl : C < D ∧ S < D ∧ W < D ∧ Nm < D ∧ c2 < D ∧ c1 < D) (h1 : 1 ≤ s.toks) (hn : m₀ (Str.ofString "names") = some (.ref Nm)) (hw : m₀ (Str.ofString "writings") = some (.ref W)) (d1 : o1.data = .cell v1) (d2 : o2.data = .cell v2)
    (hE : PassesOwn (model prog w) A env E)
    (d4 : Nm ≠ W ∧ c2 ≠ W ∧ c1 ≠ W ∧ c2 ≠ Nm ∧ c1 ≠ Nm ∧ c1 ≠ c2)
    (turn : ∀ (PQ : Flow → Shared → Prop) (E' : Value → Shared → Prop), PassesOwn (model prog w) A env E' → (Nm ≠ W ∧ c2 ≠ W ∧ c1 ≠ W ∧ c2 ≠ Nm ∧ c1 ≠ Nm ∧ c1 ≠ c2) → ∀ (c : LawC) i k t (u : Str → Option Value) h tk own, i < ks.length → ks[i]? = some k → LawP i c → 1 ≤ tk → OwnOff own [W, Nm, c2, c1] →
      Fr h₀ env.locals h (kstB (fun z => if LawSt.contains z then u z else m₀ z) (LawPs W Nm c)) → News h₀ env.locals h (LawLed W Nm c2 c1 c ++ own) →
      (∀ h' tk' m' ns' e1' ws' e2' o1' o2', Fr h₀ env.locals h' m' → News h₀ env.locals h' ((W, listOf (List.toArray ws') e2') :: (Nm, listOf (List.toArray ns') e1') :: (c2, o2') :: (c1, o1') :: own) → m' (Str.ofString "names") = some (.ref Nm) → m' (Str.ofString "writings") = some (.ref W) →
        (∀ z, z ≠ Str.ofString "names" → z ≠ Str.ofString "writings" → LawSt.contains z = false → m' z = m₀ z) → LawP (i + 1) ⟨ns', e1', ws', e2', o1', o2'⟩ → PQ .next { s with heap := h', toks := tk' }) →
      wpAny (model prog w) A (assign target env (.int k t)) (fun _ s₃ => wpAny (model prog w) A (execs body env) PQ E' s₃) E' { s with heap := h, toks := tk })
    (done : ∀ (c : LawC) (u : Str → Option Value) h tk, LawP ks.length c → 1 ≤ tk → Fr h₀ env.locals h (kstB (fun z => if LawSt.contains z then u z else m₀ z) (LawPs W Nm c)) → News h₀ env.locals h (LawLed W Nm c2 c1 c) → wpAny (model prog w) A (execs orelse env) Q E { s with heap := h, toks := tk }) :
    wpAny (model prog w) A (pyIter (.ref D)) (fun it s₂ => LoopG prog w A h₀ env target body orelse Q E it s₂) E s := by
  refine law_loop hh F N0 hI hl h1 hn hw d1 d2 hE d4 (fun hE d4 c i k t u h tk own hi hk hP htk ho F9 N9 => ?_) done
  refine turn _ _ hE d4 c i k t u h tk own hi hk hP htk ho F9 N9 ?_
  intro h' tk' m' ns' e1' ws' e2' o1' o2' F' N' hm1 hm2 hsame hp
  refine TurnEnd.intro2 (σ := LawC) F' N' (.inl rfl) own_lw ⟨⟨ns', e1', ws', e2', o1', o2'⟩, mem_lw, rfl, ?_, ?_, hp⟩
  · intro p hp
    simp only [LawPs, List.mem_cons, List.not_mem_nil, or_false] at hp
    rcases hp with rfl | rfl
    · exact hm1
    · exact hm2
  · intro z h1 h2 h3
    exact hsame z (h2 (Str.ofString "names", .ref Nm) (by simp [LawPs])) (h2 (Str.ofString "writings", .ref W) (by simp [LawPs])) h3
end
section
variable {prog : Program} {w : World} {A : Around} {E : Value → Shared → Prop} {s : Shared}
theorem adds_T {x y : Str} {a b c : List Nat} {t u : Tok} {Q : Value → Shared → Prop} (h1 : 1 ≤ s.toks) (hx : x = mk a) (hy : y = mk b) (he : a ++ b = c) (hsz : c.length ≤ 16777216) (h : ∀ t' k, 1 ≤ k → Q (.str (mk c) t') { s with toks := k }) :
    wpAny (model prog w) A (binaryOp .Add (.str x t) (.str y u)) Q E s := with_t h1 (r_addsTo hx hy he hsz fun t' k hk => h t' k hk)
theorem addB_T {x y : Array UInt8} {a b : List Nat} {t u : Tok} {Q : Value → Shared → Prop} (h1 : 1 ≤ s.toks) (hx : x = bA a) (hy : y = bA b) (hsz : a.length + b.length ≤ 16777216) (h : ∀ t' k, 1 ≤ k → Q (.bytes (bA (a ++ b)) t') { s with toks := k }) :
    wpAny (model prog w) A (binaryOp .Add (.bytes x t) (.bytes y u)) Q E s := with_t h1 (r_addB hx hy hsz fun t' k hk => h t' k hk)
theorem join_T {D : Addr} {vs : List Value} {ss : List Str} {ls : List (List Nat)} {fl : List Nat} {x : Str} {t : Tok} {Q : Value → Shared → Prop} (h1 : 1 ≤ s.toks) (hl : s.heap.IsList D vs.toArray) (hi : StrsAre vs ss) (hs : ss = ls.map mk) (hf : ls.flatten = fl) (hx : x = mk []) (hz : fl.length ≤ 400)
    (h : ∀ t' k, 1 ≤ k → Q (.str (mk fl) t') { s with toks := k }) : wpAny (model prog w) A (call (.builtin "str.join") [.str x t, .ref D]) Q E s := with_t h1 (join_to hl hi hs hf hx hz fun t' k hk => h t' k hk)
end
end
section
section
local macro_rules | `(tactic| walk_at "execs cons") => `(tactic| k_fold)

local macro_rules | `(tactic| k_qdec) => `(tactic| decide +kernel)
local macro_rules | `(tactic| walk_at "my sub") => `(tactic| (intro p h; repeat (first | exact h | apply List.Mem.tail)))
local macro_rules | `(tactic| walk_at "my eq") => `(tactic| first | assumption | exact rfl)
local macro_rules | `(tactic| walk_at "my one") => `(tactic| first | assumption | exact Nat.le_add_left 1 _ | ((try dsimp only); omega))
local macro_rules | `(tactic| walk_at "my len") => `(tactic| first | omega | (simp only [List.length_append, List.length_cons, List.length_nil]; omega))
local macro_rules | `(tactic| walk_at "my lc") => `(tactic| exact ⟨rfl, by with_unfolding_all rfl, by decide, rfl, by decide, rfl⟩)


local macro_rules | `(tactic| walk_at "ite") => `(tactic| walk_at "my ite")

local macro_rules | `(tactic| walk_at "ite") => `(tactic| k_dflt (refine ite_neg (by with_reducible exact Bool.false_ne_true) ?_))
local macro_rules | `(tactic| walk_at "my def") => `(tactic| exact t_attrib2 _ _ _ _ (by omega) (by assumption))
local macro_rules | `(tactic| walk_at "my def") => `(tactic| exact t_read2 _ _ _ _ (by assumption))
local macro_rules | `(tactic| walk_at "my def") => `(tactic| exact t_cdata2 _ _ _ _ (by assumption))
local macro_rules | `(tactic| walk_at "my def") => `(tactic| exact t_imode2 _ _ _ _ (by assumption))
local macro_rules | `(tactic| walk_at "my def") => `(tactic| exact t_ifmt2 _ _ _ _ (by assumption))
local macro_rules | `(tactic| walk_at "my def") => `(tactic| exact t_filemode2 _ _ _ _ (by assumption))
local macro_rules | `(tactic| walk_at "my def") => `(tactic| exact t_dec2 _ _ _ _ (by assumption))
local macro_rules | `(tactic| walk_at "my def") => `(tactic| exact t_enc2 _ _ _ _ (bInts_bA _ (by assumption)) (by walk_at "my len") (by assumption))
local macro_rules | `(tactic| walk_at "my def") => `(tactic| exact t_enc2 _ _ _ _ (xs := [97, 38, 98]) (ys := [89, 83, 90, 105]) (by decide +kernel) (by decide) (by exact enc_ab))
local macro_rules | `(tactic| walk_at "exec For Name BinOp cons nil") => `(tactic| k_dflt (refine' For_genF (F := ?F) ?a ?b ?c; (case F => assumption); (case b => (intro _; rfl)); (case c => passes_own)))
local macro_rules | `(tactic| walk_at "exec For Name BinOp") => `(tactic| k_dflt (refine' For_genF (F := ?F) ?a ?b ?c; (case F => assumption); (case b => (intro _; rfl)); (case c => passes_own)))
local macro_rules | `(tactic| walk_at "exec While BoolOp") => `(tactic| (with_reducible refine stop_of ?_))
local macro_rules | `(tactic| walk_at "call builtin:len") => `(tactic| ((with_reducible show wpAny _ _ (call (Value.builtin "len") [Value.str (mk _) _]) _ _ _); k_dflt (refine len_mk (by omega) ?_)))
local macro_rules | `(tactic| walk_at "subscriptTail Name BinOp ref int") => `(tactic| (k_dflt (refine signs_item rfl (by assumption) (by assumption) ?_ (by intro _; with_unfolding_all rfl); intro t')))
local macro_rules | `(tactic| walk_at "inplaceOp Add str str") => `(tactic| (k_dflt (refine iadd_mk (by simp only [List.length_append, List.length_cons, List.length_nil] at *; omega) ?_; intro _ _)))
local macro_rules | `(tactic| walk_at "binaryOp Mod int int") => `(tactic| ((with_reducible show wpAny _ _ (binaryOp _ (Value.int (Nat.cast _) _) _) _ _ _); k_dflt (refine r_modN (k := 10) rfl (by decide) ?_)))
local macro_rules | `(tactic| walk_at "binaryOp FloorDiv int int") => `(tactic| ((with_reducible show wpAny _ _ (binaryOp _ (Value.int (Nat.cast _) _) _) _ _ _); k_dflt (refine r_divN (k := 10) rfl (by decide) ?_)))
local macro_rules | `(tactic| walk_at "binaryOp Mod int int") => `(tactic| k_dflt (refine r_modV (by assumption) (by decide) ?_))
local macro_rules | `(tactic| walk_at "binaryOp Add int int") => `(tactic| ((with_reducible show wpAny _ _ (binaryOp _ (Value.int (Nat.cast _) _) (Value.int (Nat.cast _) _)) _ _ _); k_dflt (refine r_addN ?_)))
local macro_rules | `(tactic| walk_at "binaryOp Add int int") => `(tactic| (k_dflt (refine r_addV (by assumption) rfl ?_)))
local macro_rules | `(tactic| walk_at "eval ListComp") => `(tactic| ((with_reducible show wpAny _ _ (eval (Expr.ListComp (Expr.Call _ _ _ _) _ _ _) _) _ _ _); k_dflt (refine ListComp_sg (by assumption) (by assumption) (by assumption) (by walk_at "my lc") ?_ (by intro _; rfl))))
local macro_rules | `(tactic| walk_at "eval ListComp") => `(tactic| ((with_reducible show wpAny _ _ (eval (Expr.ListComp (Expr.BinOp _ Operator.Mod _ _) _ _ _) _) _ _ _); k_dflt (refine ListComp_rg4 (by assumption) (by assumption) (by assumption) (by walk_at "my lc") ?_ (by intro _; rfl))))
local macro_rules | `(tactic| walk_at "eval ListComp") => `(tactic| ((with_reducible show wpAny _ _ (eval (Expr.ListComp (Expr.BinOp _ Operator.Pow _ _) _ _ _) _) _ _ _); k_dflt (refine ListComp_rg9 (by assumption) (by assumption) (by assumption) (by walk_at "my lc") ?_ (by intro _; rfl))))
local macro_rules | `(tactic| walk_at "binaryOp Pow int int") => `(tactic| (k_dflt (refine pow256 (by assumption) (by assumption) ?_)))
local macro_rules | `(tactic| walk_at "binaryOp FloorDiv int int") => `(tactic| ((with_reducible show wpAny _ _ (binaryOp _ _ (Value.int (256 ^ _) _)) _ _ _); k_dflt (refine fdiv256 (by assumption) (by assumption) ?_)))
local macro_rules | `(tactic| walk_at "call type:bytes") => `(tactic| (k_dflt (refine bytes_hdE (by assumption) (by assumption) (by assumption) (by exact rfl) (by assumption) (by omega) rfl ?_; intro h' t' k' F' N')))
local macro_rules | `(tactic| walk_at "binaryOp Add str str") => `(tactic| (k_dflt (refine adds_T (by walk_at "my one") (by walk_at "my eq") (by walk_at "my eq") (by walk_at "my eq") (by walk_at "my len") ?_; intro t' k' hk9)))
local macro_rules | `(tactic| walk_at "binaryOp Add bytes bytes") => `(tactic| (k_dflt ((first | refine addB_T (a := [97, 38, 98]) (by walk_at "my one") (by decide) rfl (by walk_at "my len") ?_ | refine addB_T (by walk_at "my one") rfl rfl (by walk_at "my len") ?_); intro t' k' hk9)))
local macro_rules | `(tactic| walk_at "call builtin:str.split") => `(tactic| (k_dflt (refine split5 (by assumption) (by assumption) (by assumption) (by assumption) (by omega) ?_; intro D' t0 t1 t2 t3 t4 h' k' F' N' l')))
local macro_rules | `(tactic| walk_at "compareOp NotEq str str") => `(tactic| (k_dflt (refine ne_str_same (by first | assumption | exact rfl) ?_)))
local macro_rules | `(tactic| walk_at "compareOp NotEq bytes bytes") => `(tactic| (k_dflt (refine ne_bytes_same (by first | exact rfl | assumption) ?_)))
local macro_rules | `(tactic| walk_at "call builtin:str.count") => `(tactic| (k_dflt (refine count_free (by assumption) (by assumption) ?_)))
local macro_rules | `(tactic| walk_at "getMethod bytes") => `(tactic| k_dflt (with_reducible refine KBd.method ?_))
local macro_rules | `(tactic| walk_at "call builtin:bytes.decode") => `(tactic| k_dflt (refine decode_ascii rfl (by assumption) (by omega) ?_; intro t' k'))
local macro_rules | `(tactic| walk_at "binaryOp Add ref ref") => `(tactic| (k_dflt (refine r_addLL (by assumption) (by assumption) (by assumption) (by assumption) (by assumption) (by omega) ?_; intro D' ws' h' F' N' l' I')))
local macro_rules | `(tactic| walk_at "subscriptTail Subscript Name Constant Slice str ref") => `(tactic| (k_dflt (refine with_t (by (try dsimp only); omega) ?_; refine slice_1m4 (by assumption) (by assumption) (by omega) ?_; intro h' t' k' F' N'; (try dsimp only); intro hk9)))
local macro_rules | `(tactic| walk_at "call builtin:sum") => `(tactic| (k_dflt (refine r_sum (by assumption) (by assumption) rfl (by assumption) (by assumption) ?_; intro h' t' k' F' N')))
local macro_rules | `(tactic| walk_at "storeName") => `(tactic| (k_dflt (refine store_parts (by assumption) (by assumption) (by assumption) (by assumption) (by walk_at "my sub") rfl (by assumption) ?_; intro h' o' F' N' d' l')))
local macro_rules | `(tactic| walk_at "call builtin:list.append") => `(tactic| (k_dflt (first | refine append_nm (by assumption) (by assumption) (by assumption) (by walk_at "my sub") (by assumption) ?_ | refine append_ws (by assumption) (by assumption) (by assumption) (by assumption) ?_); intro h' F' N'))
local macro_rules | `(tactic| walk_at "subscriptTail Subscript Name Constant Name str int") => `(tactic| (k_dflt (refine item_place (by assumption) (by assumption) ?_ (by with_unfolding_all rfl))))
local macro_rules | `(tactic| walk_at "subscriptTail Subscript Name Constant Constant str int") => `(tactic| (k_dflt (refine item_perm0 (by assumption) (by assumption) ?_ (by with_unfolding_all rfl))))
local macro_rules | `(tactic| walk_at "subscriptTail Name Name str int") => `(tactic| (k_dflt (refine item_kind (by first | assumption | decide +kernel) (by assumption) ?_ (by with_unfolding_all rfl))))
local macro_rules | `(tactic| walk_at "compareOp NotEq str str") => `(tactic| ((with_reducible show wpAny _ _ (compareOp _ (Value.str (mk [List.getD _ _ _]) _) _) _ _ _); k_dflt (refine ne_dash (by assumption) ?_)))
local macro_rules | `(tactic| walk_at "binaryOp Pow int int") => `(tactic| ((with_reducible show wpAny _ _ (binaryOp _ _ (Value.int (9 - _) _)) _ _ _); k_dflt (refine pow29 (by assumption) ?_)))
local macro_rules | `(tactic| walk_at "subscriptTail Name Constant ref int") => `(tactic| (k_dflt (refine item_at (vs := [_, _, _, _, _]) (News.isList (by assumption) (by k_mem)) (by decide) (by decide) (by exact rfl) ?_ (by with_unfolding_all rfl))))
local macro_rules | `(tactic| walk_at "call builtin:str.join") => `(tactic| (k_dflt (refine join_T (by walk_at "my one") (News.isList (by assumption) (by k_mem)) (by assumption) (by first | exact rfl | exact map_mk _) (by assumption) (by decide +kernel) (by omega) ?_; intro t' k' hk9)))
local macro_rules | `(tactic| walk_at "compareOp Eq str str") => `(tactic| (k_dflt (refine eq_str_same (by first | exact rfl | assumption) ?_)))
local macro_rules | `(tactic| walk_at "compareOp NotEq int int") => `(tactic| (k_dflt (refine ne_int_same (by with_reducible rfl) ?_)))
theorem w1 : PySem.Challenge.rw_il0041_01.Holds := hd (by
  k_go0
  (all_goals try k_fold)
  k_steps
  unfold Stop
  with_reducible rename Fr _ _ _ _ => hF
  with_reducible rename News _ _ _ _ => hN
  with_reducible rename IntsAre _ (_ ++ _) => hI
  refine' m_open hF ?m1 ?m2 ?m3
  case m1 => exact rfl
  case m2 => exact rfl
  clear hF
  intro m₀ hm1 hm2 hF
  refine' law_loop2 (F := ?hF) (N0 := ?hN) (hI := ?hI) ?hh ?hl ?h1 ?hn ?hw ?d1 ?d2 ?hE ?d4 ?turn ?done
  case hF => exact hF
  case hN => exact hN
  case hI => exact hI
  case hl => (repeat' (first | omega | refine ⟨?_, ?_⟩))
  case hn => exact hm1
  case hw => exact hm2
  case hh => exact rfl
  case h1 => ((try dsimp only); omega)
  case hE => passes_own
  case d1 => assumption
  case d2 => assumption
  case d4 => exact ⟨by first | omega | (apply Nat.ne_of_lt; omega), by first | omega | (apply Nat.ne_of_lt; omega), by first | omega | (apply Nat.ne_of_lt; omega), by first | omega | (apply Nat.ne_of_lt; omega), by first | omega | (apply Nat.ne_of_lt; omega), by first | omega | (apply Nat.ne_of_lt; omega)⟩
  case turn =>
    clear_value qk ek
    (with_reducible rename CellsAre .. => hz); clear hz
    (with_reducible rename Obj.data _ = _ => hz); clear hz
    (with_reducible rename Obj.data _ = _ => hz); clear hz
    (with_reducible rename Dflts .. => hz); clear hz
    (with_reducible rename Ground .. => hz); clear hz
    (with_reducible rename LooseAre .. => hz); clear hz
    (with_reducible rename Glob .. => hz); clear hz
    (with_reducible rename Heap.CodeRec .. => hz); clear hz
    (with_reducible rename Well .. => hz); clear hz
    (with_reducible rename Reads .. => hz); clear hz
    (with_reducible rename ReadsAll .. => hz); clear hz
    (with_reducible rename ReadsAllW .. => hz); clear hz
    intro PQ E' hPO hd4 c i k t u h tk own hi hk9 hP htk ho F9 N9 hPQ
    obtain ⟨ns, e1, ws, e2, o1, o2⟩ := c
    obtain ⟨nms, hns, hws, hnl, hn6, ⟨v1, d1⟩, ⟨v2, d2⟩⟩ := hP
    dsimp only at hns hws d1 d2 F9 N9
    (try dsimp only [kstB, LawPs] at F9)
    (try simp only [LawLed, List.cons_append, List.nil_append] at N9)
    have hdis : Dis _ _ _ _ own := ⟨hd4, ho⟩
    have hnsl : ns.length ≤ 100 := by have := hns.length; rw [List.length_map] at this; rw [this, hnl]; simp at hi; omega
    have hwsl : ws.length ≤ 100 := by have := hws.length; rw [List.length_map] at this; rw [this, hnl]; simp at hi; omega
    k_steps
    unfold Stop
    with_reducible rename Fr _ _ _ _ => hF2
    with_reducible rename News _ _ _ _ => hN2
    have habs : (if k < 0 then -k else k) = (k.natAbs : Int) := by split <;> omega
    rw [habs, s_empty] at hF2
    refine' while_name (F := ?wF) (N := ?wN) (R0 := k.natAbs) ?w1 ?wr ?wn ?wE ?wturn ?wdone
    case wF => exact hF2
    case wN => exact hN2
    case w1 => ((try dsimp only); omega)
    case wr => with_unfolding_all rfl
    case wn => with_unfolding_all rfl
    case wE => exact hPO
    case wturn =>
      intro c2 u2 h2 tk2 hP2 F8 N8
      obtain ⟨r, nm, tr, tn⟩ := c2
      obtain ⟨hn6', hP3⟩ := hP2
      dsimp only at hn6' hP3 F8 N8
      (try dsimp only [kstB, WhPs] at F8)
      k_steps
      · exact ⟨⟨r / 10, nm ++ [sgn (r % 10)], _, _⟩, _, _, _, _, rfl, by assumption, by assumption, (fun _ h => h), trivial, by kst_all, by (simp only [WhPs]; ksw_same), nameD_go hn6' hP3 (by omega) (by omega), by (try dsimp only); omega⟩
      all_goals (have hz : r = 0 ∨ 6 ≤ nm.length := by omega)
      all_goals exact ⟨rfl, ⟨r, nm, tr, tn⟩, _, _, _, rfl, by assumption, by assumption, by kst_all, by (simp only [WhPs]; ksw_same), nameD_end hP3 hz⟩
    case wdone =>
      intro tr tn r h2 tk2 htk2 F8 N8
      clear hF2 hN2
      have hnm6 := nameD_len 6 k.natAbs
      have hnmm := nameD_mem 6 k.natAbs
      generalize nameD 6 k.natAbs = nm at hnm6 hnmm F8
      obtain ⟨K, hK7, hK⟩ : ∃ K : Nat, K < 7 ∧ (k.fdiv 512).fmod 7 = (K : Int) := ⟨((k.fdiv 512).fmod 7).toNat, by have := Int.fmod_nonneg_of_pos (k.fdiv 512) (b := 7) (by decide); have := Int.fmod_lt_of_pos (k.fdiv 512) (b := 7) (by decide); omega, by have := Int.fmod_nonneg_of_pos (k.fdiv 512) (b := 7) (by decide); omega⟩
      obtain ⟨R, hR, hRe⟩ : ∃ R : Nat, R < 512 ∧ k.fmod 512 = (R : Int) := ⟨(k.fmod 512).toNat, by have := Int.fmod_nonneg_of_pos k (b := 512) (by decide); have := Int.fmod_lt_of_pos k (b := 512) (by decide); omega, by have := Int.fmod_nonneg_of_pos k (b := 512) (by decide); omega⟩
      obtain ⟨C, hC4, hCe⟩ : ∃ C : Nat, C < 4 ∧ k.fmod 4 = (C : Int) := ⟨(k.fmod 4).toNat, by have := Int.fmod_nonneg_of_pos k (b := 4) (by decide); have := Int.fmod_lt_of_pos k (b := 4) (by decide); omega, by have := Int.fmod_nonneg_of_pos k (b := 4) (by decide); omega⟩
      have hKB : ([4096, 8192, 16384, 24576, 32768, 40960, 49152] : List Int).getD (K : Int).toNat 0 = ((KB K : Nat) : Int) := by
        have : K = 0 ∨ K = 1 ∨ K = 2 ∨ K = 3 ∨ K = 4 ∨ K = 5 ∨ K = 6 := by omega
        rcases this with rfl | rfl | rfl | rfl | rfl | rfl | rfl <;> rfl
      obtain ⟨xs, en, pm, wl, el, el2, hxs, hx8, hxl, hen, hen8, henl, hdec, hcd, hx38, hen3, hpm, hpml, hpm0, him, hif, hsum, hwl, hwll, hwr, hw60, hw62, hel, hell, hcut, hcd2, hrd2, h602⟩ := turn_facts k nm hnm6 hnmm K R C hK7 hR hC4
      have hel' : [60, 102, 32, 110, 61, 34] ++ wl ++ [34, 32, 114, 61, 34] ++ pm ++ [34, 62] ++ en ++ [60, 47, 102, 62] = el := hel
      have q9 : Str.ofString "-" = mk [45] := by decide +kernel
      have q10 : Str.ofString "pcdb-ls" = mk [112, 99, 100, 98, 45, 108, 115] := by decide +kernel
      have q1 : Str.ofString "<f n=\"" = mk [60, 102, 32, 110, 61, 34] := by decide +kernel
      have q2 : Str.ofString "\" r=\"" = mk [34, 32, 114, 61, 34] := by decide +kernel
      have q3 : Str.ofString "\">" = mk [34, 62] := by decide +kernel
      have q4 : Str.ofString "</f>" = mk [60, 47, 102, 62] := by decide +kernel
      have q5 : Str.ofString ">" = mk [62] := by decide +kernel
      have q6 : Str.ofString "<" = mk [60] := by decide +kernel
      have q7 : mk [60, 102, 32, 110, 61] = Str.ofString "<f n=" := by decide +kernel
      have q8 : Str.ofString "\"" = mk [34] := by decide +kernel
      (try dsimp only [kstB] at F8)
      dsimp only
      k_steps
      all_goals (try first
        | (with_reducible assumption)
        | ((with_reducible show Keeps _ _); exact ⟨_, _, rfl, fun _ _ e => e⟩)
        | ((with_reducible show Builtin.Range.small _ _ _ = true); exact small_one (by omega) (by omega) (by omega) (by omega))
        | ((with_reducible show Builtin.Range.rangeSize _ _ _ = _); exact rs_nat _)
        | ((with_reducible show News _ _ _ _); assumption))
      all_goals (first | done | exact hPQ _ _ _ _ _ _ _ _ _ (by assumption) (by assumption) (by exact rfl) (by exact rfl) (by (intro z h1 h2 h3; (have h4 := h3); (simp only [LawSt, List.contains_cons, List.contains_nil, Bool.or_false, Bool.or_eq_false_iff, beq_eq_false_iff_ne, ne_eq] at h4); (have h5 : z ∉ LawSt := fun hm => by rw [List.contains_iff_mem.mpr hm] at h3; cases h3); (simp [h1, h2, h4, h5]; done))) (law_next hns hws hnl hn6 hnm6 (by assumption) (by assumption) (by assumption)))
  case done =>
    intro c u h tk hP htk F9 N9
    obtain ⟨ns, e1, ws, e2, o1, o2⟩ := c
    obtain ⟨nms, hns, hws, hnl, hn6, ⟨v1, d1⟩, ⟨v2, d2⟩⟩ := hP
    dsimp only at hns hws d1 d2 F9 N9
    (try dsimp only [kstB, LawPs] at F9)
    (try simp only [LawLed] at N9)
    have hn8 : nms.length ≤ 8 := by
      rw [hnl]; simp; omega
    obtain ⟨fl, wfl, hfl, hf48, hwfl, hw400, hesc⟩ := done_facts nms hn6 hn8
    k_steps)
end
end
end Mine
theorem PySem.Challenge.cw_il0041_01_holds : PySem.Challenge.rw_il0041_01.Holds := by
  exact Mine.w1
