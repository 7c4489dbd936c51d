import PyProof.Rows.All
import Wide.All
import OpenK.AllK
import Wide.FinOn
import PySem.Challenge.RW_je0040_01
set_option Elab.async false
section
open PySem PySem.W PyProof.Rows
set_option maxRecDepth 100000
namespace Jl
noncomputable def bytesOf (x : PySem.Str) : Array UInt8 := (x.cps.toList.map Nat.toUInt8).toArray
theorem fold_bytes : ∀ (cs : List Nat) (acc : Array UInt8), (∀ c ∈ cs, c < 128) → cs.foldl (fun acc y => acc ++ (PySem.Str.utf8Of y).toArray) acc = acc ++ (cs.map Nat.toUInt8).toArray
  | [], acc, _ => by simp
  | c :: r, acc, h => by
    have hc : c < 128 := h c (.head _)
    have e : PySem.Str.utf8Of c = [c.toUInt8] := by unfold PySem.Str.utf8Of; rw [if_pos (by omega)]
    rw [List.foldl_cons, e, fold_bytes r _ fun d hd => h d (.tail _ hd)]
    simp
theorem no_bad {cs : Array Nat} (h : ∀ c ∈ cs.toList, c < 128) : cs.findIdx? PySem.Str.isSurrogate = none := by
  rw [Array.findIdx?_eq_none_iff]
  intro c hc
  have := h c (Array.mem_toList_iff.mpr hc)
  unfold PySem.Str.isSurrogate
  simp; omega
theorem two_turns {σ : Type} (f : Nat → σ → Sem (ForInStep σ)) (b0 b1 : σ) (n : Nat) (h1 : f 0 b0 = pure (.yield b1)) (h2 : ∀ k, f k b1 = pure (.done b1)) : forIn (List.range' 0 (n + 1) 1) b0 f = pure b1 := by
  rw [List.range'_succ, List.forIn_cons, h1]
  simp only [pure_bind]
  cases n with
  | zero => rfl
  | succ n =>
    rw [List.range'_succ, List.forIn_cons, h2]
    simp only [pure_bind]
theorem run_two {σ β : Type} (f : Nat → σ → Sem (ForInStep σ)) (k : σ → Sem β) (b0 b1 : σ) (n : Nat) (h1 : f 0 b0 = pure (.yield b1)) (h2 : ∀ j, f j b1 = pure (.done b1)) : (forIn [: n + 1] b0 f >>= k) = k b1 := by
  rw [Std.Legacy.Range.forIn_eq_forIn_range']
  have e1 : Std.Legacy.Range.size [: n + 1] = n + 1 := by simp [Std.Legacy.Range.size]
  rw [e1]
  show (forIn (List.range' 0 (n + 1) 1) b0 f >>= k) = k b1
  rw [two_turns f b0 b1 n h1 h2, pure_bind]
open PySem.Builtin._codecs in
theorem encode_plain (id : String) (self : Value) (x : PySem.Str) (h : ∀ c ∈ x.cps.toList, c < 128) (hlen : x.length ≤ 1000) : encodeNarrow id utf8Codec none self x = pure (bytesOf x) := by
  have hb : utf8Codec.bad = PySem.Str.isSurrogate := rfl
  have hby : utf8Codec.bytesOf = PySem.Str.utf8Of := rfl
  obtain ⟨⟨cs⟩⟩ := x
  cases cs with
  | nil => 
    unfold encodeNarrow
    have hl : PySem.Str.length ⟨⟨[]⟩⟩ = 0 := rfl
    simp only [hl, Std.Legacy.Range.forIn_eq_forIn_range']
    rfl
  | cons c r =>
    have hc : PySem.Str.isSurrogate c = false := by
      have := h c (.head _)
      unfold PySem.Str.isSurrogate
      simp; omega
    have hn := no_bad (cs := ⟨c :: r⟩) h
    have hf := fold_bytes (c :: r) #[] h
    have hl2 : r.length + 1 ≤ 1000 := hlen
    have ebs : (bytesOf ⟨⟨c :: r⟩⟩).size = r.length + 1 := by simp [bytesOf]
    unfold encodeNarrow
    refine (run_two _ _ _ (r.length + 1, bytesOf ⟨⟨c :: r⟩⟩, {}) r.length ?_ ?_).trans rfl
    · dsimp only
      rw [if_neg (show ¬ (#[] : Array UInt8).size > sizeLine by rw [sizeLine_eq]; decide)]
      show (if (!utf8Codec.bad c) = true then _ else _) = _
      rw [if_pos (show (!utf8Codec.bad c) = true by rw [hb, hc]; rfl)]
      (try dsimp only)
      have ex : ((⟨c :: r⟩ : Array Nat).extract 0 (⟨c :: r⟩ : Array Nat).size) = ⟨c :: r⟩ := by simp
      have es : ((⟨c :: r⟩ : Array Nat).size) = r.length + 1 := rfl
      have ef : Array.foldl (fun acc y => acc ++ (PySem.Str.utf8Of y).toArray) #[] (⟨c :: r⟩ : Array Nat) = bytesOf ⟨⟨c :: r⟩⟩ := by
        rw [List.foldl_toArray]
        show (c :: r).foldl _ #[] = _
        rw [hf]
        simp [bytesOf]
      rw [ex, hb, hn, hby]
      show pure (ForInStep.yield (0 + (⟨c :: r⟩ : Array Nat).size, Array.foldl _ #[] ((⟨c :: r⟩ : Array Nat).extract 0 (⟨c :: r⟩ : Array Nat).size), _)) = _
      rw [ex, ef, es, Nat.zero_add]
    · intro j
      (try dsimp only)
      rw [if_neg (show ¬ (bytesOf ⟨⟨c :: r⟩⟩).size > sizeLine by rw [sizeLine_eq, ebs]; omega)]
      have en : ((⟨c :: r⟩ : Array Nat)[r.length + 1]?) = none := by simp
      rw [en]
theorem gives_encode (x : PySem.Str) (t u : Tok) (h : ∀ c ∈ x.cps.toList, c < 128) (hlen : x.length ≤ 1000) : Gives (Builtin.«str.encode» ⟨[.str x t, .str (Str.ofString "utf-8") u], []⟩) (.bytes (bytesOf x)) :=
  .of_wp fun M A E s Q hq => by
    have e1 := encode_plain "str.encode" (.str x t) x h hlen
    have e2 := encodeRoad_utf8 "str.encode" (.str x t) x none
    obtain ⟨hp, g, d, tk, os⟩ := s
    have c3 : decide ((bytesOf x).size > sizeLine) = false := by
      refine decide_eq_false ?_
      have e : (bytesOf x).size = x.length := by simp [bytesOf, PySem.Str.length]
      rw [e, sizeLine_eq]; omega
    clear h hlen
    have c1 : decide (((Str.ofString "utf-8").cps.any fun x => decide (x ≥ 128)) = true) = false := by decide +kernel
    have c2 : decide ((Str.ofString "utf-8").cps.contains 0 = true) = false := by decide +kernel
    repeat (any_goals (first | assumption | (with_reducible refine wpAny_ite_false c1 ?_) | (with_reducible refine wpAny_ite_false c2 ?_) | (with_reducible refine wpAny_ite_false c3 ?_) | wp_step))
    all_goals exact ⟨_, rfl, hq.2⟩
theorem call_encode {prog : Program} {w : World} {A : Around} {E : Value → Shared → Prop} {s : Shared} {Q : Value → Shared → Prop} {x : PySem.Str} {t u : Tok} (h : ∀ c ∈ x.cps.toList, c < 128) (hlen : x.length ≤ 1000)
    (hq : Q (.bytes (bytesOf x) s.toks) { s with toks := s.toks + 1 }) : wpAny (model prog w) A (call (.builtin "str.encode") [.str x t, .str (Str.ofString "utf-8") u]) Q E s :=
  call_gives F.slot_str_encode (typeIs_str _ _ _) F.entry_str_encode (F.args_str_encode_2 _ _) (gives_encode x t u h hlen) ⟨by
    have e : (bytesOf x).size = x.length := by simp [bytesOf, PySem.Str.length]
    rw [e, sizeLine_eq]; omega, hq⟩
theorem method_encode {M : Model} {A : Around} {E : Value → Shared → Prop} {s : Shared} {x : PySem.Str} {t : Tok} {pl : Sem Bool} {Q : Value × List Value → Shared → Prop} (h : Q (.builtin "str.encode", [.str x t]) s) : wpAny M A (getMethod (.str x t) "encode" pl) Q E s :=
  getMethod_builtin (typeIs_str _ _ _) F.plainAttrs_str F.slot_str_encode F.type_str_encode (fun _ e => nomatch e) h
end Jl
end
section
open PySem PySem.W PyProof.Rows PySem.NumText
set_option maxRecDepth 100000
namespace Jl
/-- a sign's worth -/
noncomputable def hexD (c : Nat) : Nat := if c ≤ 57 then c - 48 else c - 87
noncomputable def IsHex (c : Nat) : Prop := (48 ≤ c ∧ c ≤ 57) ∨ (97 ≤ c ∧ c ≤ 102)
noncomputable def hexV (cs : List Nat) : Nat := cs.foldl (fun a c => a * 16 + hexD c) 0
theorem hex_step {c : Nat} (h : IsHex c) (p : Array Nat × Bool) : NumText.step 16 p c = some (p.1.push (hexD c), true) := by
  unfold NumText.step digit? hexD
  have h95 : (c == 95) = false := by rw [beq_eq_false_iff_ne]; unfold IsHex at h; omega
  rw [h95]
  rcases h with ⟨h1, h2⟩ | ⟨h1, h2⟩
  · have e : (decide (48 ≤ c) && decide (c ≤ 57)) = true := by simp [h1, h2]
    rw [if_neg Bool.false_ne_true, if_pos e, if_pos h2]
    exact if_pos (show c - 48 < 16 by omega)
  · have e : ¬ (decide (48 ≤ c) && decide (c ≤ 57)) = true := by simp; omega
    have e2 : (decide (97 ≤ c) && decide (c ≤ 122)) = true := by simp; omega
    rw [if_neg Bool.false_ne_true, if_neg e, if_pos e2, if_neg (show ¬ c ≤ 57 by omega)]
    exact if_pos (show c - 87 < 16 by omega)
theorem hex_fold : ∀ (cs : List Nat) (p : Array Nat × Bool), (∀ c ∈ cs, IsHex c) → cs.foldlM (NumText.step 16) p = some (p.1 ++ (cs.map hexD).toArray, p.2 || !cs.isEmpty)
  | [], p, _ => by simp
  | c :: r, p, h => by
    rw [List.foldlM_cons, hex_step (h c (.head _)) p]
    show List.foldlM (NumText.step 16) (p.1.push (hexD c), true) r = _
    rw [hex_fold r _ fun d hd => h d (.tail _ hd)]
    simp
theorem dw_none {p : Nat → Bool} {cs : List Nat} (h : ∀ c ∈ cs, p c = false) : cs.dropWhile p = cs := by
  cases cs with
  | nil => rfl
  | cons c r => rw [List.dropWhile_cons, h c (.head _)]; rfl
theorem hex_noblank {c : Nat} (h : IsHex c) : blank c = false := by
  unfold blank; unfold IsHex at h
  simp only [Bool.or_eq_false_iff, Bool.and_eq_false_iff, beq_eq_false_iff_ne, decide_eq_false_iff_not]
  omega
theorem hex_sign {cs : List Nat} (h : ∀ c ∈ cs, c ≠ 45 ∧ c ≠ 43) : sign cs = (false, cs) := by
  unfold sign
  split
  · rename_i r; exact absurd rfl (h 45 (.head _)).1
  · rename_i r; exact absurd rfl (h 43 (.head _)).2
  · rfl
theorem hex_based {cs : List Nat} (h : ∀ c ∈ cs, c ≠ 120 ∧ c ≠ 88) : based 16 cs = (16, false, cs) := by
  unfold based
  split
  · rename_i p hp
    have hne : ((16 : Nat) == 0 || (16 : Nat) == p) = false := by
      refine Bool.or_eq_false_iff.mpr ⟨rfl, beq_eq_false_iff_ne.mpr fun e => ?_⟩
      subst e
      unfold prefix? at hp
      split at hp
      · rename_i c r
        have hc := h c (.tail _ (.head _))
        have e1 : (c == 120 || c == 88) = false := by simp [hc.1, hc.2]
        rw [e1] at hp
        simp only [Bool.false_eq_true, if_false] at hp
        split at hp <;> first | cases hp | (split at hp <;> cases hp)
      · cases hp
    rw [hne]; rfl
  · rfl
theorem read_hex {cs : List Nat} (h : ∀ c ∈ cs, IsHex c) (hn : cs ≠ []) : (int_private% "readNumeral") 0 16 cs = (int_private% "Numeral.value") ((hexV cs : Nat) : Int) := by
  have hb : cs.dropWhile blank = cs := dw_none fun c hc => hex_noblank (h c hc)
  have hr : (cs.reverse.dropWhile blank).reverse = cs := by
    rw [dw_none fun c hc => hex_noblank (h c (List.mem_reverse.mp hc)), List.reverse_reverse]
  have hs : sign cs = (false, cs) := hex_sign fun c hc => by have := h c hc; unfold IsHex at this; omega
  have hba : based 16 cs = (16, false, cs) := hex_based fun c hc => by have := h c hc; unfold IsHex at this; omega
  have hd : digits? 16 cs = some (cs.map hexD).toArray := by
    unfold digits?
    rw [hex_fold cs _ h]
    cases cs with
    | nil => exact absurd rfl hn
    | cons c r => simp
  refine (readNumeral_eq 0 16 cs).trans ?_
  rw [hb, hs]
  dsimp only
  rw [hba]
  dsimp only
  rw [hr, hd]
  have hv : (cs.map hexD).toArray.foldl (fun acc d => acc * 16 + d) 0 = hexV cs := by
    rw [List.foldl_toArray, List.foldl_map]; rfl
  unfold judge
  dsimp only
  have c1 : (!([2, 4, 8, 16, 32] : List Nat).contains 16 && (0 : Nat) != 0 && decide ((cs.map hexD).toArray.size > 0)) = false := rfl
  have c2 : ((16 : Nat) == 10 && decide ((cs.map hexD).toArray.size > 6000)) = false := rfl
  rw [if_neg (by rw [c1]; exact Bool.false_ne_true), if_neg (by rw [c2]; exact Bool.false_ne_true), hv]
  rfl
theorem read_bad {cs : List Nat} (h : ∀ c ∈ cs, IsHex c) : (int_private% "readNumeral") 0 16 (103 :: cs) = int_private% "Numeral.invalid" := by
  have hall : ∀ c ∈ 103 :: cs, 48 ≤ c ∧ c ≤ 103 := fun c hc => by
    rcases List.mem_cons.mp hc with rfl | hc
    · omega
    · have := h c hc; unfold IsHex at this; omega
  have hnb : ∀ c ∈ 103 :: cs, blank c = false := fun c hc => by
    have := hall c hc
    unfold blank
    simp only [Bool.or_eq_false_iff, Bool.and_eq_false_iff, beq_eq_false_iff_ne, decide_eq_false_iff_not]
    omega
  have hb : (103 :: cs).dropWhile blank = 103 :: cs := dw_none hnb
  have hr : ((103 :: cs).reverse.dropWhile blank).reverse = 103 :: cs := by
    rw [dw_none fun c hc => hnb c (List.mem_reverse.mp hc), List.reverse_reverse]
  have hs : sign (103 :: cs) = (false, 103 :: cs) := hex_sign fun c hc => by have := hall c hc; omega
  have hba : based 16 (103 :: cs) = (16, false, 103 :: cs) := hex_based fun c hc => by
    rcases List.mem_cons.mp hc with rfl | hc
    · omega
    · have := h c hc; unfold IsHex at this; omega
  refine (readNumeral_eq 0 16 _).trans ?_
  rw [hb, hs]
  dsimp only
  rw [hba]
  dsimp only
  rw [hr]
  rfl
theorem wp_hex {M : Model} {A : Around} {E : Value → Shared → Prop} {s : Shared} {Q : Value → Shared → Prop} {v : Value} {text : List Nat} {n : Int}
    (hs : (text.takeWhile (· != 0)).length ≤ 640) (hr : (int_private% "readNumeral") 0 16 (text.takeWhile (· != 0)) = (int_private% "Numeral.value") n)
    (ha : ((text.takeWhile (· != 0)).length == text.length) = true) (h : Q (.int n s.toks) { s with toks := s.toks + 1 }) :
    wpAny M A ((int_private% "intFromText") v text 16) Q E s := by
  obtain ⟨hp, g, d, tk, os⟩ := s
  repeat (any_goals (first
    | assumption
    | (with_reducible refine wpAny_ite_true (decide_eq_true hs) ?_)
    | (with_reducible refine wpAny_ite_true (decide_eq_true ha) ?_)
    | wp_step))
  all_goals (try rw [hr])
  all_goals (try dsimp only)
  repeat (any_goals (first
    | assumption
    | (with_reducible refine wpAny_ite_true (decide_eq_true hs) ?_)
    | (with_reducible refine wpAny_ite_true (decide_eq_true ha) ?_)
    | wp_step))
theorem sub_int_self : isSubtype (.type "int") (.type "int") = pure true := F.conv_sub_int
theorem typeCall_int_2 (a b : Value) : checkTypeCall "int" ⟨[a, b], []⟩ = pure () := by kernel_rfl
theorem newCall_int_2 (a b : Value) : checkBuiltinCall "int.__new__" ⟨[.type "int", a, b], []⟩ = pure () := by kernel_rfl
structure HidJ (p : Prop) : Prop where
  out : p
set_option maxHeartbeats 4000000 in
theorem gives_hex {x : PySem.Str} {u t : Tok} (hl : x.length ≤ 640) (hx : ∀ c ∈ x.cps.toList, IsHex c) (hn : x.cps.toList ≠ []) : Gives (Builtin.«int.__new__» ⟨[.type "int", .str x u, .int 16 t], []⟩) (.int ((hexV x.cps.toList : Nat) : Int)) :=
  .of_wp fun M A E s Q h => by
    obtain ⟨hp, g, d, tk, os⟩ := s
    have f1 := F.conv_sub_int
    have f2 := F.madeHere_int
    have f6 : typeOf (.str x u) = pure (.type "str") := rfl
    have ht : numTextOf x = x.cps.toList := if_pos (by
      rw [← Array.all_toList, List.all_eq_true]
      intro c hc
      have := hx c hc; unfold IsHex at this
      exact decide_eq_true (by omega))
    have hse : (numTextOf x).takeWhile (· != 0) = x.cps.toList := by
      rw [ht]
      have key : ∀ l : List Nat, (∀ c ∈ l, IsHex c) → l.takeWhile (· != 0) = l := by
        intro l
        induction l with
        | nil => intro _; rfl
        | cons c r ih =>
          intro hh
          have h0 : (c != 0) = true := by have := hh c (.head _); unfold IsHex at this; simp; omega
          rw [List.takeWhile_cons, h0]
          simp only [if_true]
          rw [ih fun d hd => hh d (.tail _ hd)]
      exact key _ hx
    have hk : HidJ (((numTextOf x).takeWhile (· != 0)).length ≤ 640 ∧ (int_private% "readNumeral") 0 16 ((numTextOf x).takeWhile (· != 0)) = (int_private% "Numeral.value") ((hexV x.cps.toList : Nat) : Int) ∧ (((numTextOf x).takeWhile (· != 0)).length == (numTextOf x).length) = true) := by
      refine ⟨?_, ?_, ?_⟩
      · rw [hse, Array.length_toList]; exact hl
      · rw [hse]; exact read_hex hx hn
      · rw [hse, ht]; exact beq_self_eq_true _
    clear hse ht hx hn hl
    repeat (any_goals (first
      | assumption
      | ((with_reducible show wpAny _ _ ((int_private% "intFromText") _ _ _) _ _ _); refine wp_hex hk.out.1 hk.out.2.1 hk.out.2.2 ?_)
      | wp_step))
    all_goals exact ⟨_, rfl, h⟩
theorem call_hex {prog : Program} {w : World} {A : Around} {E : Value → Shared → Prop} {s : Shared} {Q : Value → Shared → Prop} {x : PySem.Str} {u t : Tok} (hl : x.length ≤ 640) (hx : ∀ c ∈ x.cps.toList, IsHex c) (hn : x.cps.toList ≠ [])
    (h : Q (.int ((hexV x.cps.toList : Nat) : Int) s.toks) { s with toks := s.toks + 1 }) : wpAny (model prog w) A (call (.type "int") [.str x u, .int 16 t]) Q E s :=
  callType_new F.called_int F.newNe_int (typeCall_int_2 _ _) (newCall_int_2 _ _) (fun obj => F.args_object_init_3 obj _ _) F.entry_int_new (gives_hex hl hx hn).meets (show (Made.int _).post _ s from ⟨rfl, h⟩)
end Jl
end
section
open PySem PySem.W PyProof.Rows PySem.Spec
set_option maxRecDepth 100000
namespace Jl
section
variable {prog : Program} {w : World} {A : Around} {R : Result → Shared → Prop} {I : Addr} {fp wr : List Addr} {G : Array GenState → Array GenState → Prop} {P : Nat → Value → Prop} {St : Nat → Shared → Prop}
theorem setLoop_one (W : WalksS prog w A.in1 I fp wr G 1 P St) (S : Addr) (hSf : S ∉ fp) (x : PySem.Str) (hP : ∀ v, P 0 v → ∃ t, v = .str x t) (s : Shared) (hst : St 0 s)
    (hS : s.heap.SetOf (PySem.strKind prog w) S (fun _ => false) 0)
    (hR : ∀ s', Moved (S :: wr) G s s' → s'.heap.SetOf (PySem.strKind prog w) S (fun k => decide (k = x)) 1 → R (.ok (.ret .none)) s') :
    codeAny (model prog w) A (.builtin "set.update.loop" ⟨[.ref S, .ref I], []⟩) R s := by
  have hSw : S ∉ wr := fun h => hSf (W.sub _ h)
  have hsub : ∀ b ∈ wr, b ∈ S :: wr := fun b hb => List.mem_cons_of_mem _ hb
  refine codeAny_builtin F.entry_set_update_loop ?_
  rw [Around.under_plainId F.plain_set_update_loop _]
  show wpAny _ A.in1 (pyNext (.ref I) >>= _) _ _ s
  refine wpAny_bind (W.item 0 s _ _ (by omega) hst fun v s' hv hst' hm => ?_)
  obtain ⟨t, rfl⟩ := hP v hv
  have hS' : s'.heap.SetOf (PySem.strKind prog w) S (fun _ => false) 0 := by
    obtain ⟨o, es, ep, tb, ho, rest⟩ := hS
    exact ⟨o, es, ep, tb, hm.heap S _ hSw ho, rest⟩
  show wpAny _ A.in1 (holding [Value.str x t] (setAdd S (.str x t)) >>= _) _ _ s'
  refine wpAny_bind (wpAny_holding ?_)
  unfold setAdd
  refine wpAny_holding ?_
  refine wpAny_bind ((PySem.strKind prog w).pyHash (k := x) (strKind_is _ _ _ _) ?_)
  refine wpAny_setAddHashed_of (knd := PySem.strKind prog w) (s := { s' with toks := s'.toks + 1 }) (strKind_is _ _ _ _) rfl hS' (by unfold scanBound; omega) fun h' hsb hS2 => ?_
  have hS3 : h'.SetOf (PySem.strKind prog w) S (fun k => decide (k = x)) 1 := SetOf_congr hS2 (fun k => by simp) rfl
  refine wpAny_pure ⟨plainId_quiet F.plain_set_update_loop _, codeAny_builtin F.entry_set_update_loop ?_⟩
  rw [Around.under_plainId F.plain_set_update_loop _]
  show wpAny _ A.in1 (pyNext (.ref I) >>= _) _ _ _
  have hst2 : St 1 { s' with heap := h', toks := s'.toks + 1 } := W.frame _ s' _ _ hst' (Nat.le_succ _) fun b hb o e => by
    rw [hsb.2 b (fun h : b = S => hSf (by rw [← h]; exact hb))]; exact e
  refine wpAny_bind (W.done _ _ _ hst2 fun s'' hm2 => ?_)
  show wpAny _ A.in1 (ret Value.none) _ _ s''
  refine wpAny_pure (hR s'' ?_ ?_)
  · refine Moved.trans W.gtrans ((hm.mono hsub).then_heap (Nat.le_succ _) fun b o hb e => ?_) (hm2.mono hsub)
    rw [hsb.2 b (fun h : b = S => hb (by rw [h]; exact List.mem_cons_self))]; exact e
  · obtain ⟨o, es, ep, tb, ho, rest⟩ := hS3
    exact ⟨o, es, ep, tb, hm2.heap S _ hSw ho, rest⟩
end
section
variable {prog : Program} {w : World} {A : Around} {E : Value → Shared → Prop} {s : Shared} {h₀ : Heap} {L : Addr} {m : PySem.Str → Option Value} {news : List (Addr × Obj)}
set_option maxHeartbeats 3200000 in
theorem set_one {l : Addr} {x : PySem.Str} {t : Tok} {Q : Value → Shared → Prop} (hh : A.handled = none) (hl : s.heap.IsList l #[.str x t])
    (h : ∀ (h' : Heap) (tk : Nat), h'.SetOf (PySem.strKind prog w) s.heap.objs.size (fun k => decide (k = x)) 1 →
      (∀ b o, b < s.heap.objs.size → s.heap.get? b = some o → h'.get? b = some o) → Q (.ref s.heap.objs.size) { s with heap := h', toks := tk }) :
    wpAny (model prog w) A (call (.type "set") [.ref l]) Q E s := by
  obtain ⟨c, tl, hmro⟩ := F.called_set.mro
  have hmade := F.called_set.made
  have hsub := F.called_set.sub
  refine wpAny_call (codeAny_of_tree ?_)
  show wpAny _ _ (callAny (.type "set") _) _ _ _
  refine wpAny_pure ⟨Code.quiet_builtin _ (by decide +kernel), codeAny_builtin F.entry_type_call ?_⟩
  rw [Around.under_plain (weight_type_call_type "set" [.ref l] []) rfl]
  have h1 := F.called_set.notType
  have h2 := F.called_set.canCreate
  have hct := F.typeCall_set_1 (.ref l)
  repeat (any_goals (first | assumption | wp_step))
  refine codeAny_mono (code_set_new_1 (.ref l) (E := E) (Q₁ := fun obj s₁ => ∃ led : Bool, obj = .ref s.heap.objs.size ∧ s₁ = { s with heap := s.heap.push { cls := .type "set", dict := none, data := .set #[] 0 (.fresh 0 0 led) } }) fun led => ⟨led, rfl, rfl⟩) fun r s₁ hr => ?_
  match r, hr with
  | .error e, hr => exact hr
  | .ok .next, hr => exact hr.elim
  | .ok .brk, hr => exact hr.elim
  | .ok .cont, hr => exact hr.elim
  | .ok (.ret obj), hr =>
    obtain ⟨led, rfl, rfl⟩ := hr
    have hS : (s.heap.push { cls := .type "set", dict := none, data := .set #[] 0 (.fresh 0 0 led) }).get? s.heap.objs.size = some { cls := .type "set", dict := none, data := .set #[] 0 (.fresh 0 0 led) } := Heap.get?_push_size _ rfl
    have hT : Shared.TypeIs { s with heap := s.heap.push { cls := .type "set", dict := none, data := .set #[] 0 (.fresh 0 0 led) } } (.ref s.heap.objs.size) "set" := ⟨_, hS, rfl⟩
    have hli := F.called_set.init.lookup
    have hbi := F.called_set.init.bind (.ref s.heap.objs.size)
    repeat (any_goals (first | assumption | wp_step))
    refine codeAny_mono (codeAny_call_builtin (R := wants (fun r s₂ => r = .none ∧ ∃ h' tk, s₂ = { s with heap := h', toks := tk } ∧
        h'.SetOf (PySem.strKind prog w) s.heap.objs.size (fun k => decide (k = x)) 1 ∧
        (∀ b o, b < s.heap.objs.size → s.heap.get? b = some o → h'.get? b = some o)) E) F.called_set.init.plain F.entry_set_init (check_set_init_1 hT ?_)) fun r₂ s₂ hr₂ => ?_
    · obtain ⟨ol, hol, hcl, nl, hdl⟩ := hl
      obtain ⟨ocls, odict, odata, oslots⟩ := ol
      simp only at hcl hdl
      subst hcl; subst hdl
      have hol' : (s.heap.push { cls := .type "set", dict := none, data := .set #[] 0 (.fresh 0 0 led) }).get? l = some { cls := .type "list", dict := odict, data := .seq #[.str x t] nl, slots := oslots } := Heap.get?_push_of_some _ hol
      have hsls := F.sub_list_set
      have hslf := F.sub_list_frozenset
      have hne : (Value.type "list" == Value.type "dict") = false := by decide
      have hl1 : (s.heap.push { cls := .type "set", dict := none, data := .set #[] 0 (.fresh 0 0 led) }).IsList l #[.str x t] := ⟨_, hol', rfl, nl, rfl⟩
      unfold Builtin.«set.__init__» noKeywords Builtin.Frozenset.updateFrom
      generalize hPI : pyIter = PI
      wp_walk
      subst hPI
      refine wpAny_pyIter_list hl1 ?_
      refine wpAny_bind (wpAny_runValue ?_)
      have hlS : l < s.heap.objs.size := Heap.lt_size hol
      have hh3 : A.in1.in1.in1.handled = none := by simp [hh]
      have hneI : l ≠ (s.heap.push { cls := .type "set", dict := none, data := .set #[] 0 (.fresh 0 0 led) }).objs.size := by
        rw [Heap.size_push]; exact Nat.ne_of_lt (Nat.lt_succ_of_lt hlS)
      have hSf : s.heap.objs.size ∉ [(s.heap.push { cls := .type "set", dict := none, data := .set #[] 0 (.fresh 0 0 led) }).objs.size, l] := by
        rw [Heap.size_push]; simp only [List.mem_cons, List.not_mem_nil, or_false, not_or]
        exact ⟨Nat.ne_of_lt (Nat.lt_succ_self _), Nat.ne_of_gt hlS⟩
      refine setLoop_one ((Walks.list hh3 _ l hneI #[.str x t]).toS) s.heap.objs.size hSf x (fun v hv => ⟨t, ?_⟩) _
        ⟨⟨_, Heap.get?_push_size _ rfl, rfl, rfl⟩, (hl1.push _)⟩ ?hS0 ?hR
      · have hv' : (#[Value.str x t] : Array Value)[0]? = some v := hv
        simpa using hv'.symm
      case hS0 =>
        have hget : ((s.heap.push { cls := .type "set", dict := none, data := .set #[] 0 (.fresh 0 0 led) }).push { cls := .type "list_iterator", data := .fields #[.ref l, .int 0 0] }).get? s.heap.objs.size
            = some { cls := .type "set", dict := none, data := .set #[] 0 (.fresh 0 0 led) } := Heap.get?_push_of_some _ hS
        exact (setObjOf_fresh (knd := PySem.strKind prog w) led).setOf hget (by unfold scanBound; omega)
      case hR =>
        intro s' hm hS'
        obtain ⟨h', g', d', tk', os'⟩ := s'
        have eg : g' = s.gens := hm.gens
        have ed : d' = s.drawn := hm.drawn
        have eo : os' = s.os := hm.os
        subst eg; subst ed; subst eo
        show wpAny _ _ _ _ _ _
        refine wpAny_pure ?_
        show wpAny _ _ (ret Value.none) _ _ _
        refine wpAny_pure ⟨rfl, h', tk', rfl, hS', fun b o hb e => ?_⟩
        have hb1 : b ≠ s.heap.objs.size := Nat.ne_of_lt hb
        have hb2 : b ≠ (s.heap.push { cls := .type "set", dict := none, data := .set #[] 0 (.fresh 0 0 led) }).objs.size := by
          rw [Heap.size_push]; exact Nat.ne_of_lt (Nat.lt_succ_of_lt hb)
        exact hm.heap b o (by simp only [List.mem_cons, List.not_mem_nil, or_false, not_or]; exact ⟨hb1, hb2⟩) (Heap.get?_push_of_some _ (Heap.get?_push_of_some _ e))
    · match r₂, hr₂ with
      | .error e, hr₂ => exact hr₂
      | .ok .next, hr₂ => exact hr₂.elim
      | .ok .brk, hr₂ => exact hr₂.elim
      | .ok .cont, hr₂ => exact hr₂.elim
      | .ok (.ret r), hr₂ =>
        obtain ⟨rfl, h', tk, rfl, hS', hk'⟩ := hr₂
        repeat (any_goals (first | assumption | wp_step))
        exact h _ _ hS' hk'
theorem setOne_N {l : Addr} {x : PySem.Str} {t : Tok} {n : Nat} {Q : Value → Shared → Prop} (F : Fr h₀ L s.heap m) (N : News h₀ L s.heap news) (hh : A.handled = none) (hl : (l, PySem.W.listOf #[.str x t] n) ∈ news)
    (h : ∀ D h' (tk : Nat) o, Fr h₀ L h' m → News h₀ L h' ((D, o) :: news) → (∀ p ∈ news, p.1 < D) → o.SetObjOf (PySem.strKind prog w) (fun k => decide (k = x)) 1 → Q (.ref D) { s with heap := h', toks := tk }) :
    wpAny (model prog w) A (call (.type "set") [.ref l]) Q E s := by
  refine set_one hh ⟨_, (N _ hl).1, rfl, n, rfl⟩ fun h' tk hS hk => ?_
  obtain ⟨o, ho, hso⟩ := hS.objOf
  obtain ⟨oL, _, _, hL, _⟩ := F.ns
  have hLlt : L < s.heap.objs.size := Heap.lt_size hL
  refine h _ h' tk o ⟨F.ns.at' fun o' e => hk L o' hLlt e, fun b o' e => hk b o' (Heap.lt_size (F.keep b o' e)) (F.keep b o' e), F.above⟩ (fun p hp => ?_) (fun p hp => Heap.lt_size (N p hp).1) hso
  rcases List.mem_cons.mp hp with rfl | hp
  · refine ⟨ho, Nat.ne_of_gt hLlt, ?_⟩
    cases hq : h₀.get? s.heap.objs.size with
    | none => rfl
    | some o' => exact absurd (Heap.lt_size (F.keep _ _ hq)) (Nat.lt_irrefl _)
  · exact ⟨hk _ _ (Heap.lt_size (N p hp).1) (N p hp).1, (N p hp).2.1, (N p hp).2.2⟩
end
end Jl
end
section
open PySem PySem.W PyProof.Rows PySem.Spec
set_option maxRecDepth 100000
namespace Jl
section
variable {prog : Program} {w : World} {A : Around} {E : Value → Shared → Prop} {s : Shared} {h₀ : Heap} {L : Addr} {m : PySem.Str → Option Value} {news : List (Addr × Obj)}
theorem setNil_N {l : Addr} {n : Nat} {Q : Value → Shared → Prop} (F : Fr h₀ L s.heap m) (N : News h₀ L s.heap news) (hh : A.handled = none) (hl : (l, PySem.W.listOf #[] n) ∈ news)
    (h : ∀ D h' (tk : Nat) o, Fr h₀ L h' m → News h₀ L h' ((D, o) :: news) → (∀ p ∈ news, p.1 < D) → o.SetObjOf (intKind prog w) (fun _ => false) 0 → Q (.ref D) { s with heap := h', toks := tk }) :
    wpAny (model prog w) A (call (.type "set") [.ref l]) Q E s := by
  refine PySem.call_set_list (items := #[]) (ns := []) hh ⟨_, (N _ hl).1, rfl, n, rfl⟩ .nil (by unfold scanBound; decide) fun h' tk hS hk => ?_
  have hS0 : h'.SetOf (intKind prog w) s.heap.objs.size (fun _ => false) 0 := SetOf_congr hS (fun k => rfl) rfl
  obtain ⟨o, ho, hso⟩ := hS0.objOf
  obtain ⟨oL, _, _, hL, _⟩ := F.ns
  have hLlt : L < s.heap.objs.size := Heap.lt_size hL
  refine h _ h' tk o ⟨F.ns.at' fun o' e => hk L o' hLlt e, fun b o' e => hk b o' (Heap.lt_size (F.keep b o' e)) (F.keep b o' e), F.above⟩ (fun p hp => ?_) (fun p hp => Heap.lt_size (N p hp).1) hso
  rcases List.mem_cons.mp hp with rfl | hp
  · refine ⟨ho, Nat.ne_of_gt hLlt, ?_⟩
    cases hq : h₀.get? s.heap.objs.size with
    | none => rfl
    | some o' => exact absurd (Heap.lt_size (F.keep _ _ hq)) (Nat.lt_irrefl _)
  · exact ⟨hk _ _ (Heap.lt_size (N p hp).1) (N p hp).1, (N p hp).2.1, (N p hp).2.2⟩
end
end Jl
end
section
open PySem PySem.W PyProof.Rows PySem.Spec
set_option maxRecDepth 100000
namespace Jl
section
variable {prog : Program} {w : World} {A : Around} {E : Value → Shared → Prop} {s : Shared} {env : Env} {h₀ : Heap} {x : PySem.Str} {body : List Stmt} {Q : Flow → Shared → Prop}
noncomputable def EndA (h₀ : Heap) (L : Addr) (Jn : (PySem.Str → Option Value) → List (Addr × Obj) → Prop) (I : Addr) (o : Obj) (s s₂ : Shared) : Prop :=
  ∃ h' tk m' nx, s₂ = { s with heap := h', toks := tk } ∧ Fr h₀ L h' m' ∧ News h₀ L h' ((I, o) :: nx) ∧ (∀ p ∈ nx, p.1 ≠ I) ∧ Jn m' nx
noncomputable def PostA (h₀ : Heap) (L : Addr) (Jn : (PySem.Str → Option Value) → List (Addr × Obj) → Prop) (I : Addr) (o : Obj) (s : Shared) (Q : Flow → Shared → Prop) (f : Flow) (s₂ : Shared) : Prop :=
  match f with
  | .ret v => Q (.ret v) s₂
  | .brk => Q .next s₂
  | _ => EndA h₀ L Jn I o s s₂
theorem text_loopA {xt : PySem.Str} {tx : Tok} {m₀ : PySem.Str → Option Value} {news : List (Addr × Obj)} (J : Nat → (PySem.Str → Option Value) → List (Addr × Obj) → Prop)
    (hasc : xt.cps.all (· < 128) = true) (hh : A.handled = none) (F : Fr h₀ env.locals s.heap m₀) (N : News h₀ env.locals s.heap news) (hj : J 0 m₀ news)
    (turn : ∀ i n t m₁ nx h tk I o, xt.cps[i]? = some n → J i m₁ nx → (∀ p ∈ nx, p.1 ≠ I) → Fr h₀ env.locals h (fun y => if y = x then some (.str ⟨#[n]⟩ t) else m₁ y) → News h₀ env.locals h ((I, o) :: nx) →
      wpAny (model prog w) A (execs body env) (PostA h₀ env.locals (J (i + 1)) I o s Q) E { s with heap := h, toks := tk })
    (done : ∀ m₁ nx h tk, J xt.cps.size m₁ nx → Fr h₀ env.locals h m₁ → News h₀ env.locals h nx → Q .next { s with heap := h, toks := tk }) :
    wpAny (model prog w) A (pyIter (.str xt tx)) (fun it s₂ => LoopAtV prog w A h₀ env x body Q E it s₂) E s := by
  refine wpAny_pyIter_ascii hasc ?_
  have hlt : ∀ p ∈ news, p.1 ≠ s.heap.objs.size := fun p hp => Nat.ne_of_lt (Heap.lt_size (N p hp).1)
  refine ⟨_, [s.heap.objs.size], [s.heap.objs.size], xt.cps.size, SignAt xt, _, m₀, news, J, rfl, Walks.strAscii hh _ xt tx, ?_, ?_, ?_, ⟨_, Heap.get?_push_size _ rfl, rfl, rfl⟩, F.push _, (fun p hp => ⟨Heap.get?_push_of_some _ (N p hp).1, (N p hp).2⟩), hj, ?_, ?_⟩
  · intro hm
    exact absurd F.ns.lt ((List.mem_singleton.mp hm) ▸ Nat.lt_irrefl _)
  · intro b hb
    rw [List.mem_singleton.mp hb]
    exact next_is_new F
  · intro p hp hI
    exact hlt p hp (List.mem_singleton.mp hI)
  · rintro i v m₁ nx s₁ own ⟨hh', tk', rfl⟩ hi ⟨n, u, hn, rfl⟩ hJ hoff hown hget hall ⟨oI, hoI, _⟩ F₁ N₁
    have hmem : (s.heap.objs.size, oI) ∈ own := hall _ (List.mem_singleton.mpr rfl) (next_is_new F) oI hoI
    have hone : ∀ p ∈ own, p = (s.heap.objs.size, oI) := fun p hp => by
      have e := List.mem_singleton.mp (hown p hp)
      have g := hget p hp
      obtain ⟨a, o⟩ := p
      simp only at e g
      subst e
      rw [hoI] at g
      cases g; rfl
    have hne : ∀ p ∈ nx, p.1 ≠ s.heap.objs.size := fun p hp e => hoff p hp (List.mem_singleton.mpr e)
    refine wpAny_mono (turn i n u m₁ nx hh' tk' s.heap.objs.size oI hn hJ hne F₁ (fun p hp => ?_)) (fun f s₂ q => ?_) fun _ _ e => e
    · rcases List.mem_cons.mp hp with rfl | hp
      · exact N₁ _ (List.mem_append_left _ hmem)
      · exact N₁ _ (List.mem_append_right _ hp)
    · have fin : EndA h₀ env.locals (J (i + 1)) s.heap.objs.size oI s s₂ → LoopStepU h₀ env.locals [s.heap.objs.size] own (J (i + 1)) { s with heap := hh', toks := tk' } .next s₂ := by
        rintro ⟨h', tk, m', nx', e, F', N', hn', hJ'⟩
        refine ⟨rfl, h', tk, m', nx', e, F', fun p hp => ?_, fun p hp hI => hn' p hp (List.mem_singleton.mp hI), hJ'⟩
        rcases List.mem_append.mp hp with hp | hp
        · rw [hone p hp]; exact N' _ (.head _)
        · exact N' p (.tail _ hp)
      cases f with
      | ret v => exact .ret q
      | brk => exact .brk q
      | next => exact .next (fin q)
      | cont => exact .cont (fin q)
  · rintro h' tk' m' nx F' N' _ hJ
    exact done m' nx h' tk' hJ F' N'
end
end Jl
end
section
open PySem PySem.W PyProof.Rows PyProof.Rows.LCg
set_option maxRecDepth 100000
namespace Jl
/-- a short text of ASCII signs -/
noncomputable def Small (K : Nat) (x : PySem.Str) : Prop := x.length ≤ K ∧ ∀ c ∈ x.cps.toList, c < 128
theorem fold_txt (g : PySem.Str) (hg : ∀ c ∈ g.cps.toList, c < 128) (K : Nat) : ∀ (ps : List PySem.Str) (acc : Array Nat), (∀ q ∈ ps, Small K q) → (∀ c ∈ acc.toList, c < 128) →
    (ps.foldl (fun acc q => acc ++ g.cps ++ q.cps) acc).size ≤ acc.size + ps.length * (K + g.length) ∧ ∀ c ∈ (ps.foldl (fun acc q => acc ++ g.cps ++ q.cps) acc).toList, c < 128
  | [], acc, _, ha => ⟨by simp, ha⟩
  | q :: r, acc, h, ha => by
    have hq := h q (.head _)
    have i := fold_txt g hg K r (acc ++ g.cps ++ q.cps) (fun z hz => h z (.tail _ hz)) (fun c hc => by
      rw [Array.toList_append, Array.toList_append] at hc
      rcases List.mem_append.mp hc with hc | hc
      · rcases List.mem_append.mp hc with hc | hc
        · exact ha c hc
        · exact hg c hc
      · exact hq.2 c hc)
    refine ⟨?_, i.2⟩
    have h1 := i.1
    have h2 := hq.1
    rw [List.foldl_cons, List.length_cons, Nat.succ_mul]
    rw [Array.size_append, Array.size_append] at h1
    unfold PySem.Str.length at h2 h1 ⊢
    omega
theorem join_small {g : PySem.Str} {K : Nat} {ps : List PySem.Str} (hg : ∀ c ∈ g.cps.toList, c < 128) (h : ∀ q ∈ ps, Small K q) {k : Nat} (hk : ps.length * (K + g.length) ≤ k) (hk0 : K ≤ k) : Small k (Txt.join g ps) := by
  match ps, h, hk with
  | [], _, _ => exact ⟨by show 0 ≤ k; omega, fun c hc => by
      have e : (Txt.join g []).cps.toList = [] := rfl
      rw [e] at hc; cases hc⟩
  | q :: r, h, hk =>
    have hq := h q (.head _)
    have i := fold_txt g hg K r q.cps (fun z hz => h z (.tail _ hz)) hq.2
    refine ⟨?_, i.2⟩
    have h1 := i.1
    have h2 := hq.1
    rw [List.length_cons, Nat.succ_mul] at hk
    show (r.foldl (fun acc q => acc ++ g.cps ++ q.cps) q.cps).size ≤ k
    unfold PySem.Str.length at h2 hk h1
    omega
theorem abc_small {v : Int} (h0 : 0 ≤ v) (h1 : v < 3) : Small 1 (Txt.item (Str.ofString "abc") v) := by
  have : v = 0 ∨ v = 1 ∨ v = 2 := by omega
  rcases this with rfl | rfl | rfl
  · exact ⟨by decide +kernel, by decide +kernel⟩
  · exact ⟨by decide +kernel, by decide +kernel⟩
  · exact ⟨by decide +kernel, by decide +kernel⟩
theorem strs_snoc {x : PySem.Str} {t : Tok} : ∀ {vs : List Value} {ys : List PySem.Str}, StrsAre vs ys → StrsAre (vs ++ [.str x t]) (ys ++ [x])
  | _, _, .nil => .cons x t .nil
  | _, _, .cons y u h => .cons y u (strs_snoc h)
/-- what a comprehension of short texts has made so far -/
noncomputable def Texts (K i : Nat) (ys : List Value) : Prop := ∃ zs : List PySem.Str, StrsAre ys zs ∧ zs.length = i ∧ ∀ z ∈ zs, Small K z
theorem texts_nil {K : Nat} : Texts K 0 [] := ⟨[], .nil, rfl, fun _ h => nomatch h⟩
theorem texts_snoc {K i : Nat} {ys : List Value} {x : PySem.Str} {t : Tok} (h : Texts K i ys) (hx : Small K x) : Texts K (i + 1) (ys ++ [.str x t]) := by
  obtain ⟨zs, h1, h2, h3⟩ := h
  refine ⟨zs ++ [x], strs_snoc h1, by simp [h2], fun z hz => ?_⟩
  rcases List.mem_append.mp hz with hz | hz
  · exact h3 z hz
  · rw [List.mem_singleton.mp hz]; exact hx
theorem sum_small {K : Nat} : ∀ {zs : List PySem.Str}, (∀ z ∈ zs, Small K z) → (zs.map (·.length)).sum ≤ zs.length * K
  | [], _ => by simp
  | z :: r, h => by
    have a := sum_small fun q hq => h q (.tail _ hq)
    have b := (h z (.head _)).1
    rw [List.map_cons, List.sum_cons, List.length_cons, Nat.succ_mul]
    omega
/-- the join of a made list of short texts -/
theorem join_texts {prog : Program} {w : World} {A : Around} {E : Value → Shared → Prop} {s : Shared} {Q : Value → Shared → Prop} {h₀ : Heap} {L D : Addr} {g : PySem.Str} {t : Tok} {K i k : Nat} {ys : List Value} {news : List (Addr × Obj)} (N : News h₀ L s.heap news) (md : (D, lst ys) ∈ news) (h : Texts K i ys) (hi : i ≤ 100) (hK : K ≤ 100) (hg : Small 16 g)
    (hk : i * (K + g.length) ≤ k) (hk0 : K ≤ k) (hq : ∀ x t' tk', Small k x → Q (.str x t') { s with toks := tk' }) : wpAny (model prog w) A (call (.builtin "str.join") [.str g t, .ref D]) Q E s := by
  obtain ⟨zs, h1, h2, h3⟩ := h
  have hs := sum_small h3
  rw [h2] at hs
  have hm : i * K ≤ 100 * 100 := Nat.mul_le_mul hi hK
  refine join_listW (items := ys.toArray) ⟨_, (N _ md).1, rfl, _, rfl⟩ (by simpa using h1) hg.1 (by rw [h2]; omega) fun t' k' => ?_
  exact hq _ t' k' (join_small hg.2 h3 (by rw [h2]; exact hk) hk0)
end Jl
end
section
open PySem PySem.W PySem.Spec PySem.Calls PyProof.Rows
open PyProof.Rows.LCg PyProof.Rows.LCt
set_option maxRecDepth 100000
namespace Jl
section
variable {prog : Program} {w : World} {A : Around} {s : Shared} {h₀ : Heap} {L : Addr} {m : Str → Option Value} {env : Env}
/-- the turns of a comprehension by an invariant over the items made so far and the ledger -/
theorem compRest_inv {elt : Expr} {x : Str} {scope : Scope} {cl : List (Str × Addr)} {S : List (Addr × Obj) → Prop} {P : Nat → Value → Prop} {Fin : List Value → List (Addr × Obj) → Prop} (n : Nat) (J : Nat → List Value → List (Addr × Obj) → Prop)
    (turn : ∀ i ys nx, i < n → J i ys nx → ∀ v I oI C oC D m₂ h tk (E' : Value → Shared → Prop), P i v → NsObj oC m₂ → m₂ x = some v → Fr h₀ L h m → News h₀ L h ((I, oI) :: (C, oC) :: (D, lst ys) :: nx) → Off3 I C D nx → ((@Ne Nat I C) ∧ (@Ne Nat I D) ∧ (@Ne Nat C D)) →
      wpAny (model prog w) A (eval elt (compEnvC scope cl C env)) (CompEnd h₀ L m { s with heap := h, toks := tk } I oI C oC D (lst ys) S (fun y nx' => J (i + 1) (ys ++ [y]) nx')) E' { s with heap := h, toks := tk })
    (fin : ∀ ys nx, J n ys nx → Fin ys nx) : ∀ k i ys nx, i + k = n → J i ys nx → CompRest prog w A h₀ L m env elt x scope cl s S P Fin k i ys nx
  | 0, i, ys, nx, hk, hJ => by
    have : i = n := by omega
    subst this
    exact CompRest.zero (fin ys nx hJ)
  | k + 1, i, ys, nx, hk, hJ => by
    refine CompRest.succ fun v I oI C oC D m₂ h tk E' hv hC hx F N off ne => ?_
    refine wpAny_mono (turn i ys nx (by omega) hJ v I oI C oC D m₂ h tk E' hv hC hx F N off ne) (fun y s' hy => ?_) fun _ _ e => e
    obtain ⟨h', tk', nx', e, F', N', off', hS, hJ'⟩ := hy
    exact ⟨h', tk', nx', e, F', N', off', hS, compRest_inv n J turn fin k (i + 1) _ _ (by omega) hJ'⟩
/-- the turns of a comprehension of which no item passes the test -/
theorem compRestT_none {ct elt : Expr} {x : Str} {scope : Scope} {cl : List (Str × Addr)} {S : List (Addr × Obj) → Prop} {P : Nat → Value → Prop} {Fin : List Value → List (Addr × Obj) → Prop} (n : Nat) (nx : List (Addr × Obj))
    (turn : ∀ i, i < n → ∀ v I oI C oC D m₂ h tk (E' : Value → Shared → Prop), P i v → NsObj oC m₂ → m₂ x = some v → Fr h₀ L h m → News h₀ L h ((I, oI) :: (C, oC) :: (D, lst []) :: nx) → Off3 I C D nx → ((@Ne Nat I C) ∧ (@Ne Nat I D) ∧ (@Ne Nat C D)) →
      wpAny (model prog w) A (isTrue ct (compEnvC scope cl C env) (eval ct (compEnvC scope cl C env))) (fun ok s' => ok = false ∧ ∃ h' tk', s' = { s with heap := h', toks := tk' } ∧ Fr h₀ L h' m ∧ News h₀ L h' ((I, oI) :: (C, oC) :: (D, lst []) :: nx)) E' { s with heap := h, toks := tk })
    (hS : S nx) (fin : Fin [] nx) : ∀ k i, i + k = n → CompRestT prog w A h₀ L m env ct elt x scope cl s S P Fin k i [] nx
  | 0, i, hk => CompRestT.zero fin
  | k + 1, i, hk => by
    refine CompRestT.succ fun v I oI C oC D m₂ h tk E' hv hC hx F N off ne => ?_
    refine wpAny_mono (turn i (by omega) v I oI C oC D m₂ h tk E' hv hC hx F N off ne) (fun ok s' hy => ?_) fun _ _ e => e
    obtain ⟨rfl, h', tk', rfl, F', N'⟩ := hy
    simp only [Bool.false_eq_true, if_false]
    exact ⟨h', tk', nx, rfl, F', N', off, hS, compRestT_none n nx turn hS fin k (i + 1) (by omega)⟩
end
/-- the texts of a list -/
theorem dat_texts (nm : Nat → PySem.Str) : ∀ (vs : List Value) (k : Nat), (∀ (j : Nat) (v : Value), vs[j]? = some v → ∃ t, v = Value.str (nm (k + j)) t) → PySem.W.DatAll [] vs ((List.range' k vs.length).map fun i => PySem.W.Dat.str (nm i))
  | [], _, _ => .nil
  | v :: vs, k, h => by
    obtain ⟨t, rfl⟩ := h 0 v rfl
    exact .cons (PySem.W.DatIn.str _ t) (dat_texts nm vs (k + 1) fun j v' e => by
      have := h (j + 1) v' e
      rw [show k + 1 + j = k + (j + 1) by omega]; exact this)
theorem snoc_texts {nm : Nat → PySem.Str} {ys : List Value} {i : Nat} {t : Tok} (hl : ys.length = i) (h : ∀ (j : Nat) (v : Value), ys[j]? = some v → ∃ t, v = Value.str (nm j) t) :
    ∀ (j : Nat) (v : Value), (ys ++ [Value.str (nm i) t])[j]? = some v → ∃ t, v = Value.str (nm j) t := by
  intro j v e
  rw [List.getElem?_append] at e
  split at e
  · exact h j v e
  · rename_i hj
    have : j = i := by
      rcases Nat.lt_or_ge (j - ys.length) 1 with h1 | h1
      · omega
      · rw [List.getElem?_eq_none (by simpa using h1)] at e; cases e
    subst this
    rw [hl, Nat.sub_self] at e
    exact ⟨t, (Option.some.inj e).symm⟩
end Jl
end
section
open PySem PySem.W PyProof.Rows
open PySem.Sem (wp)
set_option maxRecDepth 100000
namespace Jl
/-- the claim's caller stands below -/
noncomputable def HasB (Γ : Ctx) : Prop := (Γ.below.map (·.1)).any Code.isCaller = true
theorem HasB.enter {Γ : Ctx} (h : HasB Γ) (c : Code) (hd : Option Value) (p : Pos) : HasB (Γ.enter c hd p) := by
  unfold HasB at *
  simp only [Ctx.enter, List.map_cons, List.any_cons, h, Bool.or_true]
theorem HasB.goto {Γ : Ctx} (h : HasB Γ) (c : Code) : HasB (Γ.goto c) := h
noncomputable def wpC {α : Type} (M : Model) (A : Around) (t : Sem α) (Q : α → Shared → Prop) (E : Value → Shared → Prop) (s : Shared) : Prop :=
  ∀ Γ p, Γ.In A → HasB Γ → wp M Γ t (fun a _ s' => Q a s') (fun e _ s' => E e s') p s
noncomputable def codeC (M : Model) (A : Around) (c : Code) (R : Result → Shared → Prop) (s : Shared) : Prop :=
  ∀ Γ p, Γ.code = c → Γ.Below A → HasB Γ → wpCode M Γ R p s
section
variable {α β : Type} {M : Model} {A : Around} {E : Value → Shared → Prop} {s : Shared}
theorem wpC_any {t : Sem α} {Q : α → Shared → Prop} (h : wpAny M A t Q E s) : wpC M A t Q E s := fun Γ p hΓ _ => h Γ p hΓ
theorem codeC_any {c : Code} {R : Result → Shared → Prop} (h : codeAny M A c R s) : codeC M A c R s := fun Γ p hc hΓ _ => h Γ p hc hΓ
theorem wpC_mono {t : Sem α} {Q Q' : α → Shared → Prop} {E' : Value → Shared → Prop} (h : wpC M A t Q E s) (hQ : ∀ a s, Q a s → Q' a s) (hE : ∀ e s, E e s → E' e s) : wpC M A t Q' E' s :=
  fun Γ p hΓ hB => Sem.wp_mono M Γ t (fun a _ s => hQ a s) (fun e _ s => hE e s) p s (h Γ p hΓ hB)
theorem wpC_bind {m : Sem α} {f : α → Sem β} {Q : β → Shared → Prop} (h : wpC M A m (fun a s' => wpC M A (f a) Q E s') E s) : wpC M A (m >>= f) Q E s := fun Γ p hΓ hB => by
  rw [Sem.wp_bind']
  exact Sem.wp_mono M Γ m (fun a p' s' h' => h' Γ p' hΓ hB) (fun _ _ _ h' => h') p s (h Γ p hΓ hB)
theorem wpC_tryCatch {m : Sem α} {k : Value → Sem α} {Q : α → Shared → Prop} (h : wpC M A m Q (fun e s' => wpC M A (k e) Q E s') s) : wpC M A (tryCatch m k) Q E s := fun Γ p hΓ hB => by
  rw [Sem.wp_tryCatch']
  exact Sem.wp_mono M Γ m (fun _ _ _ h' => h') (fun e p' s' h' => h' Γ p' hΓ hB) p s (h Γ p hΓ hB)
theorem wpC_onRaise {m : Sem α} {k : Value → Sem Unit} {Q : α → Shared → Prop} (h : wpC M A m Q (fun e s' => wpC M A (k e) (fun _ s'' => E e s'') E s') s) : wpC M A (m.onRaise k) Q E s := fun Γ p hΓ hB => by
  rw [Sem.wp_onRaise]
  exact Sem.wp_mono M Γ m (fun _ _ _ h' => h') (fun e p' s' h' => h' Γ p' hΓ hB) p s (h Γ p hΓ hB)
theorem wpC_attempt {m : Sem α} {Q : Except Value α → Shared → Prop} (h : wpC M A m (fun a => Q (.ok a)) (fun e => Q (.error e)) s) : wpC M A m.attempt Q E s := fun Γ p hΓ hB => by rw [Sem.wp_attempt]; exact h Γ p hΓ hB
theorem wpC_holding {vs : List Value} {m : Sem α} {Q : α → Shared → Prop} (h : wpC M A m Q E s) : wpC M A (holding vs m) Q E s := fun Γ p hΓ hB => by rw [Sem.wp_holding]; exact h Γ p hΓ hB
theorem wpC_pure {a : α} {Q : α → Shared → Prop} (h : Q a s) : wpC M A (pure a) Q E s := fun _ _ _ _ => h
theorem wpC_throw {e : Value} {Q : α → Shared → Prop} (h : E e s) : wpC M A (throw e : Sem α) Q E s := fun _ _ _ _ => h
theorem wpC_eq {t t' : Sem α} {Q : α → Shared → Prop} (e : t = t') (h : wpC M A t' Q E s) : wpC M A t Q E s := e ▸ h
theorem codeC_mono {c : Code} {R R' : Result → Shared → Prop} (h : codeC M A c R s) (hR : ∀ r s, R r s → R' r s) : codeC M A c R' s := fun Γ p hc hΓ hB => wpCode_mono hR (h Γ p hc hΓ hB)
theorem wpC_run {c : Code} {h : Option Value} {Q : Flow → Shared → Prop} (hc : codeC M (A.mark h) c (fun r s' => match r with | .ok f => Q f s' | .error e => E e s') s) (hnb : h ≠ some byPass := by intro x; cases x) : wpC M A (run c h) Q E s :=
  fun Γ p hΓ hB => by rw [Sem.wp_run]; exact hc _ p rfl (hΓ.enter c h p hnb) (hB.enter c h p)
theorem wpC_runValue {c : Code} {Q : Value → Shared → Prop} (hc : codeC M A c (fun r s' => match r with | .ok (.ret v) => Q v s' | .ok _ => False | .error e => E e s') s) : wpC M A (runValue c) Q E s :=
  fun Γ p hΓ hB => by rw [Sem.wp_runValue]; exact hc _ p rfl (hΓ.enter c none p (by intro x; cases x)) (hB.enter c none p)
theorem wpC_call {f : Value} {pos : List Value} {kw : List (PySem.Str × Value)} {Q : Value → Shared → Prop} (hc : codeC M A (.call f ⟨pos, kw⟩) (fun r s' => match r with | .ok (.ret v) => Q v s' | .ok _ => False | .error e => E e s') s) : wpC M A (call f pos kw) Q E s := wpC_runValue hc
theorem codeC_of_tree {c : Code} {R : Result → Shared → Prop}
    (h : wpC M (A.under c) (M.den c) (fun fin s' => match fin with | .done f => R (.ok f) s' | .again c' => c'.quiet = true ∧ codeC M A c' R s') (fun e s' => R (.error e) s') s) : codeC M A c R s := fun Γ p hc hΓ hB => by
  rw [wpCode_iff_wp, hc]
  refine Sem.wp_mono M Γ _ (fun fin p' s' h' => ?_) (fun _ _ _ h' => h') p s (h Γ p (hc ▸ hΓ.in) hB)
  cases fin with
  | done f => exact h'
  | again c' => exact ⟨h'.1, h'.2 (Γ.goto c') p' rfl (hΓ.goto c') (hB.goto c')⟩
theorem wpC_stack {Q : List (Code × Pos) → Shared → Prop} (h : ∀ st : List (Code × Pos), (st.map (·.1)).any Code.isCaller = true → Q st s) : wpC M A stack Q E s := fun Γ p _ hB => by
  show Q ((Γ.code, p) :: Γ.below) s
  refine h _ ?_
  simp only [List.map_cons, List.any_cons]
  unfold HasB at hB
  rw [hB, Bool.or_true]
theorem no_mark {own : List String} {codes : List Code} (h : codes.any Code.isCaller = true) : pythonCodeMadeTheCall own codes = false := by
  unfold pythonCodeMadeTheCall
  refine Bool.and_eq_false_iff.mpr (.inl (Bool.and_eq_false_iff.mpr (.inl ?_)))
  rw [Bool.not_eq_eq_eq_not, Bool.not_false]
  obtain ⟨c, hc, hi⟩ := List.any_eq_true.mp h
  refine List.any_eq_true.mpr ⟨c, hc, ?_⟩
  unfold Code.isCaller at hi
  split at hi
  · rfl
  · cases hi
theorem wpC_mark {own : List String} {e : Value} {Q : Unit → Shared → Prop} (h : Q () s) : wpC M A (markTheRefusal own e) Q E s := by
  unfold markTheRefusal
  refine wpC_bind (wpC_stack fun st hst => ?_)
  rw [no_mark hst]
  exact wpC_pure h
end
end Jl
end
section
open PySem PySem.W PySem.Calls PyProof.Rows
open PySem.Sem (wp)
set_option maxRecDepth 100000
namespace Jl
/-- at the claim's caller itself -/
noncomputable def wpT {α : Type} (M : Model) (A : Around) (t : Sem α) (Q : α → Shared → Prop) (E : Value → Shared → Prop) (s : Shared) : Prop :=
  ∀ Γ p, Γ.In A → Γ.code.isCaller = true → wp M Γ t (fun a _ s' => Q a s') (fun e _ s' => E e s') p s
section
variable {α β : Type} {M : Model} {A : Around} {E : Value → Shared → Prop} {s : Shared}
theorem wpT_any {t : Sem α} {Q : α → Shared → Prop} (h : wpAny M A t Q E s) : wpT M A t Q E s := fun Γ p hΓ _ => h Γ p hΓ
theorem wpT_mono {t : Sem α} {Q Q' : α → Shared → Prop} {E' : Value → Shared → Prop} (h : wpT M A t Q E s) (hQ : ∀ a s, Q a s → Q' a s) (hE : ∀ e s, E e s → E' e s) : wpT M A t Q' E' s :=
  fun Γ p hΓ hB => Sem.wp_mono M Γ t (fun a _ s => hQ a s) (fun e _ s => hE e s) p s (h Γ p hΓ hB)
theorem wpT_bind {m : Sem α} {f : α → Sem β} {Q : β → Shared → Prop} (h : wpT M A m (fun a s' => wpT M A (f a) Q E s') E s) : wpT M A (m >>= f) Q E s := fun Γ p hΓ hB => by
  rw [Sem.wp_bind']
  exact Sem.wp_mono M Γ m (fun a p' s' h' => h' Γ p' hΓ hB) (fun _ _ _ h' => h') p s (h Γ p hΓ hB)
theorem wpT_call {f : Value} {pos : List Value} {kw : List (PySem.Str × Value)} {Q : Value → Shared → Prop} (hc : codeC M A (.call f ⟨pos, kw⟩) (fun r s' => match r with | .ok (.ret v) => Q v s' | .ok _ => False | .error e => E e s') s) : wpT M A (call f pos kw) Q E s := by
  intro Γ p hΓ hB
  show wp M Γ (runValue (.call f ⟨pos, kw⟩)) _ _ p s
  rw [Sem.wp_runValue]
  refine hc _ p rfl (hΓ.enter _ none p (by intro x; cases x)) ?_
  unfold HasB
  simp only [Ctx.enter, List.map_cons, List.any_cons, hB, Bool.true_or]
end
theorem ends_C {prog : Program} {w : World} {t : Sem Fin} {s : Shared} {R : Result → Shared → Prop} (hreg : s.asleep)
    (h : wpT (model prog w) callerA t (fun fin s' => ∃ f, fin = .done f ∧ (R (.ok f) s' ∧ leftWithCleanup s'.gens = false)) (fun e s' => R (.error e) s' ∧ leftWithCleanup s'.gens = false) s) :
    ∃ n r s' s'', runN (denote table) prog w n s ⟨t, .builtin "claim.caller" {}, default, []⟩ = .halted (outcomeOf r) s' ∧
      schedN (denote table) prog w n (.single s ⟨t, .builtin "claim.caller" {}, default, []⟩) = .halted (outcomeOf r) s' ∧ s'.forget = s''.forget ∧ R r s'' := by
  have h0 := h _ default caller_in rfl
  have h1 := Sem.wp_mono (model prog w) ⟨.builtin "claim.caller" {}, none, none, [], none⟩ t (post' := Sem.finPost (model prog w) ⟨.builtin "claim.caller" {}, none, none, [], none⟩ (fun r s' => R r s' ∧ leftWithCleanup s'.gens = false))
    (exc' := fun e _ s' => R (.error e) s' ∧ leftWithCleanup s'.gens = false) (fun fin p' s' ⟨f, e, hf⟩ => by subst e; exact hf) (fun _ _ _ h' => h') default s h0
  obtain ⟨n, r, s₁, s₂, hs, hn, hfo, hR⟩ := wp_halts_full (M := model prog w) (R := R) hreg h1
  exact ⟨n, r, s₂, s₁, hn, hs, hfo, hR⟩
noncomputable abbrev treeOf (name : PySem.Str) (vs : List Value) : Sem Fin := do match ← nsGet mainNs name with
      | some f => do ret (← PySem.call f vs)
      | none => unsupported "claim.caller:no-such-global"
noncomputable abbrev WalkC (q : Program) (loose : List PySem.Str) (XP : (PySem.Str → Option Value) → Heap → Prop) (YP : World → Heap → Prop) (r : RowW) (d : DefRec) (kwd : List (PySem.Str × PySem.Expr)) : Prop :=
  ∀ (w : World) (s₀ s₁ : Shared) (mg mb : PySem.Str → Option Value), Ground q loose r.records XP w s₀ mg mb s₁.heap → YP w s₁.heap → ∀ (a : Addr) (o : Obj) (pm cd doc dV kV : Value), s₁.heap.get? a = some o →
    o.data = .func { docDef d.name d.params d.body d.scope pm cd doc with defaults := dV, kwdefaults := kV } → s₁.heap.CodeRec cd d.name → Dflts mg s₁.heap d.params kwd dV kV → mg d.name = some (.ref a) → s₁.gens = #[] →
    ∀ (args : List WData) (vals : List Value) (as : List Addr), r.claim.pre args = true → WData.layableAll args = true → ReadsAllW r.records (classAt s₀.heap) s₁.heap vals args as → WellAll w.params s₁.heap vals args → (∀ a ∈ as, (a == sysModules) = false) →
      codeC (model r.prog w) callerA (.call (.ref a) ⟨vals, []⟩) (GoodWG r.claim (classAt s₀.heap) (ExcName.means s₀.heap) args s₁) s₁
theorem codeC_ret {M : Model} {A : Around} {c : Code} {R : Result → Shared → Prop} {s : Shared} (h : codeC M A c R s) (hr : ∀ f s', R (.ok f) s' → ∃ v, f = .ret v) :
    codeC M A c (fun r s' => match r with | .ok (.ret v) => R (.ok (.ret v)) s' | .ok _ => False | .error e => R (.error e) s') s :=
  codeC_mono h fun r s' g => by
    cases r with
    | error e => exact g
    | ok f => obtain ⟨v, rfl⟩ := hr f s' g; exact g
theorem PySem.W.holds_open {r : OpenRow} {q : Program} {loose : List PySem.Str} {Xt : Shared → Bool} {XP : (PySem.Str → Option Value) → Heap → Prop} {α : Type} {Yf : Shared → α} {Ya : World → α} {YP : World → Heap → Prop} {d : DefRec} {kwd : List (PySem.Str × PySem.Expr)} {N : Nat}
    (_ : ∀ _ : World, Nat.ble 0 0 = true) (hY : ∀ w s, Yf s = Ya w → YP w s.heap) (hYk : ∀ w h h', YP w h → (∀ b o, h.get? b = some o → h'.get? b = some o) → YP w h')
    (hX : ∀ s, Xt s = true → XP (s.heap.nsMap mainGlobals) s.heap) (hXk : ∀ mg h h', XP mg h → (∀ b o, h.get? b = some o → h'.get? b = some o) → XP mg h')
    (hdef : defOf q r.name = some (d, kwd)) (hp : r.prog.theDef r.name = some (d.params, d.body, d.scope)) (hk : kwWritten? d.params.kwonlyargs d.params.kw_defaults = some kwd) (hRf : ∀ s, Xt s = true → RecFacts r.records s.heap) (hwr : (!r.writes || r.records.isEmpty) = true)
    (k1 : r.wellSaid = true) (ok : (chainsOk q && opensWell r.prog && (frees r.toRowW && r.within.isEmpty)) = true) (hb : r.prog.bare) (hw : r.toRowW.promised)
    (both : LeftO r.prog q loose Xt Yf Ya N ∧ WalkC q loose XP YP r.toRowW d kwd) : r.Holds := by
  obtain ⟨left, walk⟩ := both
  obtain ⟨ok, k5⟩ := Bool.and_eq_true_iff.mp ok
  obtain ⟨hch, o1⟩ := Bool.and_eq_true_iff.mp ok
  obtain ⟨k5, k6⟩ := Bool.and_eq_true_iff.mp k5
  obtain ⟨hsame, hu, ha, hap, hm⟩ := frees_parts k5
  refine ⟨k1, hw, ⟨hb, o1, by show r.makers.map _ = []; rw [hm]; rfl⟩, hw.witness, fun w => ⟨(left.behind hX hch w).1, fun s' hs' => ?_⟩⟩
  obtain ⟨s₀, p0⟩ := (left.behind (XP := fun mg h => XP mg h ∧ RecFacts r.records h) (fun s hs => ⟨hX s hs, hRf s hs⟩) hch w).2 s' hs'
  obtain ⟨s, p1⟩ := p0.2.2
  have G0 : Ground q loose [] XP w s (s.heap.nsMap mainGlobals) (s.heap.nsMap builtinsNs) s.heap := ⟨p1.2.2.2.2.1.T, p1.2.2.2.2.1.B, p1.2.2.2.2.1.D, p1.2.2.2.2.1.TE, p1.2.2.2.2.1.TD, p1.2.2.2.2.1.W, p1.2.2.2.2.1.X.1, p1.2.2.2.2.1.cls, p1.2.2.2.2.1.has, p1.2.2.2.2.1.apart, p1.2.2.2.2.1.once, p1.2.2.2.2.1.K⟩
  have RF := p1.2.2.2.2.1.X.2
  refine ⟨s₀, p0.1, p0.2.1, s, p1.1, fun n hn => ?_, RF.1, RF.2.1, ?_⟩
  · obtain rfl : n = r.name := by split at hn <;> simp_all
    exact pinned_of_view p1.2.2.2.1 G0 hdef hp hk
  have hgens : s.gens = #[] := Array.eq_empty_of_size_eq_zero (beq_iff_eq.mp p1.2.2.1)
  have G : Ground q loose r.records XP w s _ _ s.heap := RF.ground G0
  intro args hpre hlay ord hord
  obtain ⟨⟨vs, s₁⟩, hlaid⟩ := Option.isSome_iff_exists.mp (layAllW_isSome (P := w.params) (ord := ord) G.has args r.args s (pre_splitW hpre).1)
  have keeps := layAllW_keeps _ _ _ hlaid
  have hal := layAllW_rest _ _ _ hlaid
  obtain ⟨as, hrd, hin, hold⟩ := reads_layAllW hord _ _ _ hlaid hlay s₁.heap (fun _ _ e => e)
  have L : Laid r.records w s s₁ args vs as := ⟨⟨ord, hord, hlaid⟩, hrd, hin, hold, keeps, hal.1.trans hgens, hal.2.2.1⟩
  have G₁ := G.keeps hXk keeps
  obtain ⟨a, o, pm, cd, doc, dV, kV, z⟩ := G₁.fn hdef
  have body := walk w s s₁ _ _ G₁ (hYk _ _ _ (hY w s p1.2.2.2.2.2) keeps) a o pm cd doc dV kV z.2.1 z.2.2.1 z.2.2.2.1 z.2.2.2.2 (defOf_name hdef ▸ z.1) L.gens args vs as hpre hlay L.reads L.well (L.low G.low)
  have hi := ident_freeW hu ha hap
  have hwi : r.claim.within = [] := List.isEmpty_iff.mp k6
  have top : wpT (model r.prog w) callerA (treeOf r.name vs) (fun fin s' => ∃ f, fin = .done f ∧ GoodWG r.claim (classAt s.heap) (ExcName.means s.heap) args s₁ (.ok f) s')
      (fun e s' => GoodWG r.claim (classAt s.heap) (ExcName.means s.heap) args s₁ (.error e) s') s₁ := by
    refine wpT_bind (wpT_any (wpAny_nsGet G₁.T.g ?_))
    rw [z.1]
    refine wpT_bind (wpT_mono (wpT_call (codeC_ret body ?_)) ?_ fun _ _ h => h)
    · rintro f s' g
      rcases g.1 with ⟨v, _, _, e, _⟩ | ⟨e, _, _, e', _⟩
      · exact ⟨v, by cases e; rfl⟩
      · cases e'
    · intro v s' g
      exact wpT_any (wpAny_pure ⟨_, rfl, g⟩)
  obtain ⟨k, res, s', s'', q'⟩ := ends_C (prog := r.prog) (w := w) (t := treeOf r.name vs) (s := s₁)
    (R := fun res s' => r.claim.Ends s args vs s₁ res s' ∧ s'.os = s.os ∧ (r.writes = true → namesKept r.prog r.keeps s.heap s'.heap ∧ ∀ x ∈ r.records, ∀ a, classAt s.heap x.1 = some a → recordClass s'.heap a x.1 (x.2.map (·.1)) = true))
    (Shared.asleep_of_life hal.2.2.2 p1.2.1)
    (wpT_mono top (by
      rintro fin s' ⟨f, e, g⟩
      have z := g.laid (c := r.claim) hsame hwi hi L
      exact ⟨f, e, ⟨z.1, z.2.1, fun q => ⟨namesKept_of p1.1 p1.2.2.2.1 _ keeps g.2.1.old, noTable hwr q⟩⟩, leftWithCleanup_false_of_bare z.2.2⟩) (by
      intro e s' g
      have z := g.laid (c := r.claim) hsame hwi hi L
      exact ⟨⟨z.1, z.2.1, fun q => ⟨namesKept_of p1.1 p1.2.2.2.1 _ keeps g.2.1.old, noTable hwr q⟩⟩, leftWithCleanup_false_of_bare z.2.2⟩))
  have hfo := Shared.forget_eq q'.2.2.1
  have eh := hfo.1
  have eo := hfo.2.2.2.1
  have hcase := q'.2.2.2.1.congr eh
  have hkp := q'.2.2.2.2.2
  have hos := q'.2.2.2.2.1
  rw [← eh] at hkp
  rw [← eo] at hos
  have hlife : s'.heap.life = s.heap.life := (runN_life _ _ _ q'.1).trans hal.2.2.2
  refine ⟨vs, s₁, hlaid, k, _, s', q'.2.1, ?_, (fun _ i x hx => by rw [hgens] at hx; simp at hx), hkp, by rw [hlife], Shared.rest_eq hos⟩
  rcases hcase with ⟨v, rfl, d1, d2, d3, d4, d5⟩ | ⟨e, ob, cls, rfl, d1, d2, d3, d4, d5⟩
  · exact .inl ⟨v, rfl, d1, d2, d3, fun b o y _ => d4 b o y, d5⟩
  · exact .inr ⟨e, ob, cls, rfl, d1, d2, d3, d4, fun b o y _ => d5 b o y⟩
end Jl
end
section
open PySem PySem.W PyProof.Rows
namespace Jl
set_option maxRecDepth 100000 in
set_option maxHeartbeats 8000000 in
open_top hdJ for PySem.Challenge.rw_je0040_01
end Jl
end
section
open PySem PySem.W PySem.Calls PyProof.Rows
set_option maxRecDepth 100000
namespace Jl
/-- the top's run over a tree of objects -/
noncomputable def topRunT (tb : String → Option Builtin) (p : Program) (w : World) (n₀ : Nat) (ann : Option Value) : Nat → SharedT → Thread → Option SharedT
  | 0, _, _ => none
  | n + 1, s, t => match through t with
    | true => some s
    | false => match stepOk n₀ ann t with
      | false => none
      | true => match stepT (denote tb) p w s t with
        | some (s', t') => topRunT tb p w n₀ ann n s' t'
        | none => none
theorem topRunT_spec {tb : String → Option Builtin} {p : Program} {w : World} {n₀ : Nat} {ann : Option Value} : ∀ {n : Nat} {s s' : SharedT} {t : Thread}, topRunT tb p w n₀ ann n s t = some s' → topRun tb p w n₀ ann n s.abs t = some s'.abs
  | 0, _, _, _, h => by cases h
  | n + 1, s, s', t, h => by
    unfold topRunT at h
    unfold topRun
    cases ht : through t with
    | true => rw [ht] at h; cases h; rfl
    | false =>
      rw [ht] at h
      cases hk : stepOk n₀ ann t with
      | false => rw [hk] at h; cases h
      | true =>
        rw [hk] at h
        cases hs : stepT (denote tb) p w s t with
        | none => rw [hs] at h; cases h
        | some x =>
          rw [hs] at h
          obtain ⟨s', t'⟩ := x
          show (match step (denote tb) p w s.abs t with | .go s' t' => topRun tb p w n₀ ann n s' t' | .halt _ _ => none) = _
          rw [stepT_spec hs]
          exact topRunT_spec h
noncomputable def treeOfList (l : List Obj) : BT := (l.foldl (fun x o => (x.1.ins x.2 o, x.2 + 1)) (BT.nil, 0)).1
/-- the boot's heap as a tree -/
noncomputable def bootT (w : World) (os : OsState) : SharedT := ⟨treeOfList (boot_heap w.params).objs.toList, 11, (boot_heap w.params).life, Array.mk [], boot_drawn, boot_toks, os⟩
theorem bootT_abs (w : World) (os : OsState) : (bootT w os).abs = ⟨boot_heap w.params, Array.mk [], boot_drawn, boot_toks, os⟩ := by kernel_rfl
/-- the law's text from a state on -/
noncomputable def runD (w : World) (n₀ : Nat) (ann : Option Value) (s : SharedT) : Option SharedT :=
  topRunT treeTable PySem.Challenge.pw_je0040_01 w n₀ ann 2912 s (topStub PySem.Challenge.pw_je0040_01)
section
variable {p q : Program} {loose : List PySem.Str} {Xt : Shared → Bool} {α : Type} {Yf : Shared → α} {Ya : World → α} {N : Nat} {run : World → OsState → Option SharedT}
theorem left_of (e : opening p = plainProg p.main.scope.names) (hN : Nat.ble 600 N = true) (f : ∀ s, fenceModules? p s = some s)
    (hs : ∀ w : World, ((boot_heap w.params).isNs mainGlobals && (Array.mk ([] : List GenState)).size == 0) = true)
    (hr : ∀ w os t, run w os = some t → topRun treeTable p w (boot_heap w.params).objs.size ((boot_heap w.params).nsMap mainGlobals (Str.ofString "__annotations__")) N ⟨boot_heap w.params, Array.mk [], boot_drawn, boot_toks, os⟩ (topStub p) = some t.abs)
    (h1 : ∀ w os, (run w os).map (fun t => staticsOk (importedModules p.main.body) (boot_heap w.params) t.abs.heap && namesBound p t.abs.heap && gensDone t.abs && laidKept (boot_heap w.params) t.abs.heap) = some true)
    (h2 : ∀ w os, (run w os).map (fun t => openSeen q loose (importedModules p.main.body) Xt true t.abs) = some (openGood q loose))
    (h3 : ∀ w os, (run w os).map (fun t => Yf t.abs) = some (Ya w)) : LeftO p q loose Xt Yf Ya N := fun w => by
  obtain ⟨⟨h, gs, d, k, os⟩, e1, e2⟩ := Option.map_eq_some_iff.mp (boot_open (N := N) e hN f w)
  have t4 := h3 w os
  have t3 := h2 w os
  obtain ⟨t, t1, t2⟩ := Option.map_eq_some_iff.mp (h1 w os)
  have r := hr w os t t1
  have s1 := hs w
  revert r t2 s1 e2
  generalize boot_heap w.params = H
  intro e2
  simp only [Prod.mk.injEq] at e2
  obtain ⟨rfl, rfl, rfl, rfl⟩ := e2
  intro t2 r s1
  rw [t1] at t3 t4
  have tf : topFrom treeTable p w N ⟨h, Array.mk [], boot_drawn, boot_toks, os⟩ = some t.abs := by
    unfold topFrom
    dsimp only
    rw [s1]
    dsimp only
    rw [r, Option.bind_some, t2]
  unfold openEnds
  have t5 : openSeen q loose (importedModules p.main.body) Xt true t.abs = openGood q loose := Option.some.inj t3
  have t6 : Yf t.abs = Ya w := Option.some.inj t4
  rw [e1, Option.bind_some, tf, Option.map_some, t5, t6]
end
/-- this look lays runD's quick twin -/
theorem lay_runD : (fun (_ : World → Nat → Option Value → SharedT → Option SharedT) => true) runD = true := by k_qdec
theorem runD_eq : runD = PySem.W.Fast.tw10236921753302799297 := PySem.W.Fast.te10236921753302799297
noncomputable def runQ (w : World) (os : OsState) : Option SharedT :=
  PySem.W.Fast.tw10236921753302799297 w (boot_heap w.params).objs.size ((boot_heap w.params).nsMap mainGlobals (Str.ofString "__annotations__")) (bootT w os)
theorem runQ_spec (w : World) (os : OsState) (t : SharedT) (h : runQ w os = some t) : topRun treeTable PySem.Challenge.pw_je0040_01 w (boot_heap w.params).objs.size ((boot_heap w.params).nsMap mainGlobals (Str.ofString "__annotations__")) 2912 ⟨boot_heap w.params, Array.mk [], boot_drawn, boot_toks, os⟩ (topStub PySem.Challenge.pw_je0040_01) = some t.abs := by
  unfold runQ at h
  rw [← runD_eq] at h
  unfold runD at h
  have := topRunT_spec h
  rw [bootT_abs] at this
  exact this
noncomputable abbrev theHook : Hook := kHook hdJ.heap_39
  [2, 3, 15, 17, 18, 20, 21, 29, 30, 32, 33, 35, 36, 37, 39, 40, 42, 43, 44, 46, 47, 49, 50, 51, 52, 53, 54, 56, 57, 59, 60, 61, 62, 63, 64, 65, 68, 70, 71, 73, 74, 75, 78, 83, 84, 85, 87, 88, 90, 91, 92, 94, 95, 97, 98, 99, 101, 102, 104, 105, 106, 107, 108, 109, 111, 112, 114, 115, 116, 118, 119, 121, 122, 123, 125, 126, 128, 129, 130, 132, 133, 135, 136, 137, 138, 139, 142, 144, 145, 147, 148, 149, 151, 152, 154, 155, 156, 158, 159, 161, 162, 163, 165, 166, 168, 169, 170, 172, 173, 175, 176, 177, 179, 180, 182, 183, 184, 186, 187, 189, 190, 191, 194, 195]
  (fun _ => by kernel_rfl)
noncomputable abbrev theLoose : List PySem.Str := [PySem.Str.ofString "Role", PySem.Str.ofString "SuccinctRoles"]
noncomputable abbrev theTest : Shared → Bool := fun s => xlAt hdJ.view_39 [] s && recOk PySem.Challenge.rw_je0040_01.row.records s
theorem look1 (w : World) (os : OsState) : (runQ w os).map (fun t => staticsOk (importedModules (PySem.Challenge.pw_je0040_01).main.body) (boot_heap w.params) t.abs.heap && namesBound PySem.Challenge.pw_je0040_01 t.abs.heap && gensDone t.abs && laidKept (boot_heap w.params) t.abs.heap) = some true := by kernel_rfl
theorem look2 (w : World) (os : OsState) : (runQ w os).map (fun t => openSeen hdJ.view_39 theLoose (importedModules (PySem.Challenge.pw_je0040_01).main.body) theTest true t.abs) = some (openGood hdJ.view_39 theLoose) := by kernel_rfl
theorem look3 (w : World) (os : OsState) : (runQ w os).map (fun t => theHook.obs t.abs) = some (theHook.val w) := by kernel_rfl
theorem left_ok : LeftO PySem.Challenge.pw_je0040_01 hdJ.view_39 theLoose theTest theHook.obs theHook.val 2912 :=
  left_of (by kernel_rfl) rfl (fun _ => rfl) (fun _ => by kernel_rfl) runQ_spec look1 look2 look3
end Jl
end
section
open PySem PySem.W PyProof.Rows
namespace Jl
theorem allLt_ne {d : Addr} : ∀ {l : List (Addr × Obj)}, AllLt d l → ∀ p ∈ l, p.1 ≠ d
  | [], _, _, hp => nomatch hp
  | _ :: _, h, _, .head _ => Nat.ne_of_lt h.1
  | _ :: _, h, _, .tail _ hp => allLt_ne h.2 _ hp
variable {w : World} {p : Program} {loose : List Str} {mean : ExcName → Option Value} {mg mb : Str → Option Value} {dp un : Nat} {gd : Option (List Code)} {cn : Str} {cs : Scope} {a : Addr} {ccd : Value} {cl : List (Str × Addr)} {outer : List Env} {A₀ : Around} {base h₀ : Heap} {L : Addr} {m : Str → Option Value} {s : Shared} {Q E : Value → Shared → Prop} {news : List (Addr × Obj)}
set_option maxRecDepth 100000 in
set_option maxHeartbeats 8000000 in
theorem draws_call (B : Below A₀ base outer h₀) (F : Fr h₀ L s.heap m) (X : (hdJ.heap_39 w.params).In h₀) (N : News h₀ L s.heap news) (T : Top p loose mean mg mb h₀) (hk : cs.kind = .function) (hd : dp + 1 < recursionLimit) (hu : un + 8 < cLine)
  (l : Addr) (vs : List Value) (ns : List Int) (hl : base.IsList l vs.toArray) (hi : IntsAre vs ns) (hlen : ns.length ≤ 63)
  (hret : ∀ d o r vs n ns u h' tk', Fr h₀ L h' m → News h₀ L h' ((d, o) :: (r, PySem.W.listOf vs.toArray n) :: news) → (d == sysModules) = false → AllLt d ((r, PySem.W.listOf vs.toArray n) :: news) → AllLt r news → Obj.IsDictOf (PySem.strKind PySem.Challenge.rw_je0040_01.row.prog w) o [(Str.ofString "row", Value.ref r), (Str.ofString "at", Value.int 0 u)] → IntsAre vs ns → ns.length ≤ 72 → Q (.ref d) {s with heap := h', toks := tk'}) :
  wpAny (model PySem.Challenge.rw_je0040_01.row.prog w) (ktrTop dp un gd cn cs L a ccd cl outer) (call (.ref 148) [.ref l]) Q E s := by
  w_top off
  k_with_none
  k_with "pyIter ref" => (k_of "cell" => k_state (fun pre row => row.length ≤ 3 * pre.length) "row")
  k_with "UnrEnd" => (refine UnrEnd.intro (by assumption) (by assumption) _ (fun p hp => hp) (allLt_ne (by assumption)) ?_)
  revert X
  k_fill
  intro X
  refine wpAny_call ?_
  k_dflt cell_enter
  k_steps
  rename_i hh oo FF NN lo hdd ll kF kN kT kX
  refine hret _ oo _ _ ?n _ _ _ _ kF ?N lo ⟨ll.2.1, ll.2.2⟩ (allLt_of (by assumption)) hdd kFacts ?le
  case N => refine cb_drop kN ?cbS; kcj_all
  case le =>
    have := kInv
    rw [List.length_take] at this
    omega
end Jl
end
section
open PySem PySem.W PyProof.Rows
namespace Jl
noncomputable abbrev dig (i : Int) : PySem.Str := Txt.item (Str.ofString "0123456789abcdef") i
noncomputable def hexG : Nat → Int → PySem.Str → Int → PySem.Str
  | 0, _, s, _ => s
  | k+1, n, s, l => if 0 < n ∨ (s.length : Int) < l then hexG k (n.fdiv 16) (dig (n.fmod 16) ++ s) l else s
noncomputable def hexS (n l : Int) : PySem.Str := hexG 80 n (Str.ofString "") l
noncomputable def hexP (l n0 n : Int) (s : PySem.Str) : Prop := ∃ k : Nat, s.length + k = 80 ∧ 0 ≤ n ∧ n < 16 ^ k ∧ l ≤ s.length + k ∧ hexG k n s l = hexS n0 l
theorem hexP_start {l n : Int} (h0 : 0 ≤ n) (h1 : n < 1099511627776) (h2 : l ≤ 64) : hexP l n n (Str.ofString "") := by
  refine ⟨80, rfl, h0, Int.lt_of_lt_of_le h1 (by decide), ?_, rfl⟩
  show l ≤ ((0 : Nat) : Int) + 80
  omega
theorem hexP_step {l n0 n : Int} {s : PySem.Str} (h : hexP l n0 n s ∧ s.length ≤ 80) (e : (dig (n.fmod 16)).length = 1) (c : 0 < n ∨ (s.length : Int) < l) :
    hexP l n0 (n.fdiv 16) (dig (n.fmod 16) ++ s) ∧ (dig (n.fmod 16) ++ s).length ≤ 80 := by
  obtain ⟨⟨k, hk, h0, hn, hl, he⟩, _⟩ := h
  have hlen : (dig (n.fmod 16) ++ s).length = 1 + s.length := by rw [PySem.Str.length_append, e]
  have hfd : n.fdiv 16 = n / 16 := Int.fdiv_eq_ediv_of_nonneg _ (by decide)
  cases k with
  | zero => exfalso; rw [Int.pow_zero] at hn; omega
  | succ k =>
    have hp : (16 : Int) ^ (k + 1) = 16 ^ k * 16 := Int.pow_succ 16 k
    refine ⟨⟨k, by omega, by omega, ?_, by omega, ?_⟩, by omega⟩
    · rw [hfd]; rw [hp] at hn; omega
    · rw [← he, hexG, if_pos c]
theorem hexP_end {l n0 n : Int} {s : PySem.Str} (h : hexP l n0 n s ∧ s.length ≤ 80) (c1 : ¬ 0 < n) (c2 : ¬ (s.length : Int) < l) : s = hexS n0 l := by
  obtain ⟨⟨k, hk, h0, hn, hl, he⟩, _⟩ := h
  rw [← he]
  cases k with
  | zero => rfl
  | succ k => rw [hexG, if_neg (fun h => h.elim c1 c2)]
theorem hexP_bnd {l n0 n : Int} {s : PySem.Str} (h : hexP l n0 n s ∧ s.length ≤ 80) (c1 : ¬ 0 < n) (c2 : ¬ (s.length : Int) < l) : s = hexS n0 l ∧ (hexS n0 l).length ≤ 80 := by
  have e := hexP_end h c1 c2
  exact ⟨e, by rw [← e]; exact h.2⟩
variable {w : World} {p : Program} {loose : List Str} {mean : ExcName → Option Value} {mg mb : Str → Option Value} {dp un : Nat} {gd : Option (List Code)} {cn : Str} {cs : Scope} {a : Addr} {ccd : Value} {cl : List (Str × Addr)} {outer : List Env} {A₀ : Around} {base h₀ : Heap} {L : Addr} {m : Str → Option Value} {s : Shared} {Q E : Value → Shared → Prop} {news : List (Addr × Obj)}
set_option maxRecDepth 100000 in
set_option maxHeartbeats 8000000 in
theorem hex_call (B : Below A₀ base outer h₀) (F : Fr h₀ L s.heap m) (X : (hdJ.heap_39 w.params).In h₀) (N : News h₀ L s.heap news) (T : Top p loose mean mg mb h₀) (hk : cs.kind = .function) (hd : dp + 1 < recursionLimit) (hu : un + 8 < cLine)
  (number length: Int) (t1 t2 : Tok) (h0 : 0 ≤ number) (h1 : number < 1099511627776) (h2: length ≤ 64)
  (hret : ∀ t h' tk', Fr h₀ L h' m → News h₀ L h' news → (hexS number length).length ≤ 80 → Q (.str (hexS number length) t) {s with heap := h', toks := tk'}) :
  wpAny (model PySem.Challenge.rw_je0040_01.row.prog w) (ktrTop dp un gd cn cs L a ccd cl outer) (call (.ref 74) [.int number t1, .int length t2]) Q E s := by
  k_with_none
  k_with "exec While BoolOp cons nil" => k_while_given ["length", "number!"] (fun length n0 (_ : List Int) number signs => hexP length n0 number signs ∧ signs.length ≤ 80) (fun length n0 _ number signs => 81 - signs.length) "number" "signs"
  k_with "state" => exact ⟨hexP_start (by assumption) (by assumption) (by assumption), by decide⟩
  k_with "state" => exact hexP_step ⟨by assumption, by assumption⟩ (by assumption) (.inl (by assumption))
  k_with "state" => exact hexP_step ⟨by assumption, by assumption⟩ (by assumption) (.inr (by assumption))
  revert X
  k_fill
  intro X
  refine wpAny_call ?_
  k_dflt cell_enter
  k_steps
  have hx := hexP_bnd ⟨by assumption, by assumption⟩ (by assumption) (by assumption)
  refine cb_retS (Q := Q) (fun t h' tk' F N => hret t h' tk' F N hx.2) ?e1 ?e2 ?e3
  case e1 => exact hx.1
  case e2 => k_asm
  case e3 => k_asm
end Jl
end
section
open PySem PySem.W PyProof.Rows
namespace Jl
noncomputable def rolesEs (w : World) (kid : Addr) (b : Int) (px : PySem.Str) (ur : Addr) (k : Tok × Tok × Tok × Tok × Tok × Tok × Tok × Tok × Tok × Tok × Tok × Tok) : List DictEntry := [
    ⟨PyData.keyHash w.params (Str.ofString "keyids"), .str (Str.ofString "keyids") k.1, .ref kid⟩,
    ⟨PyData.keyHash w.params (Str.ofString "threshold"), .str (Str.ofString "threshold") k.2.1, .int 1 k.2.2.2.2.2.2.2.1⟩,
    ⟨PyData.keyHash w.params (Str.ofString "unrecognized_fields"), .str (Str.ofString "unrecognized_fields") k.2.2.1, .ref ur⟩,
    ⟨PyData.keyHash w.params (Str.ofString "bit_length"), .str (Str.ofString "bit_length") k.2.2.2.1, .int b k.2.2.2.2.2.2.2.2.1⟩,
    ⟨PyData.keyHash w.params (Str.ofString "name_prefix"), .str (Str.ofString "name_prefix") k.2.2.2.2.1, .str px k.2.2.2.2.2.2.2.2.2.1⟩,
    ⟨PyData.keyHash w.params (Str.ofString "number_of_bins"), .str (Str.ofString "number_of_bins") k.2.2.2.2.2.1, .int (2 ^ b.toNat) k.2.2.2.2.2.2.2.2.2.2.1⟩,
    ⟨PyData.keyHash w.params (Str.ofString "suffix_len"), .str (Str.ofString "suffix_len") k.2.2.2.2.2.2.1, .int ((hexS (2 ^ b.toNat - 1) 1).length : Int) k.2.2.2.2.2.2.2.2.2.2.2⟩]
noncomputable def RolesAre (w : World) (kid : Addr) (b : Int) (px : PySem.Str) (es : List DictEntry) : Prop := ∃ ur k, es = rolesEs w kid b px ur k
noncomputable def Stop (P : Prop) : Prop := P
theorem stop_here {P : Prop} (h : Stop P) : P := h
theorem pow2_bnd (b : Int) (h : b ≤ 32) : 1 ≤ (2 : Int) ^ b.toNat ∧ (2 : Int) ^ b.toNat ≤ 4294967296 := by
  have e : (2 : Int) ^ b.toNat = ((2 ^ b.toNat : Nat) : Int) := by rw [Int.natCast_pow]; rfl
  have h1 : 2 ^ b.toNat ≤ 2 ^ 32 := Nat.pow_le_pow_right (by decide) (by omega)
  have h2 : 0 < 2 ^ b.toNat := Nat.two_pow_pos _
  rw [e]
  omega
end Jl
end
section
open PySem PySem.W PyProof.Rows
namespace Jl
/-- the functions that have a contract: the walk stops at their calls -/
def stopAt (n : Nat) : Bool := n == 155 || n == 183 || n == 74 || n == 122 || n == 129 || n == 136 || n == 139 || n == 148 || n == 162 || n == 169 || n == 176
theorem stop_ref {M : Model} {A : Around} {n : Nat} {args : List Value} {Q E : Value → Shared → Prop} {s : Shared} (_ : stopAt n = true) (h : Stop (wpAny M A (call (Value.ref n) args) Q E s)) : wpAny M A (call (Value.ref n) args) Q E s := h
end Jl
local macro_rules | `(tactic| walk_at "call ref") => `(tactic| (k_dflt (refine Jl.stop_ref rfl ?_)))
local macro_rules | `(tactic| walk_at "call type:set cons nil") => `(tactic| refine Jl.stop_here ?_)
local macro_rules | `(tactic| walk_at "compareOp NotEq ref ref") => `(tactic| refine Jl.stop_here ?_)
local macro_rules | `(tactic| walk_at "call type:int") => `(tactic| refine Jl.stop_here ?_)
local macro_rules | `(tactic| walk_at "getMethod str") => `(tactic| (k_here; (with_reducible show wpAny _ _ (getMethod (Value.str _ _) (Str.ofString "encode") _) _ _ _); k_dflt (refine Jl.method_encode ?_)))
local macro_rules | `(tactic| walk_at "call builtin:str.encode") => `(tactic| (k_here; k_dflt (refine' Jl.call_encode ?ha ?hl ?_; (case ha => assumption); (case hl => omega))))
section
open PySem PySem.W PySem.Calls PyProof.Rows
open PySem.Sem (wp)
set_option maxRecDepth 100000
namespace Jl
section
variable {prog : Program} {w : World} {A : Around} {s : Shared} {R : Result → Shared → Prop} {E : Value → Shared → Prop}
theorem codeC_func {body : List Stmt} {env : Env}
    (h : wpC (model prog w) (A.deeper env) (execs body env) (fun f s' => R (.ok (.ret (match f with | .ret v => v | _ => .none))) s')
      (fun e s' => wpAny (model prog w) (A.deeper env) (leaving env e) (fun _ s'' => R (.error e) s'') (fun e' s'' => R (.error e') s'') s') s) :
    codeC (model prog w) A (.func body env) R s := by
  refine codeC_of_tree ?_
  show wpC _ (A.deeper env) (do point; match ← (execs body env).onRaise (leaving env) with | .ret v => ret v | _ => ret .none) _ _ s
  refine wpC_bind (wpC_any (wpAny_point ?_))
  refine wpC_bind (wpC_onRaise (wpC_mono h (fun f s' h' => ?_) fun _ _ h' => wpC_any h'))
  cases f <;> exact wpC_pure h'
theorem codeC_call_function {a : Addr} {args : Args} {o : Obj} {fd : FuncData} {body : List Stmt} (hroom : A.depth < recursionLimit)
    (ho : s.heap.get? a = some o)
    (hd' : o.data = .func fd) (hco : fd.scope.isCoroutine = false) (hgen : fd.scope.isGenerator = false) (hbody : fd.body = .stmts body) (hcd : s.heap.CodeRec fd.code fd.qualname)
    (h : wpAny (model prog w) A.in1 (bindArgs fd args) (fun binds s₁ =>
      wpAny (model prog w) A.in1 (newFunctionEnv fd.scope fd.globals fd.closure binds (fd.qualname ++ ".<locals>.") (some a) fd.code none fd.builtins)
        (fun env s₂ => s₂.heap.NoLimit ∧ codeC (model prog w) A (.func body env) R s₂) (fun e s' => R (.error e) s') s₁) (fun e s' => R (.error e) s') s) :
    codeC (model prog w) A (.call (.ref a) args) R s := by
  refine codeC_of_tree ?_
  show wpC _ A.in1 (callAny (.ref a) args) _ _ s
  refine wpC_any ?_
  simp only [callAny]
  refine wpAny_bind (wpAny_load ho ?_)
  obtain ⟨c, oc, vs, tq, hc, hoc, hdc, hq⟩ := hcd
  simp only [hd', callFunction, hco, hgen, hbody, hc]
  rw [hc] at h
  refine wpAny_bind (m := field (.ref c) 1) (wpAny_field hoc hdc hq (wpAny_bind (wpAny_pure ?_)))
  exact wpAny_bind (wpAny_mono h (fun binds s₁ h₁ => wpAny_bind (wpAny_mono h₁ (fun env s₂ h₂ => wpAny_bind (wpAny_enterFrame h₂.1 hroom
    (wpAny_pure (And.intro rfl h₂.2)))) fun _ _ h' => h')) fun _ _ h' => h')
theorem call_cellsC {name : PySem.Str} {params : Arguments} {body : List Stmt} {scope : Scope}
    {pm cd doc : Value} {a : Addr} {o : Obj} {args : List Value} {binds : List (PySem.Str × Value)}
    (hroom : A.depth < recursionLimit) (ho : s.heap.get? a = some o) (hdata : o.data = .func (Calls.docDef name params body scope pm cd doc)) (hlim : s.heap.NoLimit) (hcd : s.heap.CodeRec cd name)
    (hbind : bindArgs (Calls.docDef name params body scope pm cd doc) ⟨args, []⟩ = pure binds)
    (hkind : ∀ x ∈ binds, scope.names.lookup x.1 = some .local ∨ (scope.names.lookup x.1 = some .cell ∧ ((cellsFrom (s.heap.objs.size + 1) scope.names []).lookup x.1).isSome = true))
    (hnd : ((cellsFrom 0 scope.names []).map (·.1)).Nodup)
    (h : ∀ h₁ tk cells, Fr s.heap s.heap.objs.size h₁ (bindL (envOfC name scope s.heap.objs.size a cd).kindOf binds fun _ => none) → News s.heap s.heap.objs.size h₁ cells →
      CellsAre (bindC (envOfC name scope s.heap.objs.size a cd).kindOf binds fun _ => none) (cellsFrom (s.heap.objs.size + 1) scope.names []) cells →
      wpC (model prog w) (A.deeper (envOfC name scope s.heap.objs.size a cd)) (execs body (envOfC name scope s.heap.objs.size a cd))
        (fun f s' => R (.ok (.ret (match f with | .ret v => v | _ => .none))) s') (fun _ _ => False) { s with heap := h₁, toks := tk })
    (hco : scope.isCoroutine = false := by rfl) (hgen : scope.isGenerator = false := by rfl) (hk : scope.kind = .function := by rfl) :
    codeC (model prog w) A (.call (.ref a) ⟨args, []⟩) R s := by
  refine codeC_call_function hroom ho hdata hco hgen rfl hcd ?_
  show wpAny _ _ (bindArgs (Calls.docDef name params body scope pm cd doc) ⟨args, []⟩) _ _ _
  rw [hbind]
  refine wpAny_pure ?_
  refine wpAny_newFunctionEnv_cells hk hkind fun env' he s' x => ?_
  subst he
  refine ⟨hlim.keeps x.toInCall.keep, codeC_func ?_⟩
  obtain ⟨h₁, tk, rfl, _⟩ := x.done
  obtain ⟨cells, NC, Y⟩ := Cl.news (h₀ := s.heap) (Nat.le_refl _) fun n c hm => ⟨x.cell n c (lookup_of_mem_nodup (cellsFrom_names scope.names 0 (s.heap.objs.size + 1) [] [] rfl ▸ hnd) hm), x.above n c hm⟩
  refine wpC_mono (h h₁ tk cells ⟨x.toInCall.ns, x.toInCall.keep, x.toInCall.fresh⟩ NC Y) (fun _ _ y => y) fun _ _ y => y.elim
theorem wpC_execs_cons {env : Env} {st : Stmt} {rest : List Stmt} {Q : Flow → Shared → Prop}
    (h : wpC (model prog w) A (exec st env) (fun f s' => match f with | .next => wpC (model prog w) A (execs rest env) Q E s' | f => Q f s') E s) :
    wpC (model prog w) A (execs (st :: rest) env) Q E s := fun Γ p hΓ hB => by
  rw [execs_cons, Sem.wp_bind']
  refine Sem.wp_mono _ Γ _ (fun f p' s' h' => ?_) (fun _ _ _ h' => h') _ _ (h Γ p hΓ hB)
  cases f <;> first | exact h' Γ p' hΓ hB | exact h'
theorem wpC_execs_nil {env : Env} {Q : Flow → Shared → Prop} (h : Q .next s) : wpC (model prog w) A (execs [] env) Q E s := wpC_any (wpAny_execs_nil h)
end
end Jl
end
section
open PySem PySem.W PySem.Calls PyProof.Rows
open PySem.Sem (wp)
set_option maxRecDepth 100000
namespace Jl
section
variable {α : Type} {M : Model} {A : Around} {s : Shared} {E : Value → Shared → Prop} {env : Env}
theorem wpC_quiet {t : Sem α} {Q : α → Shared → Prop} (h : wpC M A t Q (fun _ _ => False) s) : wpC M A t Q E s := wpC_mono h (fun _ _ x => x) fun _ _ x => x.elim
theorem wpC_onRaise0 {m : Sem α} {k : Value → Sem Unit} {Q : α → Shared → Prop} (h : wpC M A m Q (fun _ _ => False) s) : wpC M A (m.onRaise k) Q E s :=
  wpC_onRaise (wpC_mono h (fun _ _ x => x) fun _ _ x => x.elim)
theorem wpC_operate {vs : List Value} {m : Sem Value} {Q : Value → Shared → Prop} (h : wpC M A m Q E s) : wpC M A (operate vs m) Q E s := fun Γ p hΓ hB => by
  rw [Sem.wp_operate]; exact h Γ p hΓ hB
theorem wpC_keep {vs : List Value} {m : Sem α} {Q : α → Shared → Prop} (h : wpC M A m Q E s) : wpC M A (m.keep vs) Q E s := fun Γ p hΓ hB => by
  have := h Γ p hΓ hB
  first
    | (rw [Sem.wp_keep]; exact this)
    | (simpa using this)
theorem wpC_If {test : Expr} {body orelse : List Stmt} {pos : Pos} {Q : Flow → Shared → Prop}
    (h : wpC M A (isTrue test env (eval test env)) (fun b s₂ => if b then wpC M A (execs body env) Q E s₂ else wpC M A (execs orelse env) Q E s₂) E s) :
    wpC M A (exec (.If test body orelse pos) env) Q E s := by
  rw [exec_If]
  refine wpC_bind (wpC_any (wpAny_standAt (wpC_bind (wpC_mono h (fun b s₂ h₂ => ?_) fun _ _ x => x))))
  cases b <;> exact h₂
theorem wpC_isTrue_Compare1 {l r : Expr} {op : CmpOp} {pos : Pos} {whole : Sem Value} {Q : Bool → Shared → Prop}
    (h : wpC M A (eval l env) (fun a s₁ => wpC M A (eval r env) (fun b s₂ => wpC M A (compareOp op a b) (fun c s₃ => wpC M A (truthy c) Q E s₃) E s₂) E s₁) E s)
    (hm : behindInMarks op r = false := by with_unfolding_all rfl) : wpC M A (isTrue (.Compare l [op] [r] pos) env whole) Q E s := by
  rw [isTrue_Compare1, markedBehindIn_of_false hm]
  refine wpC_bind (wpC_mono h (fun a s₁ h₁ => ?_) fun _ _ x => x)
  refine wpC_bind (wpC_holding (wpC_mono h₁ (fun b s₂ h₂ => ?_) fun _ _ x => x))
  refine wpC_bind (wpC_any (wpAny_standAt ?_))
  refine wpC_bind (wpC_operate (wpC_mono h₂ (fun c s₃ h₃ => ?_) fun _ _ x => x))
  exact wpC_holding h₃
theorem wpC_Assign_Name {x : Str} {pos' pos : Pos} {value : Expr} {Q : Flow → Shared → Prop}
    (h : wpC M A (eval value env) (fun v s₁ => wpC M A (storeName env x v) (fun _ => Q .next) E s₁) E s)
    (hs : swapsWith value (some (.Name x pos')) pos.line env = pure false := by rfl) :
    wpC M A (exec (.Assign [.Name x pos'] value pos) env) Q E s := fun Γ p hΓ hB => by
  simp only [exec_Assign_Name env x pos' value pos hs, Sem.wp_bind', Sem.wp_cmd_standAt, Sem.wp_bindName, Sem.wp_pure']
  exact Sem.wp_mono M Γ _ (fun v _ s₁ h₁ => h₁ Γ _ hΓ hB) (fun _ _ _ h' => h') _ _ (h Γ _ hΓ hB)
theorem wpC_runOwn {c : Code} {Q : Flow → Shared → Prop}
    (hc : codeC M (A.mark none) c (fun r s' => match r with | .ok f => Q f s' | .error _ => False) s) : wpC M A (runOwn c env none) Q E s := by
  unfold runOwn
  refine wpC_onRaise0 (wpC_run ?_)
  exact codeC_mono hc fun r s' h => by cases r <;> exact h
theorem codeC_loop' {c : Code} {R : Result → Shared → Prop} (hq : c.quiet = true) (I : Nat → Shared → Prop)
    (turn : ∀ n s, I n s → wpC M (A.under c) (M.den c)
      (fun fin s' => match fin with
        | .done f => R (.ok f) s'
        | .again c' => (c' = c ∧ ∃ m, m < n ∧ I m s') ∨ (c'.quiet = true ∧ codeC M A c' R s')) (fun e s' => R (.error e) s') s)
    (n : Nat) (h : I n s) : codeC M A c R s := by
  induction n using Nat.strongRecOn generalizing s with
  | ind n ih =>
    refine codeC_of_tree (wpC_mono (turn n s h) (fun fin s' hf => ?_) fun _ _ h' => h')
    cases fin with
    | done f => exact hf
    | again c' =>
      rcases hf with ⟨rfl, m, hm, hI⟩ | hf
      · exact ⟨hq, ih m hm hI⟩
      · exact hf
end
section
variable {prog : Program} {w : World} {A : Around} {s : Shared} {E : Value → Shared → Prop} {env : Env}
theorem codeC_forLoop {R : Result → Shared → Prop} {target : Expr} {it : Value} {body : List Stmt} (I : Nat → Shared → Prop)
    (turn : ∀ n s, I n s → wpAny (model prog w) A (pyNext it) (fun r s₁ => match r with
      | none => R (.ok .next) s₁
      | some v => wpAny (model prog w) A (assign target env v) (fun _ s₂ => wpC (model prog w) A (execs body env) (fun f s₃ => match f with
          | .next | .cont => ∃ m, m < n ∧ I m s₃
          | .brk => R (.ok .next) s₃
          | .ret v => R (.ok (.ret v)) s₃) (fun _ _ => False) s₂) (fun _ _ => False) s₁) (fun _ _ => False) s)
    (n : Nat) (h : I n s) (ht : ∀ v, letOwnedTupleGo target it v = pure () := by intro _; rfl) : codeC (model prog w) A (.forLoop target it body [] env) R s := by
  refine codeC_loop' rfl I (fun n s hI => ?_) n h
  show wpC _ A ((forTurn target it body [] env).onRaise (fun x => do noteFrame x env; theTreesLotGoes x)) _ _ s
  refine wpC_onRaise0 ?_
  unfold forTurn
  refine wpC_bind (wpC_any (wpAny_standAt ?_))
  refine wpC_bind (wpC_onRaise0 (wpC_mono (wpC_any (turn n s hI)) (fun r s₁ h₁ => ?_) fun _ _ x => x))
  cases r with
  | none => exact wpC_pure (.inr ⟨rfl, codeC_any (codeAny_block (wpAny_execs_nil h₁))⟩)
  | some v =>
    refine wpC_bind (wpC_any (wpAny_of_eq (ht v) ?_))
    refine wpC_bind (wpC_mono (wpC_any h₁) (fun _ s₂ h₂ => ?_) fun _ _ x => x)
    refine wpC_bind (wpC_mono h₂ (fun f s₃ h₃ => ?_) fun _ _ x => x)
    cases f with
    | next => exact wpC_pure (.inl ⟨rfl, h₃⟩)
    | cont => exact wpC_pure (.inl ⟨rfl, h₃⟩)
    | brk => exact wpC_pure h₃
    | ret v => exact wpC_pure h₃
theorem wpC_For {target iter : Expr} {body : List Stmt} {pos : Pos} {Q : Flow → Shared → Prop}
    (h : wpAny (model prog w) A (eval iter env) (fun x s₁ => wpAny (model prog w) A (pyIter x) (fun it s₂ =>
      codeC (model prog w) (A.mark none) (.forLoop target it body [] env) (fun r s' => match r with | .ok f => Q f s' | .error _ => False) s₂) (fun _ _ => False) s₁) (fun _ _ => False) s)
    (hs : ∀ x, foldedSetIterable iter env x = pure x := by intro _; rfl) :
    wpC (model prog w) A (exec (.For target iter body [] pos) env) Q E s := by
  refine wpC_quiet ?_
  rw [exec_For]
  refine wpC_bind (wpC_any (wpAny_standAt ?_))
  refine wpC_bind (wpC_mono (wpC_any h) (fun x s₁ h₁ => ?_) fun _ _ x => x)
  refine wpC_bind (wpC_any (wpAny_of_eq (hs x) ?_))
  refine wpC_bind (wpC_any (wpAny_standAt ?_))
  refine wpC_bind (wpC_holding (wpC_mono (wpC_any h₁) (fun it s₂ h₂ => ?_) fun _ _ x => x))
  exact wpC_runOwn h₂
/-- a call of a method whose callee is reached in the logic C -/
theorem wpC_MethodCall {o : Expr} {name : Str} {apos pos : Pos} {args : List Expr} {pl : Sem Bool} {Q : Value → Shared → Prop}
    (h : wpAny (model prog w) A (eval o env) (fun ov s₁ => wpAny (model prog w) A (getMethod ov name pl) (fun fx s₂ => wpC (model prog w) A (callWith pos fx.1 fx.2 (backTo pos (starEach args env)) []) Q E s₂) (fun _ _ => False) s₁) (fun _ _ => False) s)
    (he : eval (.Call (.Attribute o name apos) args [] pos) env = (do
      let ov ← eval o env
      standAt apos.atName
      let (f, first) ← holding [ov] (getMethod ov name pl)
      callWith pos f first (backTo pos (starEach args env)) []) := by rfl) :
    wpC (model prog w) A (eval (.Call (.Attribute o name apos) args [] pos) env) Q E s := by
  rw [he]
  refine wpC_bind (wpC_quiet (wpC_mono (wpC_any h) (fun ov s₁ h₁ => ?_) fun _ _ x => x))
  refine wpC_bind (wpC_any (wpAny_standAt ?_))
  refine wpC_bind (wpC_holding (wpC_quiet (wpC_mono (wpC_any h₁) (fun fx s₂ h₂ => ?_) fun _ _ x => x)))
  exact h₂
theorem wpC_callWith_of {P : Heap → Prop} {pos : Pos} {f : Value} {first : List Value} {args : List (Bool × Sem Value)} {Q : Value → Shared → Prop} (hplain : (args.any (·.1) || ([] : List (Option Str × Sem Value)).any (·.1.isNone)) = false)
    (hk : ∀ h, P h → ∃ k, (k = Keeper.frame ∨ k = Keeper.machine ∨ k = Keeper.boundFrame) ∧ Looks (model prog w) h (keeperOf f) k)
    (h : wpAny (model prog w) A (evalArgs f true args []) (fun a s₁ => P s₁.heap ∧ wpC (model prog w) A (call f (first ++ a.pos) a.kw) Q E s₁) (fun _ _ => False) s) : wpC (model prog w) A (callWith pos f first args []) Q E s := by
  unfold callWith
  refine wpC_bind (wpC_holding (wpC_quiet (wpC_mono (wpC_any h) (fun a s₁ h₁ => wpC_bind (wpC_any (wpAny_standAt ?_))) fun _ _ x => x)))
  obtain ⟨k, hk', L⟩ := hk _ h₁.1
  simp only [hplain]
  refine wpC_bind (wpC_any (L.here ?_))
  have tail : ∀ {t : Sem Value}, wpC (model prog w) A t Q E s₁ → wpC (model prog w) A (t >>= fun r => holding [r] point >>= fun _ => pure r) Q E s₁ :=
    fun ht => wpC_bind (wpC_mono ht (fun r s₂ hr => wpC_any (wpAny_bind (wpAny_holding (wpAny_point (wpAny_pure hr))))) fun _ _ x => x)
  have marked (mk : Value) : wpC (model prog w) A (callMarked mk f (first ++ a.pos) a.kw) Q E s₁ := by unfold callMarked; exact wpC_keep h₁.2
  rcases hk' with rfl | rfl | rfl <;> dsimp only <;> first | exact tail h₁.2 | (split <;> first | exact tail h₁.2 | exact tail (marked _))
theorem wpC_callWith_K {K : Frag} {pos : Pos} {f : Value} {first : List Value} {e : Expr} {rest : List Expr} {Q : Value → Shared → Prop} (hk : keepIn K f = true)
    (h : wpAny (model prog w) A (spliced (backTo pos (starEach (e :: rest) env))) (fun vs s₁ => K.In s₁.heap ∧ wpC (model prog w) A (call f (first ++ vs)) Q E s₁) (fun _ _ => False) s)
    (he : starEach (e :: rest) env = (false, eval e env) :: starEach rest env := by rfl) (hplain : (backTo pos (starEach rest env)).any (·.1) = false := by rfl) :
    wpC (model prog w) A (callWith pos f first (backTo pos (starEach (e :: rest) env)) []) Q E s := by
  rw [he] at h ⊢
  exact wpC_callWith_of (by show ((false || (backTo pos (starEach rest env)).any (·.1)) || false) = false; rw [hplain]; rfl) (keeps_K hk) (evalArgs_plain h)
theorem wpC_callWith_type {pos : Pos} {T : String} {e : Expr} {rest : List Expr} {Q : Value → Shared → Prop}
    (h : wpAny (model prog w) A (spliced (backTo pos (starEach (e :: rest) env))) (fun vs s₁ => wpC (model prog w) A (call (.type T) vs) Q E s₁) (fun _ _ => False) s)
    (he : starEach (e :: rest) env = (false, eval e env) :: starEach rest env := by rfl) (hplain : (backTo pos (starEach rest env)).any (·.1) = false := by rfl) :
    wpC (model prog w) A (callWith pos (.type T) [] (backTo pos (starEach (e :: rest) env)) []) Q E s := by
  rw [he] at h ⊢
  have h' : wpAny (model prog w) A (evalArgs (.type T) true (backTo pos ((false, eval e env) :: starEach rest env)) []) (fun a s₁ => wpC (model prog w) A (call (.type T) ([] ++ a.pos) a.kw) Q E s₁) (fun _ _ => False) s := evalArgs_plain h
  clear h
  unfold callWith
  refine wpC_bind (wpC_holding (wpC_quiet (wpC_mono (wpC_any h') (fun a s₁ h₁ => wpC_bind (wpC_any (wpAny_standAt ?_))) fun _ _ x => x)))
  have hp : (List.any (backTo pos ((false, eval e env) :: starEach rest env)) fun x => x.1) = false := by
    show (false || (backTo pos (starEach rest env)).any (·.1)) = false
    rw [hplain]; rfl
  simp only [hp, List.any_nil, Bool.or_false]
  refine wpC_bind (wpC_any (wpAny_pure ?_))
  exact wpC_bind (wpC_mono h₁ (fun r s₂ hr => wpC_any (wpAny_bind (wpAny_holding (wpAny_point (wpAny_pure hr))))) fun _ _ x => x)
theorem wpC_Call_Name {x : Str} {p pos : Pos} {args : List Expr} {Q : Value → Shared → Prop}
    (h : wpAny (model prog w) A (eval (.Name x p) env) (fun f s₁ => wpC (model prog w) A (callWith pos f [] (backTo pos (starEach args env)) []) Q E s₁) (fun _ _ => False) s) :
    wpC (model prog w) A (eval (.Call (.Name x p) args [] pos) env) Q E s := by
  show wpC (model prog w) A (eval (.Name x p) env >>= fun f => callWith pos f [] (backTo pos (starEach args env)) []) Q E s
  exact wpC_bind (wpC_quiet (wpC_any h))
/-- try: the body in C; what it raises leaves by the clauses -/
theorem wpC_Try {body orelse : List Stmt} {h₀ : ExceptHandler} {hs : List ExceptHandler} {pos : Pos} {Q : Flow → Shared → Prop}
    (h : wpC (model prog w) A (execs body env) (fun f s₁ => match f with | .next => wpAny (model prog w) A (execs orelse env) Q E s₁ | f => Q f s₁)
      (fun e s₁ => wpAny (model prog w) A (leaving env e) (fun _ s₃ => wpAny (model prog w) A (handleBy e env (h₀ :: hs)) Q E s₃) E s₁) s) :
    wpC (model prog w) A (exec (.Try body (h₀ :: hs) orelse [] pos) env) Q E s := by
  rw [arm_exec_Try]
  refine wpC_bind (wpC_any (wpAny_standAt ?_))
  unfold tryStmt
  simp only [List.isEmpty_nil, if_true, List.isEmpty_cons, Bool.false_and, Bool.false_eq_true, if_false]
  refine wpC_bind (wpC_attempt (wpC_mono h (fun f s₁ h₁ => ?_) fun e s₁ h₁ => ?_))
  · cases f <;> first | exact wpC_any h₁ | exact wpC_pure h₁
  · refine wpC_any ?_
    intro Γ p hΓ
    have := h₁ Γ p hΓ
    unfold leaving at this
    simp only [Sem.wp_bind'] at this ⊢
    refine Sem.wp_mono _ Γ _ (fun _ p' s' h' => ?_) (fun _ _ _ h' => h') _ _ this
    refine Sem.wp_mono _ Γ _ (fun _ p'' s'' h'' => ?_) (fun _ _ _ h' => h') _ _ h'
    exact h'' Γ p'' hΓ
end
end Jl
end
section
open PySem PySem.W PySem.Spec PySem.Calls PyProof.Rows
set_option maxRecDepth 100000
namespace Jl
section
variable {prog : Program} {w : World} {A₀ A : Around} {s : Shared} {base h₀ : Heap} {L : Addr} {m : Str → Option Value} {news : List (Addr × Obj)} {K : Frag} {p : Program} {loose : List Str} {mean : ExcName → Option Value} {mg mb : Str → Option Value}
    {R : Result → Shared → Prop} {name qual : Str} {params : Arguments} {body : List Stmt} {scope : Scope} {dV kV doc pm cdv ct oc : Value} {an od : Option Addr} {osl : Array (Option Value)} {f : Addr} {args : Args} {binds : List (Str × Value)} {env : Env}
/-- the entry of a def of the text from the law's own frame; the frame's slots may turn -/
theorem codeC_defS0 (B : Below A₀ base [] h₀) (F : Fr h₀ L s.heap m) (X₀ : K.In h₀) (N : News h₀ L s.heap news) (T : Top p loose mean mg mb h₀) (hA : A.frames = some [env]) (hf : env.frame = some L) (hke : env.scope.kind = .function)
    (ho : K.lookup f = some ⟨oc, od, .func (fnOf name qual params body scope dV kV doc pm an cdv ct), osl⟩) (hcd : codeIn K cdv qual = true) (hroom : A.depth < recursionLimit)
    (hbind : BindsTo s (fnOf name qual params body scope dV kV doc pm an cdv ct) args binds) (hloc : ∀ y ∈ binds, scope.names.lookup y.1 = some .local)
    (h : ∀ g L' h₁, Fr h₀ L g m → Fr g L' h₁ (fun y => binds.reverse.lookup y) → News g L' h₁ news → Below A base [env] g → K.In g → Top p loose mean mg mb g → KtsDicts ([env].filterMap (·.frame)) g →
      wpC (model prog w) (A.deeper (envOf qual scope L' f cdv)) (execs body (envOf qual scope L' f cdv))
        (fun fl s' => LeaveS0 ([env].filterMap (·.frame)) h₀ L m g R (match fl with | .ret v => v | _ => .none) s') (fun _ _ => False)
        { s with heap := h₁, toks := s.toks + binds.length })
    (hco : scope.isCoroutine = false) (hgen : scope.isGenerator = false) (hk : scope.kind = .function)
    (hcell : ∀ x ∈ scope.names, x.2 ≠ .cell) : codeC (model prog w) A (.call (.ref f) args) R s := by
  have X := X₀.keeps F.keep
  obtain ⟨FG, BG, st, _⟩ := groundX (R := R) B F N hA hf hke
  have hfs : [env].filterMap (·.frame) = [L] := by simp [hf]
  refine codeC_call_function (fd := fnOf name qual params body scope dV kV doc pm an cdv ct) (body := body) hroom (X _ _ ho) rfl hco hgen rfl (codeRec_of X hcd) (hbind _ _ _ _ ?_)
  refine wpAny_newFunctionEnv hcell hloc (fun h₁ hns hsb => ⟨(T.nolimit.keeps F.keep).fresh _ hsb, codeC_func ?_⟩) hk
  have hk₁ : ∀ b o, s.heap.get? b = some o → h₁.get? b = some o := fun b o e => hsb.extBut b o (Nat.ne_of_lt (Heap.lt_size e)) (Heap.get?_push_of_some _ e)
  obtain ⟨oL, es, ep, hLg, hLd, hLk, hLf⟩ := id FG.ns
  refine wpC_mono (h _ s.heap.objs.size h₁ FG ⟨hns, fun b o e => hk₁ b o (of_hideAll _ e), Nat.le_of_eq (hideAll_size _ _)⟩
    (fun p hp => ⟨hk₁ _ _ (N p hp).1, Nat.ne_of_lt (Heap.lt_size (N p hp).1), hideAll_none _ (List.mem_map_of_mem hp)⟩) BG (X₀.keeps st) (T.keeps st) (fun b hb => by
      rw [hfs] at hb
      obtain rfl := List.mem_singleton.mp hb
      exact ⟨oL, es, ep, hLg, hLd⟩)) (fun fl s' hl => ?_) fun _ _ y => y.elim
  obtain ⟨g', L', m', news', T', F', N', k⟩ := hl
  rw [hfs] at T'
  have nL₀ : h₀.get? L = none := kts_self F
  obtain ⟨sl, hs⟩ := T'.up hLg
  refine k ⟨⟨_, es, ep, F'.keep _ _ hs, hLd, hLk, hLf⟩, fun b o e => F'.keep b o (T'.other b o (st b o e) (fun q => by
    obtain rfl := List.mem_singleton.mp q
    rw [nL₀] at e; cases e)), F.above⟩ fun p hp => ⟨(N' p hp).1, fun q => ?_, ?_⟩
  · have := (N' p hp).2.2; rw [q, hs] at this; cases this
  · cases q : h₀.get? p.1 with
    | none => rfl
    | some o =>
      obtain ⟨sl', hs'⟩ := T'.up (st _ _ q)
      have := (N' p hp).2.2
      rw [hs'] at this
      cases this
end
section
variable {M : Model} {A : Around} {E : Value → Shared → Prop} {s' : Shared} {base g h : Heap} {outer : List Env} {L e : Addr} {m : Str → Option Value} {env : Env} {Q : Unit → Shared → Prop} {news : List (Addr × Obj)}
theorem below_pushX (K : Below A base outer g) (F : Fr g L h m) (hf : env.frame = some L) (hk : env.scope.kind = .function) : Below (A.deeper env) base (env :: outer) h := by
  have hnew : base.get? L = none := by
    cases hq : base.get? L with
    | none => rfl
    | some o => exact absurd (Nat.lt_of_lt_of_le (Heap.lt_size (K.stays L o hq)) F.above) (Nat.lt_irrefl _)
  refine ⟨Around.frames_deeper K.stack, fun b o e => F.keep b o (K.stays b o e), ?_⟩
  exact .cons (by rw [hk]; decide) hf F.ns hnew (K.frames.of_keeps fun b o e _ => ⟨o, F.keep b o e, rfl⟩)
theorem kts_memX {b : Addr} (hf : env.frame = some L) (hm : b ∈ (env :: outer).filterMap (·.frame)) : b = L ∨ b ∈ outer.filterMap (·.frame) := by
  obtain ⟨env', he, hf'⟩ := List.mem_filterMap.mp hm
  rcases List.mem_cons.mp he with rfl | he
  · rw [hf] at hf'; exact .inl (Option.some.inj hf').symm
  · exact .inr (List.mem_filterMap.mpr ⟨env', he, hf'⟩)
/-- a new exception leaves a frame, of a def with cells too -/
theorem leave_newSX {cls : String} (K : Below A base outer g) (hx : Heap.NewExc h s'.heap e cls) (F : Fr g L h m) (N : News g L h news) (hf : env.frame = some L) (hk : env.scope.kind = .function)
    (hQ : ∀ h', RaisedSN base g outer e (.type cls) news h' → RaisedN base outer e (.type cls) news h' → g.UpToSlots h' → Q () { s' with heap := h' }) :
    wpAny M (A.deeper env) (leaving env (.ref e)) Q E s' := by
  have K' := below_pushX K F hf hk
  have hin : ∀ env' ∈ (env :: outer), ∀ b, env'.frame = some b → b ∈ (env :: outer).filterMap (·.frame) := fun env he b hb => List.mem_filterMap.mpr ⟨env, he, hb⟩
  have st : base.StaysIn (hideAll h ((env :: outer).filterMap (·.frame))) := fun b o q => hideAll_get _ (K'.stays b o q) fun hm => by
    rw [(K'.frames.mem hm).1] at q; cases q
  have sg : ∀ b o, g.get? b = some o → b ∉ outer.filterMap (·.frame) → (hideAll h ((env :: outer).filterMap (·.frame))).get? b = some o := fun b o q nm => hideAll_get _ (F.keep b o q) fun hm => by
    rcases kts_memX hf hm with z | z
    · rw [z, kts_self F] at q
      cases q
    · exact nm z
  have hl : ∀ q ∈ news, (hideAll h ((env :: outer).filterMap (·.frame))).get? q.1 = some q.2 ∧ g.get? q.1 = none ∧ base.get? q.1 = none := fun q hq => by
    refine ⟨hideAll_get _ (N q hq).1 fun hm => ?_, (N q hq).2.2, fresh_of_stays K.stays (N q hq).2.2⟩
    obtain ⟨env', he, hf'⟩ := List.mem_filterMap.mp hm
    rcases List.mem_cons.mp he with rfl | he
    · rw [hf] at hf'; exact (N q hq).2.1 (Option.some.inj hf').symm
    · obtain ⟨o, ho, _⟩ := (K.frames.mem (List.mem_filterMap.mpr ⟨env', he, hf'⟩)).2
      rw [(N q hq).2.2] at ho; cases ho
  obtain ⟨ob, tp, he, hcls, hd⟩ := hx.there
  have hen : (hideAll h ((env :: outer).filterMap (·.frame))).get? e = none := by
    cases q : (hideAll h ((env :: outer).filterMap (·.frame))).get? e with
    | none => rfl
    | some o => have := of_hideAll _ q; rw [hx.new] at this; cases this
  refine wpAny_leaving_firstW (a0 := tp) K'.stack ((funFrames_hide K'.frames hin).of_keeps fun b o hb _ => ⟨o, hx.keeps b o hb, rfl⟩) hf he (fun b o hb => hx.keeps b o (of_hideAll _ hb)) hen hd rfl rfl fun h' hL => ?_
  obtain ⟨k1, k2, k3, k4⟩ := hL
  have k2' : h'.FunFrames (hideAll h ((env :: outer).filterMap (·.frame))) outer := by obtain ⟨_, _, z⟩ := k2; exact z
  have R : RaisedSN base g outer e (.type cls) news h' := ⟨_, tp, st, sg, hl, k1, hen, k2', by rw [← hcls]; exact k3⟩
  exact hQ h' R R.toN (((Heap.UpToSlots.of_keeps F.keep).trans (Heap.UpToSlots.of_keeps hx.keeps)).trans k4)
end
section
variable {M : Model} {A : Around} {E : Value → Shared → Prop} {s' : Shared} {base g h : Heap} {outer : List Env} {L a e : Addr} {m : Str → Option Value} {name : Str} {scope : Scope} {cd : Value} {Q : Unit → Shared → Prop} {news : List (Addr × Obj)}
/-- an exception that the frame's own code has raised, seen by the frame's own try -/
theorem first_SN {cls : String} (K : Below A base outer g) (hx : Heap.NewExc h s'.heap e cls) (F : Fr g L h m) (N : News g L h news)
    (hQ : ∀ G h', Fr g L G m → RaisedSN base G (envOf name scope L a cd :: outer) e (.type cls) news h' → G.UpToSlots h' → Q () { s' with heap := h' }) (hk : scope.kind = .function := by rfl) :
    wpAny M (A.deeper (envOf name scope L a cd)) (leaving (envOf name scope L a cd) (.ref e)) Q E s' := by
  have K' := K.push (name := name) (a := a) (cd := cd) F hk
  have hin : ∀ env ∈ (envOf name scope L a cd :: outer), ∀ b, env.frame = some b → b ∈ (envOf name scope L a cd :: outer).filterMap (·.frame) := fun env he b hb => List.mem_filterMap.mpr ⟨env, he, hb⟩
  have nm : ∀ b o, g.get? b = some o → b ∉ news.map (·.1) := fun b o e q => by
    obtain ⟨p, hp, rfl⟩ := List.mem_map.mp q
    rw [(N p hp).2.2] at e; cases e
  have nL : L ∉ news.map (·.1) := fun q => by
    obtain ⟨p, hp, e⟩ := List.mem_map.mp q
    exact (N p hp).2.1 e
  have FG : Fr g L (hideAll h (news.map (·.1))) m := ⟨F.ns.at' fun o e => hideAll_get _ e nL, fun b o e => hideAll_get _ (F.keep b o e) (nm b o e), F.above⟩
  have st : base.StaysIn (hideAll h ((envOf name scope L a cd :: outer).filterMap (·.frame))) := fun b o q => hideAll_get _ (K'.stays b o q) fun hm => by
    rw [(K'.frames.mem hm).1] at q; cases q
  have sg : ∀ b o, (hideAll h (news.map (·.1))).get? b = some o → b ∉ (envOf name scope L a cd :: outer).filterMap (·.frame) → (hideAll h ((envOf name scope L a cd :: outer).filterMap (·.frame))).get? b = some o := fun b o q nm =>
    hideAll_get _ (of_hideAll _ q) nm
  have hl : ∀ q ∈ news, (hideAll h ((envOf name scope L a cd :: outer).filterMap (·.frame))).get? q.1 = some q.2 ∧ (hideAll h (news.map (·.1))).get? q.1 = none ∧ base.get? q.1 = none := fun q hq => by
    refine ⟨hideAll_get _ (N q hq).1 fun hm => ?_, hideAll_none _ (List.mem_map_of_mem hq), fresh_of_stays K.stays (N q hq).2.2⟩
    obtain ⟨env, he, hf⟩ := List.mem_filterMap.mp hm
    rcases List.mem_cons.mp he with rfl | he
    · exact (N q hq).2.1 (Option.some.inj hf).symm
    · obtain ⟨o, ho, _⟩ := (K.frames.mem (List.mem_filterMap.mpr ⟨env, he, hf⟩)).2
      rw [(N q hq).2.2] at ho; cases ho
  obtain ⟨ob, tp, he, hcls, hd⟩ := hx.there
  have hen : (hideAll h ((envOf name scope L a cd :: outer).filterMap (·.frame))).get? e = none := by
    cases q : (hideAll h ((envOf name scope L a cd :: outer).filterMap (·.frame))).get? e with
    | none => rfl
    | some o => have := of_hideAll _ q; rw [hx.new] at this; cases this
  refine wpAny_leaving_firstW (a0 := tp) K'.stack ((funFrames_hide K'.frames hin).of_keeps fun b o hb _ => ⟨o, hx.keeps b o hb, rfl⟩) rfl he (fun b o hb => hx.keeps b o (of_hideAll _ hb)) hen hd rfl rfl fun h' hL => ?_
  obtain ⟨k1, k2, k3, k4⟩ := hL
  exact hQ _ h' FG ⟨_, tp, st, sg, hl, k1, hen, k2, by rw [← hcls]; exact k3⟩ ((Heap.UpToSlots.of_keeps fun b o e => hx.keeps b o (of_hideAll _ e)).trans k4)
end
end Jl
end
section
open PySem PySem.W PyProof.Rows
local macro_rules | `(tactic| ktr_units) => `(tactic| ((simp only [units_under_make, units_in1, units_deeper, Around.mark_units]); (dsimp only [ktrTop]); omega))
local macro_rules | `(tactic| k_room) => `(tactic| ktr_room)
section
open PySem PySem.W PyProof.Rows
namespace Jl
theorem hx0 {x : Int} (h : 1 ≤ x ∧ x ≤ 4294967296) : 0 ≤ x - 1 ∧ x - 1 < 1099511627776 := by omega
variable {w : World} {p : Program} {loose : List Str} {mean : ExcName → Option Value} {mg mb : Str → Option Value} {dp un : Nat} {gd : Option (List Code)} {cn : Str} {cs : Scope} {a : Addr} {ccd : Value} {cl : List (Str × Addr)} {outer : List Env} {A₀ : Around} {base h₀ : Heap} {L : Addr} {m : Str → Option Value} {s : Shared} {Q E : Value → Shared → Prop} {news : List (Addr × Obj)}
set_option maxRecDepth 100000 in
set_option maxHeartbeats 8000000 in
theorem make_call (B : Below A₀ base outer h₀) (F : Fr h₀ L s.heap m) (X : (hdJ.heap_39 w.params).In h₀) (T : Top p loose mean mg mb h₀) (hk : cs.kind = .function) (hd : dp + 5 < recursionLimit) (hu : un + 28 < cLine)
  (kid : Addr) (kt t1 t2 t3 : Tok) (N : News h₀ L s.heap ((kid, PySem.W.listOf #[.str (Str.ofString "k") kt] 0) :: news)) (b : Int) (px : PySem.Str) (hb0 : 0 < b) (hb : b ≤ 32)
  (hret : ∀ x dx es h' tk', Fr h₀ L h' m → News h₀ L h' ((x, instObj 139 dx) :: (dx, dictOf es 7) :: (kid, PySem.W.listOf #[.str (Str.ofString "k") kt] 0) :: news) → RolesAre w kid b px es → AllLt dx ((kid, PySem.W.listOf #[.str (Str.ofString "k") kt] 0) :: news) → dx < x → Q (.ref x) {s with heap := h', toks := tk'}) :
  wpAny (model PySem.Challenge.rw_je0040_01.row.prog w) (ktrTop dp un gd cn cs L a ccd cl outer) (call (.ref 139) [.ref kid, .int 1 t1, .int b t2, .str px t3]) Q E s := by
  have hpw : 1 ≤ (2 : Int) ^ b.toNat ∧ (2 : Int) ^ b.toNat ≤ 4294967296 := pow2_bnd b hb
  k_with_none
  revert X
  k_fill
  intro X
  k_dflt (refine' call_cls ?k1 ?k2 ?k3 ?k4 ?k5 ?k6 ?_; (case k1 => k_asm); (case k2 => k_asm); (case k3 => k_asm); (case k4 => k_is); (case k5 => k_is); (case k6 => k_is); k_whole)
  intro x dx h' F' N' l1 l2
  have lc1 := allLt_of l1
  have lc2 := l2
  (try k_lt l1); (try k_lt2 l2)
  k_dflt (refine' ks_code_super ?k1 ?k2 ?k3 ?k4 ?k5 ?kA ?kF ?kK ?k6 ?k7 ?k8 ?k9 ?kB ?_ ?c1 ?c2 ?c3 ?c4; (case kA => exact rfl); (case kF => exact rfl); (case kK => assumption); (case k1 => k_asm); (case k2 => k_asm); (case k3 => k_asm); (case k4 => k_asm); (case k5 => k_asm); (case k6 => k_is); (case k7 => k_is); (case k8 => ktr_room); (case k9 => first | exact BindsTo.of_eq rfl | exact binds_K (by k_in) rfl (by k_is) rfl rfl rfl); (case kB => exact locs rfl); (case c1 => decide); (case c2 => exact rfl); (case c3 => exact rfl); (case c4 => exact rfl))
  intro g' L' h' FG' F' N' B' X' T' l1; (try k_lt l1); (try dsimp only); (try k_lift B')
  k_steps
  unfold Stop
  k_dflt (refine' setOne_N ?F9 ?N9 ?h9 ?m9 ?_; (case F9 => k_asm); (case N9 => k_asm); (case h9 => rfl); (case m9 => k_mem))
  intro d9 h9 tk9 o9 F9 N9 l9 hs9
  (try k_lt l9)
  (try dsimp only); (try k_fold)
  k_steps
  unfold Stop
  refine' hex_call ?B ?F ?X ?N ?T ?k ?d ?u _ _ _ _ ?h0 ?h1 ?h2 ?_
  (case B => k_asm)
  (case F => k_asm)
  (case X => k_asm)
  (case N => k_asm)
  (case T => k_asm)
  (case k => first | exact rfl | assumption)
  (case d => ktr_room)
  (case u => show un + 1 + 3 + 8 < cLine; omega)
  (case h0 => exact (hx0 (by assumption)).1)
  (case h1 => exact (hx0 (by assumption)).2)
  (case h2 => decide)
  intro t' h' tk' F' N' hl'
  (try dsimp only); (try k_fold)
  k_steps
  rename_i kF kN kT kX
  refine' hret x dx _ _ _ kF ?kN ?kR lc1 lc2
  case kN => refine cb_drop kN ?cbS; kcj_all
  case kR => exact ⟨_, (_, _, _, _, _, _, _, _, _, _, _, _), rfl⟩
end Jl
end
section
open PySem PySem.W PySem.Calls PyProof.Rows
namespace Jl
local macro_rules | `(tactic| walk_at "wpAt") => `(tactic| ((with_reducible show _root_.PySem.wpAt _ _ _ (execs (Stmt.Raise _ _ _ :: _) _) _ _ _); k_dflt (refine stop_here ?_)))
theorem pow2_bnd40 (b : Int) (h : b ≤ 40) : 1 ≤ (2 : Int) ^ b.toNat ∧ (2 : Int) ^ b.toNat ≤ 1099511627776 := by
  have e : (2 : Int) ^ b.toNat = ((2 ^ b.toNat : Nat) : Int) := by rw [Int.natCast_pow]; rfl
  have h1 : 2 ^ b.toNat ≤ 2 ^ 40 := Nat.pow_le_pow_right (by decide) (by omega)
  have h2 : 0 < 2 ^ b.toNat := Nat.two_pow_pos _
  rw [e]
  omega
variable {w : World} {p : Program} {loose : List Str} {mean : ExcName → Option Value} {mg mb : Str → Option Value} {dp un : Nat} {gd : Option (List Code)} {cn : Str} {cs : Scope} {a : Addr} {ccd : Value} {cl : List (Str × Addr)} {A₀ : Around} {base h₀ : Heap} {L : Addr} {m : Str → Option Value} {s : Shared} {Q E : Value → Shared → Prop} {news : List (Addr × Obj)}
set_option maxRecDepth 100000 in
set_option maxHeartbeats 2000000 in
theorem refused_call (B : Below A₀ base [] h₀) (XB : (hdJ.heap_39 w.params).In base) (TB : Top p loose mean mg mb base) (F : Fr h₀ L s.heap m) (X : (hdJ.heap_39 w.params).In h₀) (N : News h₀ L s.heap news) (T : Top p loose mean mg mb h₀) (hk : cs.kind = .function) (hd : dp + 6 < recursionLimit) (hu : un + 38 < cLine)
  (b : Int) (t1 : Tok) (hb2 : -10 ≤ b) (hb3 : b ≤ 40)
  (hret : ∀ h' tk', Fr h₀ L h' m → News h₀ L h' news → Q (.bool (decide (b < 1 ∨ 32 < b))) {s with heap := h', toks := tk'}) :
  wpC (model PySem.Challenge.rw_je0040_01.row.prog w) (ktrTop dp un gd cn cs L a ccd cl []) (call (.ref 190) [.int b t1]) Q E s := by
  have hpw : 1 ≤ (2 : Int) ^ b.toNat ∧ (2 : Int) ^ b.toNat ≤ 1099511627776 := pow2_bnd40 b hb3
  k_with_none
  revert X XB
  k_fill
  intro X XB
  refine wpC_call ?_
  refine' codeC_defS0 ?k1 ?k2 ?k3 ?k4 ?k5 ?kA ?kF ?kK ?k6 ?k7 ?k8 ?k9 ?kB ?_ ?c2 ?c3 ?c4 ?c5
  case kA => exact rfl
  case kF => exact rfl
  case kK => assumption
  case k1 => assumption
  case k2 => assumption
  case k3 => assumption
  case k4 => assumption
  case k5 => assumption
  case k6 => k_is
  case k7 => k_is
  case k8 => ktr_room
  case k9 => exact BindsTo.of_eq rfl
  case c5 => decide
  case kB => exact locs rfl
  case c2 => exact rfl
  case c3 => exact rfl
  case c4 => exact rfl
  intro g' L' h' FG' F' N' B' X' T' D'
  (try dsimp only); (try k_lift B'); (try k_fold)
  clear N F
  refine wpC_execs_cons (wpC_any ?_)
  k_steps
  unfold Stop
  k_dflt (refine' call_cls ?kc1 ?kc2 ?kc3 ?kc4 ?kc5 ?kc6 ?_; (case kc1 => k_asm); (case kc2 => k_asm); (case kc3 => k_asm); (case kc4 => k_is); (case kc5 => k_is); (case kc6 => k_is); k_whole)
  intro x dx h' F' N' l1 l2
  (try k_lt l1); (try k_lt2 l2)
  k_dflt (refine' ks_code_super ?kd1 ?kd2 ?kd3 ?kd4 ?kd5 ?kdA ?kdF ?kdK ?kd6 ?kd7 ?kd8 ?kd9 ?kdB ?_ ?cd1 ?cd2 ?cd3 ?cd4; (case kdA => exact rfl); (case kdF => exact rfl); (case kdK => first | exact rfl | assumption); (case kd1 => k_asm); (case kd2 => k_asm); (case kd3 => k_asm); (case kd4 => k_asm); (case kd5 => k_asm); (case kd6 => k_is); (case kd7 => k_is); (case kd8 => ktr_room); (case kd9 => first | exact BindsTo.of_eq rfl | exact binds_K (by k_in) rfl (by k_is) rfl rfl rfl); (case kdB => exact locs rfl); (case cd1 => decide); (case cd2 => exact rfl); (case cd3 => exact rfl); (case cd4 => exact rfl))
  intro g' L' h' FG' F' N' B' X' T' l1; (try k_lt l1); (try dsimp only); (try k_lift B')
  k_steps
  unfold Stop
  k_dflt (refine' setNil_N ?F9 ?N9 ?h9 ?m9 ?_; (case F9 => k_asm); (case N9 => k_asm); (case h9 => rfl); (case m9 => k_mem))
  intro d9 h9 tk9 o9 F9 N9 l9 hs9
  (try k_lt l9)
  (try dsimp only); (try k_fold)
  k_steps
  rotate_left 2
  · unfold Stop
    refine' hex_call ?qB ?qF ?qX ?qN ?qT ?qk ?qd ?qu _ _ _ _ ?q0 ?q1 ?q2 ?_
    (case qB => k_asm)
    (case qF => k_asm)
    (case qX => k_asm)
    (case qN => k_asm)
    (case qT => k_asm)
    (case qk => exact rfl)
    (case qd => ktr_room)
    (case qu => show un + 3 + 1 + 3 + 8 < cLine; omega)
    (case q0 => omega)
    (case q1 => omega)
    (case q2 => decide)
    intro t' h' tk' F' N' hl'
    (try dsimp only); (try k_fold)
    k_steps
    (try dsimp only)
    refine wpC_execs_cons (wpC_any ?_)
    k_steps
    rename_i kF kN _ _
    refine cb_retB (Q := Q) (fun _ h' tk' F N => hret h' tk' F N) ?e1 kF ?e3
    case e1 => exact (decide_eq_false (by omega)).symm
    case e3 => (refine cb_drop kN ?_); kcj_all
  all_goals
    unfold Stop
    refine wpAt_of_wpAny (wpAny_execs_cons ?_)
    refine Raise_new rfl ?_
    k_steps
    rename_i h2 e2 hx2
    refine' leave_newSX ?fK hx2 ?fF ?fN ?fH ?fC ?_
    case fK => exact B'
    case fH => exact rfl
    case fC => exact rfl
    case fF => k_asm
    case fN => k_asm
    intro h3 S3 R3 U3
    (try dsimp only at S3 R3 U3 ⊢)
    k_steps
    rename_i kF kN _ _
    refine cb_retB (Q := Q) (fun _ h' tk' F N => hret h' tk' F N) ?e1 kF ?e3
    case e1 => exact (decide_eq_true (by omega)).symm
    case e3 => (refine cb_drop kN ?_); kcj_all
end Jl
end
end
section
open PySem PySem.W PyProof.Rows
namespace Jl
theorem news_rot {h₀ : Heap} {L : Addr} {h : Heap} {x y z : Addr × Obj} {l : List (Addr × Obj)} (N : News h₀ L h (x :: y :: z :: l)) : News h₀ L h (y :: z :: x :: l) := fun p hp => N p (by
  simp only [List.mem_cons] at hp ⊢
  rcases hp with h | h | h | h
  · exact .inr (.inl h)
  · exact .inr (.inr (.inl h))
  · exact .inl h
  · exact .inr (.inr (.inr h)))
/-- the entries of a ledger at these places, and behind them the rest from a place on -/
noncomputable def pick : List (Addr × Obj) → List Nat → List (Addr × Obj)
  | _, [] => []
  | l, i :: is => match l.drop i with
    | [] => pick l is
    | p :: _ => p :: pick l is
theorem pick_mem {l : List (Addr × Obj)} : ∀ {is : List Nat} {p : Addr × Obj}, p ∈ pick l is → p ∈ l
  | [], _, h => nomatch h
  | i :: is, p, h => by
    unfold pick at h
    split at h
    · exact pick_mem h
    · rename_i q r e
      rcases List.mem_cons.mp h with rfl | h
      · exact List.mem_of_mem_drop (e ▸ List.mem_cons_self)
      · exact pick_mem h
theorem news_pick {h₀ : Heap} {L : Addr} {h : Heap} {l : List (Addr × Obj)} (is : List Nat) (N : News h₀ L h l) : News h₀ L h (pick l is) := fun p hp => N p (pick_mem hp)
/-- the same, with the rest of the ledger behind place k kept -/
theorem news_pickT {h₀ : Heap} {L : Addr} {h : Heap} {l : List (Addr × Obj)} (is : List Nat) (k : Nat) (N : News h₀ L h l) : News h₀ L h (pick l is ++ l.drop k) := fun p hp => N p (by
  rcases List.mem_append.mp hp with hp | hp
  · exact pick_mem hp
  · exact List.mem_of_mem_drop hp)
theorem off_cons {x a : Addr} {o : Obj} {l : List (Addr × Obj)} (h : a ≠ x) (t : ∀ q ∈ l, q.1 ≠ x) : ∀ q ∈ (a, o) :: l, q.1 ≠ x := fun q hq => by
  rcases List.mem_cons.mp hq with rfl | hq
  · exact h
  · exact t q hq
theorem off_nil {x : Addr} : ∀ q ∈ ([] : List (Addr × Obj)), q.1 ≠ x := fun _ h => nomatch h
theorem off_same {x : Addr} {l l' : List (Addr × Obj)} (h : ∀ q ∈ l, q.1 ≠ x) (e : l'.map (·.1) = l.map (·.1)) : ∀ q ∈ l', q.1 ≠ x := fun q hq => by
  have := List.mem_map_of_mem (f := fun q : Addr × Obj => q.1) hq
  rw [e] at this
  obtain ⟨q', hq', e'⟩ := List.mem_map.mp this
  rw [← e']
  exact h q' hq'
end Jl
end
section
open PySem PySem.W PyProof.Rows
namespace Jl
noncomputable def lawFD : Stmt := PySem.Challenge.pw_je0040_01.main.body.getLastD (.Pass default)
noncomputable def lawBody : List Stmt := match lawFD with | .FunctionDef _ _ b _ _ _ _ _ _ _ => b | _ => []
noncomputable def lawScope : Scope := match lawFD with | .FunctionDef _ _ _ _ _ _ sc _ _ _ => sc | _ => default
noncomputable def lawSt (i : Nat) : Stmt := lawBody.getD i (.Pass default)
noncomputable abbrev lawEnv (L fa : Addr) (cd : Value) : Env := envOfC (Str.ofString "law") lawScope L fa cd
end Jl
end
section
open PySem PySem.W PyProof.Rows
namespace Jl
theorem fm_pos (x : Int) {k : Int} (h : 0 < k) : 0 ≤ x.fmod k := by rw [Int.fmod_eq_emod_of_nonneg _ (Int.le_of_lt h)]; exact Int.emod_nonneg _ (Int.ne_of_gt h)
theorem fm_lt (x : Int) {k : Int} (h : 0 < k) : x.fmod k < k := by rw [Int.fmod_eq_emod_of_nonneg _ (Int.le_of_lt h)]; exact Int.emod_lt_of_pos _ h
theorem wd_stored {w : World} {o : Obj} {r x v : Value} (h : Obj.IsDictOf (PySem.strKind PySem.Challenge.rw_je0040_01.row.prog w) o (stored [(Str.ofString "row", r), (Str.ofString "at", x)] (Str.ofString "at") v)) :
    Obj.IsDictOf (PySem.strKind PySem.Challenge.rw_je0040_01.row.prog w) o [(Str.ofString "row", r), (Str.ofString "at", v)] := by
  have e : stored [(Str.ofString "row", r), (Str.ofString "at", x)] (Str.ofString "at") v = [(Str.ofString "row", r), (Str.ofString "at", v)] := by
    simp [stored, show (Str.ofString "row" = Str.ofString "at") = False from by decide]
  rw [← e]; exact h
variable {w : World} {p : Program} {loose : List Str} {mean : ExcName → Option Value} {mg mb : Str → Option Value} {dp un : Nat} {gd : Option (List Code)} {cn : Str} {cs : Scope} {a : Addr} {ccd : Value} {cl : List (Str × Addr)} {outer : List Env} {A₀ : Around} {base h₀ : Heap} {L : Addr} {m : Str → Option Value} {s : Shared} {Q E : Value → Shared → Prop} {news : List (Addr × Obj)}
set_option maxRecDepth 100000 in
set_option maxHeartbeats 8000000 in
theorem next_call (r d : Addr) (o : Obj) (vs : List Value) (n : Nat) (ns : List Int) (u3 : Tok) (at0 : Int) (B : Below A₀ base outer h₀) (F : Fr h₀ L s.heap m) (X : (hdJ.heap_39 w.params).In h₀) (N : News h₀ L s.heap ((d, o) :: (r, PySem.W.listOf vs.toArray n) :: news)) (T : Top p loose mean mg mb h₀) (hk : cs.kind = .function) (hd : dp + 1 < recursionLimit) (hu : un + 8 < cLine)
  (hds : (d == sysModules) = false) (hne : ∀ p ∈ (r, PySem.W.listOf vs.toArray n) :: news, p.1 ≠ d) (hD : Obj.IsDictOf (PySem.strKind PySem.Challenge.rw_je0040_01.row.prog w) o [(Str.ofString "row", Value.ref r), (Str.ofString "at", Value.int at0 u3)])
  (many : Int) (tk : Tok) (hm : 0 < many) (hm2 : many < 1099511627776) (hi : IntsAre vs ns) (hlen : ns.length ≤ 100) (hat : 0 ≤ at0) (hat2 : at0 ≤ 1000) 
  (hret : ∀ v t h' tk' o' u3', 0 ≤ v → v < many → Fr h₀ L h' m → News h₀ L h' ((d, o') :: (r, PySem.W.listOf vs.toArray n) :: news) → Obj.IsDictOf (PySem.strKind PySem.Challenge.rw_je0040_01.row.prog w) o' [(Str.ofString "row", Value.ref r), (Str.ofString "at", Value.int (at0 + 1) u3')] → Q (.int v t) {s with heap := h', toks := tk'}) :
  wpAny (model PySem.Challenge.rw_je0040_01.row.prog w) (ktrTop dp un gd cn cs L a ccd cl outer) (call (.ref 155) [.ref d, .int many tk]) Q E s := by
  k_with_none
  k_with "setItem ref str" => (k_dflt (refine' kda_set (knd := PySem.strKind _ _) ?F ?N (UpdF.head hne) ?d (strKind_is _ _ _ _) ?z ?_; (case F => k_asm); (case N => k_asm); (case d => k_asm); (case z => rw [sizeLine_eq]; exact Nat.le_of_ble_eq_true (by with_unfolding_all rfl))); intro h' o' F' N' hd'; (replace hd' := wd_stored hd'); (try dsimp only at N'))
  revert X
  k_fill
  intro X
  refine wpAny_call ?_
  k_dflt cell_enter
  k_steps
  all_goals (
    refine hret _ _ _ _ ?ro ?ru (fm_pos _ hm) (fm_lt _ hm) ?rc ?rd ?re
    case rc => k_asm
    case rd => assumption
    case re => assumption)
end Jl
end
section
open PySem PySem.W PyProof.Rows
namespace Jl
noncomputable def WD (w : World) (r : Addr) (od : Obj) (at0 : Int) : Prop := ∃ u, Obj.IsDictOf (PySem.strKind PySem.Challenge.rw_je0040_01.row.prog w) od [(Str.ofString "row", Value.ref r), (Str.ofString "at", Value.int at0 u)]
theorem pick2 {a b c : Int} (ha : 0 ≤ a) (ha1 : a < 6) (hb : 0 ≤ b) (hb1 : b < 32) (hc : 0 ≤ c) (hc1 : c < 2) : 1 ≤ 1 + [a, b].getD c.toNat 0 ∧ 1 + [a, b].getD c.toNat 0 ≤ 32 := by
  have : c = 0 ∨ c = 1 := by omega
  rcases this with rfl | rfl
  · show 1 ≤ 1 + a ∧ 1 + a ≤ 32; omega
  · show 1 ≤ 1 + b ∧ 1 + b ≤ 32; omega
variable {w : World} {p : Program} {loose : List Str} {mean : ExcName → Option Value} {mg mb : Str → Option Value} {h₀ : Heap} {L fa : Addr} {cd : Value} {m : Str → Option Value} {s : Shared} {Q : Flow → Shared → Prop} {E : Value → Shared → Prop}
set_option maxRecDepth 100000 in
set_option maxHeartbeats 8000000 in
theorem law_s0 (l : Addr) (B : Below callerA h₀ [] h₀) {u : Str → Option Value} (F : Fr h₀ L s.heap (fun y => if y = Str.ofString "script" then some (.ref l) else u y)) (X : (hdJ.heap_39 w.params).In h₀) (T : Top p loose mean mg mb h₀)
  (vs : List Value) (ns : List Int) (o1 o2 o3 o4 : Obj) (v1 : Option Value) (hl : h₀.IsList l vs.toArray) (hI : IntsAre vs ns) (hlen : ns.length ≤ 63) (h1 : o1.data = Data.cell v1)
  (N : News h₀ L s.heap ((L + 1 + 1 + 1 + 1, o4) :: (L + 1 + 1 + 1, o3) :: (L + 1 + 1, o2) :: (L + 1, o1) :: []))
  (hret : ∀ d r od vs n ns o1' h' tk', Fr h₀ L h' (fun y => if y = Str.ofString "script" then some (.ref l) else u y) → News h₀ L h' ((d, od) :: (r, PySem.W.listOf vs.toArray n) :: (L + 1 + 1 + 1 + 1, o4) :: (L + 1 + 1 + 1, o3) :: (L + 1 + 1, o2) :: (L + 1, o1') :: []) → @LT.lt Nat _ (L + 1 + 1 + 1 + 1) r → @LT.lt Nat _ r d → (d == sysModules) = false → WD w r od 0 → IntsAre vs ns → ns.length ≤ 72 → o1'.data = Data.cell (some (.ref d)) → Q .next {s with heap := h', toks := tk'}) :
  wpAny (model PySem.Challenge.rw_je0040_01.row.prog w) (callerA.deeper (lawEnv L fa cd)) (exec (lawSt 0) (lawEnv L fa cd)) Q E s := by
  k_with_none
  revert X
  k_fill
  intro X
  unfold lawEnv
  conv => arg 3; arg 1; whnf
  generalize hsc : lawScope = sc
  conv at hsc => lhs; whnf
  subst hsc
  k_steps
  unfold Stop
  refine' draws_call (w := w) ?qB ?qF ?qX ?qN ?qT ?qk ?qd ?qu l vs ns hl hI hlen ?_
  case qB => exact B
  case qF => exact F
  case qX => exact X
  case qN => exact N
  case qT => exact T
  case qk => exact rfl
  case qd => decide
  case qu => decide
  intro d o r vs' n' ns' u h' tk' F' N' hds hAd hAr hD hI' hle
  simp only [AllLt, and_true] at hAd hAr
  (try dsimp only); (try k_fold)
  k_steps
  rename_i h2 o2' F2 N2 d2
  exact hret d r o vs' n' ns' o2' h2 _ F2 N2 hAr.1 hAd.1 hds ⟨_, hD⟩ hI' hle d2
set_option maxRecDepth 100000 in
set_option maxHeartbeats 8000000 in
theorem law_s1 (B : Below callerA h₀ [] h₀) (F : Fr h₀ L s.heap m) (X : (hdJ.heap_39 w.params).In h₀) (T : Top p loose mean mg mb h₀)
  (d r : Addr) (od : Obj) (vs : List Value) (n : Nat) (ns : List Int) (o1 o2 o3 o4 : Obj) (v2 : Option Value) (hr : @LT.lt Nat _ (L + 1 + 1 + 1 + 1) r) (hdr : @LT.lt Nat _ r d) (hds : (d == sysModules) = false)
  (D : WD w r od 0) (hI : IntsAre vs ns) (hlen : ns.length ≤ 72) (h1 : o1.data = Data.cell (some (.ref d))) (h2 : o2.data = Data.cell v2)
  (N : News h₀ L s.heap ((d, od) :: (r, PySem.W.listOf vs.toArray n) :: (L + 1 + 1 + 1 + 1, o4) :: (L + 1 + 1 + 1, o3) :: (L + 1 + 1, o2) :: (L + 1, o1) :: []))
  (hret : ∀ od' o2' b tb h' tk', Fr h₀ L h' m → News h₀ L h' ((d, od') :: (r, PySem.W.listOf vs.toArray n) :: (L + 1 + 1 + 1 + 1, o4) :: (L + 1 + 1 + 1, o3) :: (L + 1 + 1, o2') :: (L + 1, o1) :: []) → WD w r od' 3 → 1 ≤ b → b ≤ 32 → o2'.data = Data.cell (some (.int b tb)) → Q .next {s with heap := h', toks := tk'}) :
  wpAny (model PySem.Challenge.rw_je0040_01.row.prog w) (callerA.deeper (lawEnv L fa cd)) (exec (lawSt 1) (lawEnv L fa cd)) Q E s := by
  obtain ⟨u0, D⟩ := D
  k_with_none
  revert X
  k_fill
  intro X
  unfold lawEnv
  conv => arg 3; arg 1; whnf
  generalize hsc : lawScope = sc
  conv at hsc => lhs; whnf
  subst hsc
  k_steps
  unfold Stop
  refine' next_call r d od vs n ns u0 0 ?qB ?qF ?qX ?qN ?qT ?qk ?qd ?qu hds ?q1 D 6 _ ?q2 ?q3 hI ?q4 ?q5 ?q6 ?_
  case qB => exact B
  case qF => exact F
  case qX => exact X
  case qN => exact N
  case qT => exact T
  case qk => exact rfl
  case qd => decide
  case qu => decide
  case q1 => exact off_cons (Nat.ne_of_lt hdr) (off_cons (Nat.ne_of_lt (Nat.lt_trans hr hdr)) (off_cons (Nat.ne_of_lt (Nat.lt_of_succ_lt (Nat.lt_trans hr hdr))) (off_cons (Nat.ne_of_lt (Nat.lt_of_succ_lt (Nat.lt_of_succ_lt (Nat.lt_trans hr hdr)))) (off_cons (Nat.ne_of_lt (Nat.lt_of_succ_lt (Nat.lt_of_succ_lt (Nat.lt_of_succ_lt (Nat.lt_trans hr hdr))))) off_nil))))
  case q2 => decide
  case q3 => decide
  case q4 => omega
  case q5 => decide
  case q6 => decide
  intro v1 t1 h3 tk3 od3 u3 hv0 hv1 F3 N3 D3
  (try dsimp only); (try k_fold)
  k_steps
  unfold Stop
  refine' next_call r d od3 vs n ns u3 (0 + 1) ?pB ?pF ?pX ?pN ?pT ?pk ?pd ?pu hds ?p1 D3 32 _ ?p2 ?p3 hI ?p4 ?p5 ?p6 ?_
  case pB => exact B
  case pF => exact F3
  case pX => exact X
  case pN => exact N3
  case pT => exact T
  case pk => exact rfl
  case pd => decide
  case pu => decide
  case p1 => exact off_cons (Nat.ne_of_lt hdr) (off_cons (Nat.ne_of_lt (Nat.lt_trans hr hdr)) (off_cons (Nat.ne_of_lt (Nat.lt_of_succ_lt (Nat.lt_trans hr hdr))) (off_cons (Nat.ne_of_lt (Nat.lt_of_succ_lt (Nat.lt_of_succ_lt (Nat.lt_trans hr hdr)))) (off_cons (Nat.ne_of_lt (Nat.lt_of_succ_lt (Nat.lt_of_succ_lt (Nat.lt_of_succ_lt (Nat.lt_trans hr hdr))))) off_nil))))
  case p2 => decide
  case p3 => decide
  case p4 => omega
  case p5 => decide
  case p6 => decide
  intro v2' t2 h4 tk4 od4 u4 hw0 hw1 F4 N4 D4
  (try dsimp only); (try k_fold)
  k_steps
  rename_i ll hh5 F5 N5 lt5
  have N5' := news_rot N5
  unfold Stop
  refine' next_call r d od4 vs n ns u4 (0 + 1 + 1) ?sB ?sF ?sX ?sN ?sT ?sk ?sd ?su hds ?s1 D4 2 _ ?s2 ?s3 hI ?s4 ?s5 ?s6 ?_
  case sB => exact B
  case sF => exact F5
  case sX => exact X
  case sN => exact N5'
  case sT => exact T
  case sk => exact rfl
  case sd => decide
  case su => decide
  case s1 => k_all
  case s2 => decide
  case s3 => decide
  case s4 => omega
  case s5 => decide
  case s6 => decide
  clear N5 N5'
  intro v3 t3 h6 tk6 od6 u6 hx0 hx1 F6 N6 D6
  (try dsimp only); (try k_fold)
  k_steps
  rename_i h7 o7 F7 N7 d7
  have hb := pick2 hv0 hv1 hw0 hw1 hx0 hx1
  refine hret od6 o7 _ _ h7 _ F7 (cb_drop N7 ?_) ⟨_, D6⟩ hb.1 hb.2 d7
  kcj_all
end Jl
end
section
open PySem PySem.W PyProof.Rows
namespace Jl
variable {w : World} {p : Program} {loose : List Str} {mean : ExcName → Option Value} {mg mb : Str → Option Value} {h₀ : Heap} {L fa : Addr} {cd : Value} {m : Str → Option Value} {s : Shared} {Q : Flow → Shared → Prop} {E : Value → Shared → Prop}
set_option maxRecDepth 100000 in
set_option maxHeartbeats 8000000 in
theorem law_s2 (B : Below callerA h₀ [] h₀) (F : Fr h₀ L s.heap m) (X : (hdJ.heap_39 w.params).In h₀) (T : Top p loose mean mg mb h₀)
  (d r : Addr) (od : Obj) (vs : List Value) (n : Nat) (ns : List Int) (o1 o2 o3 o4 : Obj) (v3 : Option Value) (hr : @LT.lt Nat _ (L + 1 + 1 + 1 + 1) r) (hdr : @LT.lt Nat _ r d) (hds : (d == sysModules) = false)
  (D : WD w r od 3) (hI : IntsAre vs ns) (hlen : ns.length ≤ 72) (h1 : o1.data = Data.cell (some (.ref d))) (h3 : o3.data = Data.cell v3)
  (N : News h₀ L s.heap ((d, od) :: (r, PySem.W.listOf vs.toArray n) :: (L + 1 + 1 + 1 + 1, o4) :: (L + 1 + 1 + 1, o3) :: (L + 1 + 1, o2) :: (L + 1, o1) :: []))
  (hret : ∀ od' o3' px tp h' tk', Fr h₀ L h' m → News h₀ L h' ((d, od') :: (r, PySem.W.listOf vs.toArray n) :: (L + 1 + 1 + 1 + 1, o4) :: (L + 1 + 1 + 1, o3') :: (L + 1 + 1, o2) :: (L + 1, o1) :: []) → WD w r od' 4 → (px = Str.ofString "bin" ∨ px = Str.ofString "" ∨ px = Str.ofString "a-b" ∨ px = Str.ofString "f") → o3'.data = Data.cell (some (.str px tp)) → Q .next {s with heap := h', toks := tk'}) :
  wpAny (model PySem.Challenge.rw_je0040_01.row.prog w) (callerA.deeper (lawEnv L fa cd)) (exec (lawSt 2) (lawEnv L fa cd)) Q E s := by
  obtain ⟨u0, D⟩ := D
  k_with_none
  revert X
  k_fill
  intro X
  unfold lawEnv
  conv => arg 3; arg 1; whnf
  generalize hsc : lawScope = sc
  conv at hsc => lhs; whnf
  subst hsc
  k_steps
  rename_i ll hh5 F5 N5 lt5
  have N5' := news_rot N5
  unfold Stop
  refine' next_call r d od vs n ns u0 3 ?qB ?qF ?qX ?qN ?qT ?qk ?qd ?qu hds ?q1 D 4 _ ?q2 ?q3 hI ?q4 ?q5 ?q6 ?_
  case qB => exact B
  case qF => exact F5
  case qX => exact X
  case qN => exact N5'
  case qT => exact T
  case qk => exact rfl
  case qd => decide
  case qu => decide
  case q1 => k_all
  case q2 => decide
  case q3 => decide
  case q4 => omega
  case q5 => decide
  case q6 => decide
  clear N5 N5'
  intro v1 t1 h3 tk3 od3 u3 hv0 hv1 F3 N3 D3
  (try dsimp only); (try k_fold)
  k_steps
  all_goals
    rename_i h7 o7 F7 N7 d7
    refine hret od3 o7 _ _ h7 _ F7 (cb_drop N7 ?_) ⟨_, D3⟩ ?_ d7
    · kcj_all
    · first | exact .inl rfl | exact .inr (.inl rfl) | exact .inr (.inr (.inl rfl)) | exact .inr (.inr (.inr rfl))
set_option maxRecDepth 100000 in
set_option maxHeartbeats 8000000 in
theorem law_s3 (B : Below callerA h₀ [] h₀) (F : Fr h₀ L s.heap m) (X : (hdJ.heap_39 w.params).In h₀) (T : Top p loose mean mg mb h₀)
  (d r : Addr) (od or : Obj) (o1 o2 o3 o4 : Obj) (v4 : Option Value) (hr : @LT.lt Nat _ (L + 1 + 1 + 1 + 1) r) (hdr : @LT.lt Nat _ r d)
  (b : Int) (tb : Tok) (px : PySem.Str) (tp : Tok) (hb1 : 1 ≤ b) (hb32 : b ≤ 32) (h2 : o2.data = Data.cell (some (.int b tb))) (h3 : o3.data = Data.cell (some (.str px tp))) (h4 : o4.data = Data.cell v4)
  (N : News h₀ L s.heap ((d, od) :: (r, or) :: (L + 1 + 1 + 1 + 1, o4) :: (L + 1 + 1 + 1, o3) :: (L + 1 + 1, o2) :: (L + 1, o1) :: []))
  (hret : ∀ o4' rx rd kid es h' tk', Fr h₀ L h' m → News h₀ L h' ((rx, instObj 139 rd) :: (rd, dictOf es 7) :: (d, od) :: (r, or) :: (L + 1 + 1 + 1 + 1, o4') :: (L + 1 + 1 + 1, o3) :: (L + 1 + 1, o2) :: (L + 1, o1) :: []) → RolesAre w kid b px es → @LT.lt Nat _ d rd → @LT.lt Nat _ rd rx → o4'.data = Data.cell (some (.ref rx)) → Q .next {s with heap := h', toks := tk'}) :
  wpAny (model PySem.Challenge.rw_je0040_01.row.prog w) (callerA.deeper (lawEnv L fa cd)) (exec (lawSt 3) (lawEnv L fa cd)) Q E s := by
  k_with_none
  revert X
  k_fill
  intro X
  unfold lawEnv
  conv => arg 3; arg 1; whnf
  generalize hsc : lawScope = sc
  conv at hsc => lhs; whnf
  subst hsc
  k_steps
  rename_i ll hh5 F5 N5 lt5
  unfold Stop
  refine' make_call ?qB ?qF ?qX ?qT ?qk ?qd ?qu ll _ _ _ _ ?qN b px ?q0 ?q1 ?_
  case qB => exact B
  case qF => exact F5
  case qX => exact X
  case qN => exact N5
  case qT => exact T
  case qk => exact rfl
  case qd => decide
  case qu => decide
  case q0 => omega
  case q1 => omega
  clear N5
  intro x dx es h' tk' F6 N6 R lc1 lc2
  simp only [AllLt, and_true] at lc1
  replace lc2 : @LT.lt Nat _ dx x := lc2
  (try dsimp only); (try k_fold)
  k_steps
  rename_i h7 o7 F7 N7 d7
  refine hret o7 x dx ll es h7 _ F7 (cb_drop N7 ?_) R lc1.2.1 lc2 d7
  kcj_all
set_option maxRecDepth 100000 in
set_option maxHeartbeats 8000000 in
theorem law_s4 (B : Below callerA h₀ [] h₀) (F : Fr h₀ L s.heap m) (X : (hdJ.heap_39 w.params).In h₀) (T : Top p loose mean mg mb h₀)
  (d r rx rd : Addr) (od or ix dx : Obj) (o1 o2 o3 o4 : Obj) (hr : @LT.lt Nat _ (L + 1 + 1 + 1 + 1) r) (hdr : @LT.lt Nat _ r d) (hdx : @LT.lt Nat _ d rd) (hxx : @LT.lt Nat _ rd rx)
  (b : Int) (tb : Tok) (px : PySem.Str) (tp : Tok) (hb1 : 1 ≤ b) (hb32 : b ≤ 32) (h2 : o2.data = Data.cell (some (.int b tb))) (h3 : o3.data = Data.cell (some (.str px tp)))
  (N : News h₀ L s.heap ((rx, ix) :: (rd, dx) :: (d, od) :: (r, or) :: (L + 1 + 1 + 1 + 1, o4) :: (L + 1 + 1 + 1, o3) :: (L + 1 + 1, o2) :: (L + 1, o1) :: []))
  (hret : ∀ fx fd fkid fes h' tk', Fr h₀ L h' (fun y => if y = Str.ofString "finer" then some (.ref fx) else m y) → News h₀ L h' ((fx, instObj 139 fd) :: (fd, dictOf fes 7) :: (rx, ix) :: (rd, dx) :: (d, od) :: (r, or) :: (L + 1 + 1 + 1 + 1, o4) :: (L + 1 + 1 + 1, o3) :: (L + 1 + 1, o2) :: (L + 1, o1) :: []) → RolesAre w fkid (if b + 1 < 32 then b + 1 else 32) px fes → @LT.lt Nat _ rx fd → @LT.lt Nat _ fd fx → Q .next {s with heap := h', toks := tk'}) :
  wpAny (model PySem.Challenge.rw_je0040_01.row.prog w) (callerA.deeper (lawEnv L fa cd)) (exec (lawSt 4) (lawEnv L fa cd)) Q E s := by
  k_with_none
  revert X
  k_fill
  intro X
  unfold lawEnv
  conv => arg 3; arg 1; whnf
  generalize hsc : lawScope = sc
  conv at hsc => lhs; whnf
  subst hsc
  k_steps
  rename_i ll h5' F5' lt5 h5 tk5 F5 N5
  unfold Stop
  refine' make_call ?qB ?qF ?qX ?qT ?qk ?qd ?qu ll _ _ _ _ ?qN (if b + 1 < 32 then b + 1 else 32) px ?q0 ?q1 ?_
  case qB => exact B
  case qF => exact F5
  case qX => exact X
  case qN => exact N5
  case qT => exact T
  case qk => exact rfl
  case qd => decide
  case qu => decide
  case q0 => split <;> omega
  case q1 => split <;> omega
  clear N5
  intro x dx' es h' tk' F6 N6 R lc1 lc2
  simp only [AllLt, and_true] at lc1
  replace lc2 : @LT.lt Nat _ dx' x := lc2
  (try dsimp only); (try k_fold)
  k_steps
  rename_i h7 F7 N7
  refine hret x dx' ll es h7 _ F7 (cb_drop N7 ?_) R lc1.2.1 lc2
  kcj_all
end Jl
end
section
open PySem PySem.W PyProof.Rows
namespace Jl
noncomputable def sufG (n : Int) : Nat → PySem.Str
  | 0 => Str.ofString ""
  | k+1 => Txt.item (Str.ofString "0123456789abcdef") ((n.fdiv (16 ^ k)).fmod 16) ++ sufG n k
noncomputable def sufS (n b : Int) : PySem.Str := sufG n ((b + 3).fdiv 4).toNat
theorem pow16_py {n : Int} (h0 : n < 2000) : ((16 : Int) ^ n.toNat).natAbs.log2 < 9000 := by
  have e : ((16 : Int) ^ n.toNat).natAbs = 2 ^ (4 * n.toNat) := by rw [Int.natAbs_pow, Nat.pow_mul]; rfl
  rw [e, Nat.log2_two_pow]
  omega
theorem suf_step {n k : Int} {pre : List Int} {s : PySem.Str} (h : s = sufG n pre.length ∧ s.length = pre.length) (hk : k = 0 + (pre.length : Int)) (e : (Txt.item (Str.ofString "0123456789abcdef") ((n.fdiv (16 ^ k.toNat)).fmod 16)).length = 1) :
    (Txt.item (Str.ofString "0123456789abcdef") ((n.fdiv (16 ^ k.toNat)).fmod 16) ++ s) = sufG n (pre ++ [k]).length ∧ (Txt.item (Str.ofString "0123456789abcdef") ((n.fdiv (16 ^ k.toNat)).fmod 16) ++ s).length = (pre ++ [k]).length := by
  obtain ⟨h1, h2⟩ := h
  have hn : k.toNat = pre.length := by omega
  rw [PySem.Str.length_append, e, List.length_append, h2, List.length_singleton]
  refine ⟨?_, by omega⟩
  rw [sufG, hn, h1]
theorem suf_end {n b : Int} {s : PySem.Str} (h : s = sufG n (rangeKs 0 ((b + 3).fdiv 4 - 0).toNat).length) : s = sufS n b := by
  rw [h, rangeKs_length, Int.sub_zero]; rfl
variable {w : World} {p : Program} {loose : List Str} {mean : ExcName → Option Value} {mg mb : Str → Option Value} {dp un : Nat} {gd : Option (List Code)} {cn : Str} {cs : Scope} {a : Addr} {ccd : Value} {cl : List (Str × Addr)} {outer : List Env} {A₀ : Around} {base h₀ : Heap} {L : Addr} {m : Str → Option Value} {s : Shared} {Q E : Value → Shared → Prop} {news : List (Addr × Obj)}
set_option maxRecDepth 100000 in
set_option maxHeartbeats 8000000 in
theorem suf_call (B : Below A₀ base outer h₀) (F : Fr h₀ L s.heap m) (X : (hdJ.heap_39 w.params).In h₀) (N : News h₀ L s.heap news) (T : Top p loose mean mg mb h₀) (hk : cs.kind = .function) (hd : dp + 1 < recursionLimit) (hu : un + 8 < cLine)
  (number bits: Int) (t1 t2 : Tok) (h0 : 0 ≤ number) (h1 : number < 1099511627776) (h2: 0 ≤ bits) (h3: bits ≤ 33)
  (hret : ∀ t h' tk', Fr h₀ L h' m → News h₀ L h' news → Q (.str (sufS number bits) t) {s with heap := h', toks := tk'}) :
  wpAny (model PySem.Challenge.rw_je0040_01.row.prog w) (ktrTop dp un gd cn cs L a ccd cl outer) (call (.ref 183) [.int number t1, .int bits t2]) Q E s := by
  have hfd : 0 ≤ (bits + 3).fdiv 4 ∧ (bits + 3).fdiv 4 ≤ 9 := by rw [Int.fdiv_eq_ediv_of_nonneg _ (by decide)]; omega
  k_with_none
  k_with "pyIter ref" => k_state_given ["number"] (fun number pre signs => signs = sufG number pre.length ∧ signs.length = pre.length) "signs"
  k_with "state" => exact ⟨rfl, rfl⟩
  k_with "state" => exact suf_step ⟨by assumption, by assumption⟩ (by assumption) (by assumption)
  k_with "binaryOp FloorDiv int int" => ((with_reducible refine floordiv_int ?kbe ?_ (Or.inl (PyProof.noPylong_of_log2 ?kbp))); (case kbe => exact Int.ne_of_gt (pow_pos_of (by decide) _)); (case kbp => exact pow16_py (by l_bnd)))
  revert X
  k_fill
  intro X
  refine wpAny_call ?_
  k_dflt cell_enter
  k_steps
  refine cb_retS (Q := Q) hret ?e1 ?e2 ?e3
  case e1 => exact suf_end (by assumption)
  case e2 => k_asm
  case e3 => k_asm
end Jl
end
section
open PySem PySem.W PyProof.Rows
set_option maxRecDepth 100000
namespace Jl
theorem item_nat : ∀ n, n < 16 → Txt.item (Str.ofString "0123456789abcdef") ((n : Nat) : Int) = ⟨#[if n < 10 then 48 + n else 87 + n]⟩ ∧ hexD (if n < 10 then 48 + n else 87 + n) = n := by decide +kernel
theorem item_cps (i : Int) (h0 : 0 ≤ i) (h1 : i < 16) : ∃ c : Nat, Txt.item (Str.ofString "0123456789abcdef") i = ⟨#[c]⟩ ∧ IsHex c ∧ ((hexD c : Nat) : Int) = i := by
  obtain ⟨n, rfl⟩ := Int.eq_ofNat_of_zero_le h0
  have hn : n < 16 := Int.ofNat_lt.mp h1
  have h := item_nat n hn
  refine ⟨_, h.1, ?_, congrArg _ h.2⟩
  split
  · exact .inl ⟨Nat.le_add_right _ _, by omega⟩
  · exact .inr ⟨by omega, by omega⟩
theorem fm16 (n : Int) : 0 ≤ n.fmod 16 ∧ n.fmod 16 < 16 := ⟨Int.fmod_nonneg_of_pos _ (by decide), Int.fmod_lt_of_pos _ (by decide)⟩
theorem cps_app (x y : PySem.Str) : (x ++ y).cps.toList = x.cps.toList ++ y.cps.toList := by rw [PySem.Str.cps_append]; simp
theorem item_length (i : Int) (h0 : 0 ≤ i) (h1 : i < 16) : (Txt.item (Str.ofString "0123456789abcdef") i).length = 1 := by
  obtain ⟨c, e, _⟩ := item_cps i h0 h1
  rw [e]; rfl
theorem sufG_length (n : Int) : ∀ k, (sufG n k).length = k
  | 0 => rfl
  | k + 1 => by
    rw [sufG, PySem.Str.length_append, sufG_length n k, item_length _ (fm16 _).1 (fm16 _).2]
    omega
theorem sufG_hex (n : Int) : ∀ k, ∀ c ∈ (sufG n k).cps.toList, IsHex c
  | 0, c, h => by
    have e : (sufG n 0).cps.toList = [] := rfl
    rw [e] at h; cases h
  | k + 1, c, h => by
    rw [sufG, cps_app] at h
    rcases List.mem_append.mp h with h | h
    · obtain ⟨d, e, hd, _⟩ := item_cps ((n.fdiv (16 ^ k)).fmod 16) (fm16 _).1 (fm16 _).2
      rw [e] at h
      have : c = d := by simpa using h
      rw [this]; exact hd
    · exact sufG_hex n k c h
theorem hexV_app (xs ys : List Nat) : hexV (xs ++ ys) = hexV xs * 16 ^ ys.length + hexV ys := by
  have key : ∀ (ys : List Nat) (a : Nat), ys.foldl (fun a c => a * 16 + hexD c) a = a * 16 ^ ys.length + ys.foldl (fun a c => a * 16 + hexD c) 0 := by
    intro ys
    induction ys with
    | nil => intro a; simp
    | cons c r ih =>
      intro a
      rw [List.foldl_cons, List.foldl_cons, ih, ih (0 * 16 + hexD c), List.length_cons, Nat.pow_succ]
      rw [Nat.add_mul, Nat.zero_mul, Nat.zero_add, Nat.mul_assoc, Nat.mul_comm 16]
      omega
  unfold hexV
  rw [List.foldl_append, key]
theorem p16 (k : Nat) : (0 : Int) < 16 ^ k := Int.pow_pos (by decide)
theorem hexV_sufG {n : Int} (h0 : 0 ≤ n) : ∀ k, ((hexV (sufG n k).cps.toList : Nat) : Int) = n % 16 ^ k
  | 0 => by
    have e : (sufG n 0).cps.toList = [] := rfl
    rw [e, Int.pow_zero, Int.emod_one]; rfl
  | k + 1 => by
    obtain ⟨d, e, hd, hv⟩ := item_cps ((n.fdiv (16 ^ k)).fmod 16) (fm16 _).1 (fm16 _).2
    have hl : (sufG n k).cps.toList.length = k := by rw [Array.length_toList]; exact sufG_length n k
    rw [sufG, cps_app, hexV_app, hl, e]
    have e1 : hexV (⟨#[d]⟩ : PySem.Str).cps.toList = hexD d := by show 0 * 16 + hexD d = hexD d; omega
    rw [e1, Int.natCast_add, Int.natCast_mul, hexV_sufG h0 k, hv, Int.fmod_eq_emod_of_nonneg _ (by decide), Int.fdiv_eq_ediv_of_nonneg _ (Int.le_of_lt (p16 k))]
    have e2 : ((16 ^ k : Nat) : Int) = 16 ^ k := by rw [Int.natCast_pow]; rfl
    rw [e2, Int.pow_succ]
    have e3 := Int.emod_add_mul_ediv (n % (16 ^ k * 16)) (16 ^ k)
    have e4 : n % (16 ^ k * 16) % 16 ^ k = n % 16 ^ k := Int.emod_emod_of_dvd n ⟨16, rfl⟩
    have e5 : n % (16 ^ k * 16) / 16 ^ k = n / 16 ^ k % 16 := by
      have a := Int.emod_add_mul_ediv n (16 ^ k * 16)
      have b : n / (16 ^ k * 16) = n / 16 ^ k / 16 := (Int.ediv_ediv_of_nonneg (Int.le_of_lt (p16 k))).symm
      have c : n % (16 ^ k * 16) = n - 16 ^ k * (16 * (n / 16 ^ k / 16)) := by rw [← b, ← Int.mul_assoc]; omega
      rw [c, Int.sub_mul_ediv_left _ _ (Int.ne_of_gt (p16 k))]
      have d2 := Int.emod_add_mul_ediv (n / 16 ^ k) 16
      omega
    rw [e4, e5] at e3
    rw [Int.mul_comm (n / 16 ^ k % 16)]
    omega
theorem hexG_sufG {n l : Int} {L : Nat} (h0 : 0 ≤ n) (hn : n < 16 ^ L) (hl : l ≤ L) (hgo : ∀ j, j < L → 16 ^ j ≤ n ∨ (j : Int) < l) : ∀ (d j k : Nat), j + d = L → d < k → hexG k (n.fdiv (16 ^ j)) (sufG n j) l = sufG n L
  | 0, j, k + 1, hj, _ => by
    have e : j = L := by omega
    subst e
    rw [hexG, if_neg]
    rintro (h | h)
    · rw [Int.fdiv_eq_ediv_of_nonneg _ (Int.le_of_lt (p16 j)), Int.ediv_eq_zero_of_lt h0 hn] at h
      exact absurd h (by decide)
    · rw [sufG_length] at h; omega
  | d + 1, j, k + 1, hj, hk => by
    have hjl : j < L := by omega
    rw [hexG, if_pos]
    · have e : (n.fdiv (16 ^ j)).fdiv 16 = n.fdiv (16 ^ (j + 1)) := by
        rw [Int.fdiv_eq_ediv_of_nonneg _ (Int.le_of_lt (p16 j)), Int.fdiv_eq_ediv_of_nonneg _ (by decide), Int.fdiv_eq_ediv_of_nonneg _ (Int.le_of_lt (p16 (j + 1))), Int.pow_succ, Int.ediv_ediv_of_nonneg (Int.le_of_lt (p16 j))]
      rw [e]
      exact hexG_sufG h0 hn hl hgo d (j + 1) k (by omega) (by omega)
    · rcases hgo j hjl with h | h
      · left
        rw [Int.fdiv_eq_ediv_of_nonneg _ (Int.le_of_lt (p16 j))]
        have := Int.le_ediv_of_mul_le (p16 j) (show 1 * 16 ^ j ≤ n by rw [Int.one_mul]; exact h)
        omega
      · right
        rw [sufG_length]; exact h
  | _, _, 0, _, hk => absurd hk (Nat.not_lt_zero _)
theorem hexS_pad {n : Int} {L : Nat} (h0 : 0 ≤ n) (hn : n < 16 ^ L) (hL : L ≤ 60) : hexS n L = sufG n L := by
  have := hexG_sufG (l := L) h0 hn (Int.le_refl _) (fun j hj => .inr (by omega)) L 0 80 (by omega) (by omega)
  rw [Int.pow_zero, Int.fdiv_one] at this
  exact this
theorem pow_table : ∀ m, m < 33 → 1 ≤ m → 2 ^ m - 1 < 16 ^ ((m + 3) / 4) ∧ ∀ j, j < (m + 3) / 4 → 16 ^ j ≤ 2 ^ m - 1 ∨ j < 1 := by decide +kernel
/-- how many signs the bins' numbers have -/
noncomputable def sufL (b : Int) : Nat := ((b + 3).fdiv 4).toNat
theorem sufS_eq (n b : Int) : sufS n b = sufG n (sufL b) := rfl
theorem sufL_eq {b : Int} (h1 : 1 ≤ b) : sufL b = (b.toNat + 3) / 4 := by
  unfold sufL; rw [Int.fdiv_eq_ediv_of_nonneg _ (by decide)]; omega
theorem pow2_cast (m : Nat) : (2 : Int) ^ m = ((2 ^ m : Nat) : Int) := by rw [Int.natCast_pow]; rfl
theorem pow16_cast (m : Nat) : (16 : Int) ^ m = ((16 ^ m : Nat) : Int) := by rw [Int.natCast_pow]; rfl
theorem bins_lt {b : Int} (h1 : 1 ≤ b) (h32 : b ≤ 32) : (2 : Int) ^ b.toNat - 1 < 16 ^ sufL b := by
  have t := (pow_table b.toNat (by omega) (by omega)).1
  have p := Nat.two_pow_pos b.toNat
  rw [sufL_eq h1, pow2_cast, pow16_cast]
  omega
theorem hexS_one {b : Int} (h1 : 1 ≤ b) (h32 : b ≤ 32) : hexS (2 ^ b.toNat - 1) 1 = sufG (2 ^ b.toNat - 1) (sufL b) := by
  have t := (pow_table b.toNat (by omega) (by omega)).2
  have p := Nat.two_pow_pos b.toNat
  have hL := sufL_eq h1
  have h0 : (0 : Int) ≤ 2 ^ b.toNat - 1 := by rw [pow2_cast]; omega
  have := hexG_sufG (l := 1) h0 (bins_lt h1 h32) (by rw [hL]; omega) (fun j hj => by
    rcases t j (by omega) with h | h
    · left; rw [pow2_cast, pow16_cast]; omega
    · right; omega) (sufL b) 0 80 (by omega) (by omega)
  rw [Int.pow_zero, Int.fdiv_one] at this
  exact this
theorem sufL_len {b : Int} (h1 : 1 ≤ b) (h32 : b ≤ 32) : (hexS (2 ^ b.toNat - 1) 1).length = sufL b := by rw [hexS_one h1 h32, sufG_length]
theorem sufL_small {b : Int} (h1 : 1 ≤ b) (h32 : b ≤ 32) : 1 ≤ sufL b ∧ sufL b ≤ 8 := by rw [sufL_eq h1]; omega
end Jl
end
section
open PySem PySem.W PyProof.Rows
namespace Jl
noncomputable def bodyOfDef : Stmt → List Stmt
  | .FunctionDef _ _ b _ _ _ _ _ _ _ => b
  | _ => []
noncomputable def scopeOfDef : Stmt → Scope
  | .FunctionDef _ _ _ _ _ _ sc _ _ _ => sc
  | _ => default
noncomputable def isDef (n : PySem.Str) : Stmt → Bool
  | .FunctionDef m _ _ _ _ _ _ _ _ _ => m == n
  | _ => false
noncomputable def bodyOfClass (n : PySem.Str) : Stmt → Option (List Stmt)
  | .ClassDef m _ _ b _ _ _ _ _ _ _ => if m == n then some b else none
  | _ => none
noncomputable def bodyOfFor : Stmt → List Stmt
  | .For _ _ b _ _ => b
  | _ => []
noncomputable def genFD : Stmt := ((PySem.Challenge.pw_je0040_01.main.body.findSome? (bodyOfClass (Str.ofString "SuccinctRoles"))).getD []).find? (isDef (Str.ofString "get_roles")) |>.getD (.Pass default)
noncomputable def genScope : Scope := scopeOfDef genFD
noncomputable def genFor : Stmt := (bodyOfDef genFD).headD (.Pass default)
noncomputable def genSt (i : Nat) : Stmt := (bodyOfFor genFor).getD i (.Pass default)
variable {w : World} {p : Program} {loose : List Str} {mean : ExcName → Option Value} {mg mb : Str → Option Value} {dp un : Nat} {gd : Option (List Code)} {cd : Value} {outer : List Env} {A₀ : Around} {base h₀ : Heap} {L : Addr} {u : Str → Option Value} {s : Shared} {E : Value → Shared → Prop} {news : List (Addr × Obj)}
set_option maxRecDepth 100000 in
set_option maxHeartbeats 8000000 in
theorem gen_st0 {Q : Flow → Shared → Prop} (rx rd kid : Addr) (es : List DictEntry) (b : Int) (px : PySem.Str) (R : RolesAre w kid b px es) (B : Below A₀ base outer h₀) (i : Int) (ti : Tok)
  (F : Fr h₀ L s.heap (fun y => if y = Str.ofString "i" then some (.int i ti) else if y = Str.ofString "self" then some (.ref rx) else u y)) (X : (hdJ.heap_39 w.params).In h₀) (N : News h₀ L s.heap ((rx, instObj 139 rd) :: (rd, dictOf es 7) :: news)) (T : Top p loose mean mg mb h₀) (hd : dp + 1 < recursionLimit) (hu : un + 8 < cLine)
  (hi0 : 0 ≤ i) (hi : i < 2 ^ b.toNat) (hb1 : 1 ≤ b) (hb32 : b ≤ 32)
  (hret : ∀ t h' tk', Fr h₀ L h' (fun y => if y = Str.ofString "suffix" then some (.str (sufG i (sufL b)) t) else if y = Str.ofString "i" then some (.int i ti) else if y = Str.ofString "self" then some (.ref rx) else u y) → News h₀ L h' ((rx, instObj 139 rd) :: (rd, dictOf es 7) :: news) → Q .next {s with heap := h', toks := tk'}) :
  wpAny (model PySem.Challenge.rw_je0040_01.row.prog w) (ktrTop dp un gd (Str.ofString "SuccinctRoles.get_roles") genScope L 129 cd [] outer) (exec (genSt 0) (envX (Str.ofString "SuccinctRoles.get_roles") genScope L 129 cd [])) Q E s := by
  obtain ⟨ur, kk, rfl⟩ := R
  have hpw := pow2_bnd b hb32
  have hsl := sufL_len hb1 hb32
  have hs8 := sufL_small hb1 hb32
  have hbl := bins_lt hb1 hb32
  k_with_none
  revert X
  k_fill
  intro X
  conv => arg 3; arg 1; whnf
  generalize hsc : genScope = sc
  conv at hsc => lhs; whnf
  subst hsc
  k_steps
  unfold Stop
  refine' hex_call ?qB ?qF ?qX ?qN ?qT ?qk ?qd ?qu _ _ _ _ ?q0 ?q1 ?q2 ?_
  (case qB => assumption)
  (case qF => k_asm)
  (case qX => assumption)
  (case qN => k_asm)
  (case qT => assumption)
  (case qk => exact rfl)
  (case qd => assumption)
  (case qu => assumption)
  (case q0 => assumption)
  (case q1 => omega)
  (case q2 => omega)
  intro t' h' tk' F' N' hl'
  rw [hsl, hexS_pad hi0 (by omega) (by omega)]
  (try dsimp only); (try k_fold)
  k_steps
  exact hret _ _ _ (by assumption) (by k_asm)
noncomputable def nameV (px : PySem.Str) (b i : Int) : PySem.Str := px ++ Str.ofString "-" ++ sufG i (sufL b)
theorem nameV_is {px : PySem.Str} {b i : Int} : Str.empty ++ px ++ Str.ofString "-" ++ sufG i (sufL b) = nameV px b i := by rw [PySem.Str.empty_append]; rfl
noncomputable def genYieldE : Expr := match genSt 1 with
  | .Expr (.Yield (some e) _) _ => e
  | _ => .Constant .none 0 default
set_option maxRecDepth 100000 in
set_option maxHeartbeats 8000000 in
theorem gen_st1 {Q : Value → Shared → Prop} (rx rd kid : Addr) (es : List DictEntry) (b : Int) (px : PySem.Str) (R : RolesAre w kid b px es) (i : Int) (ti t : Tok)
  (F : Fr h₀ L s.heap (fun y => if y = Str.ofString "suffix" then some (.str (sufG i (sufL b)) t) else if y = Str.ofString "i" then some (.int i ti) else if y = Str.ofString "self" then some (.ref rx) else u y)) (X : (hdJ.heap_39 w.params).In h₀) (N : News h₀ L s.heap ((rx, instObj 139 rd) :: (rd, dictOf es 7) :: news)) (T : Top p loose mean mg mb h₀)
  (hp : px.length ≤ 10) (hb1 : 1 ≤ b) (hb32 : b ≤ 32)
  (hret : ∀ tv h' tk', Fr h₀ L h' (fun y => if y = Str.ofString "suffix" then some (.str (sufG i (sufL b)) t) else if y = Str.ofString "i" then some (.int i ti) else if y = Str.ofString "self" then some (.ref rx) else u y) → News h₀ L h' ((rx, instObj 139 rd) :: (rd, dictOf es 7) :: news) → Q (.str (nameV px b i) tv) {s with heap := h', toks := tk'}) :
  wpAny (model PySem.Challenge.rw_je0040_01.row.prog w) (ktrTop dp un gd (Str.ofString "SuccinctRoles.get_roles") genScope L 129 cd [] outer) (eval genYieldE (envX (Str.ofString "SuccinctRoles.get_roles") genScope L 129 cd [])) Q E s := by
  obtain ⟨ur, kk, rfl⟩ := R
  have hsl := sufG_length i (sufL b)
  have hs8 := sufL_small hb1 hb32
  k_with_none
  revert X
  k_fill
  intro X
  conv => arg 3; arg 1; whnf
  generalize hsc : genScope = sc
  conv at hsc => lhs; whnf
  subst hsc
  k_steps
  refine cb_retS (Q := Q) hret nameV_is ?e2 ?e3
  case e2 => k_asm
  case e3 => k_asm
end Jl
end
section
open PySem PySem.W PySem.Spec PySem.Calls PyProof.Rows
open PyProof.Rows.LCg PyProof.Rows.LCt
namespace Jl
noncomputable def bodyOfIf : Stmt → List Stmt
  | .If _ b _ _ => b
  | _ => []
noncomputable def ifSt (i j : Nat) : Stmt := (bodyOfIf (lawSt i)).getD j (.Pass default)
variable {w : World} {p : Program} {loose : List Str} {mean : ExcName → Option Value} {mg mb : Str → Option Value} {h₀ : Heap} {L fa : Addr} {cd : Value} {m : Str → Option Value} {s : Shared} {Q : Flow → Shared → Prop} {E : Value → Shared → Prop} {news : List (Addr × Obj)}
set_option maxRecDepth 100000 in
set_option maxHeartbeats 8000000 in
theorem law_due (B : Below callerA h₀ [] h₀) (F : Fr h₀ L s.heap m) (X : (hdJ.heap_39 w.params).In h₀) (T : Top p loose mean mg mb h₀)
  (o2 o3 : Obj) (b : Int) (tb : Tok) (px : PySem.Str) (tp : Tok) (hb1 : 1 ≤ b) (hb7 : b < 7) (hp : px.length ≤ 10) (h2 : o2.data = Data.cell (some (.int b tb))) (h3 : o3.data = Data.cell (some (.str px tp)))
  (N : News h₀ L s.heap ((L + 1 + 1 + 1, o3) :: (L + 1 + 1, o2) :: news)) (Nn : Nat) (hN : (Nn : Int) = 2 ^ b.toNat)
  (hret : ∀ D ys h' tk', Fr h₀ L h' (fun y => if y = Str.ofString "due" then some (.ref D) else m y) → News h₀ L h' ((D, lst ys) :: (L + 1 + 1 + 1, o3) :: (L + 1 + 1, o2) :: news) → Off1 D ((L + 1 + 1 + 1, o3) :: (L + 1 + 1, o2) :: news) → ys.length = Nn → (∀ (j : Nat) (v : Value), ys[j]? = some v → ∃ t, v = Value.str (nameV px b (j : Int)) t) → Q .next {s with heap := h', toks := tk'}) :
  wpAny (model PySem.Challenge.rw_je0040_01.row.prog w) (callerA.deeper (lawEnv L fa cd)) (exec (ifSt 6 0) (lawEnv L fa cd)) Q E s := by
  have hpw := pow2_bnd b (by omega)
  have hs8 := sufL_small hb1 (show b ≤ 32 by omega)
  have hN64 : Nn ≤ 64 := by
    have h1 : (2 : Int) ^ b.toNat = ((2 ^ b.toNat : Nat) : Int) := by rw [Int.natCast_pow]; rfl
    have h2 : 2 ^ b.toNat ≤ 2 ^ 6 := Nat.pow_le_pow_right (by decide) (by omega)
    omega
  k_with_none
  revert X
  k_fill
  intro X
  unfold lawEnv
  conv => arg 3; arg 1; whnf
  generalize hsc : lawScope = sc
  conv at hsc => lhs; whnf
  subst hsc
  k_dflt (refine LCg.Assign_ListComp_U (F₀ := F) (by rfl) (by with_unfolding_all rfl) (by with_unfolding_all rfl) (by decide) (by rfl) (by decide) (by rfl) (by rfl) (by rfl) ?_)
  refine wpAny_mono (Q := fun v s' => Stop (∃ h' r t u v' tk', s' = { s with heap := h', toks := tk' } ∧ v = .ref r ∧ IsRange h' r 0 (2 ^ b.toNat) 1 t u v' ∧ Fr h₀ L h' m ∧ News h₀ L h' ((L + 1 + 1 + 1, o3) :: (L + 1 + 1, o2) :: news))) ?_ (fun v s' h => ?_) (fun _ _ x => x)
  · k_steps
    unfold Stop
    exact ⟨_, _, _, _, _, _, rfl, rfl, by assumption, by assumption, by assumption⟩
  obtain ⟨h1, r, t1, t2, t3, tk1, rfl, rfl, hr, F1, N1⟩ := h
  have hsz : Builtin.Range.rangeSize 0 (2 ^ b.toNat) 1 = (Nn : Int) := by
    unfold Builtin.Range.rangeSize
    rw [if_pos (by decide), if_pos (by omega), hN, Int.ediv_one]
    omega
  have hsm : Builtin.Range.small 0 (2 ^ b.toNat) 1 = true := by
    unfold Builtin.Range.small
    rw [hsz, hN]
    generalize (2 : Int) ^ b.toNat = q at hpw
    unfold Builtin.Range.rangeFitsLong
    simp
    omega
  refine CompSrc.range rfl F1 N1 hr hsm hsz (by rw [sizeLine_eq]; omega) fun g => ?_
  refine compRest_inv Nn (fun i ys nx => nx = (L + 1 + 1 + 1, o3) :: (L + 1 + 1, o2) :: news ∧ ys.length = i ∧ ∀ (j : Nat) (v : Value), ys[j]? = some v → ∃ t, v = Value.str (nameV px b (j : Int)) t) ?turn ?fin Nn 0 [] _ (Nat.zero_add _) ⟨rfl, rfl, fun j v e => by simp at e⟩
  case fin =>
    rintro ys nx ⟨rfl, hl, hv⟩ D h' tk' F' N' o1
    exact hret D ys h' tk' F' N' o1 hl hv
  case turn =>
    rintro i ys nx hi ⟨rfl, hl, hv⟩ v I oI C oC D m₂ h tk E' hv' hC hx F2 N2 off ne
    obtain ⟨tv, rfl⟩ := hv'
    have off0 := off
    (try simp only [LCg.Off3] at off)
    k_steps
    unfold Stop
    refine' suf_call ?qB ?qF ?qX ?qN ?qT ?qk ?qd ?qu _ _ _ _ ?q0 ?q1 ?q2 ?q3 ?_
    (case qB => exact B)
    (case qF => k_asm)
    (case qX => exact X)
    (case qN => k_asm)
    (case qT => exact T)
    (case qk => exact rfl)
    (case qd => decide)
    (case qu => decide)
    (case q0 => omega)
    (case q1 => omega)
    (case q2 => omega)
    (case q3 => omega)
    intro t4 h4 tk4 F4 N4
    have hlen : (sufS (0 + (i : Int)) b).length = sufL b := sufG_length _ _
    (try dsimp only); (try k_fold)
    k_steps
    refine ⟨h4, _, _, rfl, F4, N4, off0, trivial, rfl, by simp [hl], ?_⟩
    have e1 : (0 + (i : Int)) = (i : Int) := Int.zero_add _
    rw [e1]
    exact snoc_texts (nm := fun j => nameV px b (j : Int)) hl hv
end Jl
end
section
open PySem PySem.W PySem.Spec PySem.Calls PyProof.Rows
open PySem.Sem (wp)
set_option maxRecDepth 100000
namespace Jl
/-- an iterator that a list is made of: all but the list itself is kept by the maker -/
structure WalksG (prog : Program) (w : World) (A : Around) (I S : Addr) (n : Nat) (P : Nat → Value → Prop) (St : Nat → Shared → Prop) : Prop where
  frame : ∀ i (s : Shared) h' tk, St i s → (∀ b o, b ≠ S → s.heap.get? b = some o → h'.get? b = some o) → (∃ o, h'.get? S = some o) → St i { s with heap := h', toks := tk }
  item : ∀ i (s : Shared) (Q : Option Value → Shared → Prop) (E : Value → Shared → Prop), i < n → St i s →
    (∀ v s', P i v → St (i + 1) s' → (∀ o, s.heap.get? S = some o → s'.heap.get? S = some o) → Q (some v) s') → wpAny (model prog w) A (pyNext (.ref I)) Q E s
  done : ∀ (s : Shared) (Q : Option Value → Shared → Prop) (E : Value → Shared → Prop), St n s → (∀ s', St (n + 1) s' → (∀ o, s.heap.get? S = some o → s'.heap.get? S = some o) → Q none s') → wpAny (model prog w) A (pyNext (.ref I)) Q E s
  self : ∀ i (s : Shared) (Q : Value → Shared → Prop) (E : Value → Shared → Prop), St i s → Q (.ref I) s → wpAny (model prog w) A (pyIter (.ref I)) Q E s
section
variable {prog : Program} {w : World} {A : Around} {R : Result → Shared → Prop} {I S : Addr} {n : Nat} {P : Nat → Value → Prop} {St : Nat → Shared → Prop}
theorem extend_loopG (W : WalksG prog w A.in1 I S n P St) (hn : n ≤ sizeLine) (res : Value) :
    ∀ (k i : Nat) (s : Shared) (acc : Array Value) (c : Nat), n - i = k → i ≤ n → St i s → s.heap.get? S = some { cls := .type "list", dict := none, data := .seq acc c, slots := #[] } → ItemsOf P acc i →
    (∀ s' acc' c', St (n + 1) s' → s'.heap.get? S = some { cls := .type "list", dict := none, data := .seq acc' c', slots := #[] } → ItemsOf P acc' n → R (.ok (.ret res)) s') →
    codeAny (model prog w) A (.builtin "list.extend.loop" ⟨[.ref S, .ref I, res], []⟩) R s := by
  intro k
  induction k with
  | zero =>
    intro i s acc c hk hi hst hS hacc hR
    have hin : i = n := by omega
    subst hin
    refine codeAny_builtin PySem.F.entry_extend_loop ?_
    rw [Around.under_plainId PySem.F.plain_extend_loop _]
    show wpAny _ A.in1 (pyNext (.ref I) >>= _) _ _ s
    refine wpAny_bind (W.done s _ _ hst fun s' hm hk' => ?_)
    exact wpAny_pure (hR s' acc c hm (hk' _ hS) hacc)
  | succ k ih =>
    intro i s acc c hk hi hst hS hacc hR
    have hlt : i < n := by omega
    refine codeAny_builtin PySem.F.entry_extend_loop ?_
    rw [Around.under_plainId PySem.F.plain_extend_loop _]
    show wpAny _ A.in1 (pyNext (.ref I) >>= _) _ _ s
    refine wpAny_bind (W.item i s _ _ hlt hst fun v s' hP hst' hk' => ?_)
    have hS' := hk' _ hS
    show wpAny _ A.in1 (updateSeq S (·.push v) >>= _) _ _ _
    refine wpAny_bind ?_
    refine wpAny_updateSeq hS' rfl (wpAny_pure ⟨plainId_quiet PySem.F.plain_extend_loop _, ih (i + 1) _ (acc.push v) _ (by omega) hlt (W.frame _ s' _ s'.toks hst' (fun b o hb e => ?_) ⟨_, Heap.get?_update_self _ hS' rfl⟩) (Heap.get?_update_self _ hS' rfl) (hacc.push hP) hR⟩)
      (by rw [hacc.1]; omega) (by show (acc.push v).size ≤ sizeLine + 1; rw [Array.size_push, hacc.1]; omega)
    exact (Heap.get?_update_other _ _ (Ne.symm hb)).trans e
end
section
variable {prog : Program} {w : World} {A : Around} {R : Result → Shared → Prop} {E : Value → Shared → Prop} {s : Shared} {I S : Addr} {n : Nat} {P : Nat → Value → Prop} {St : Nat → Shared → Prop}
theorem extend_genG (W : WalksG prog w A.in1 I S n P St) (hT : ∀ i s, St i s → s.TypeIs (.ref I) "generator") (res : Value) (c₀ : Nat) (hst : St 0 s) (hSI : S ≠ I)
    (hS : s.heap.get? S = some { cls := .type "list", data := .seq #[] c₀ })
    (hR : ∀ s' acc' c', St (n + 1) s' → s'.heap.get? S = some { cls := .type "list", dict := none, data := .seq acc' c', slots := #[] } → ItemsOf P acc' n → R (.ok (.ret res)) s') (hn : n ≤ sizeLine) :
    wpAny (model prog w) A.in1 (Builtin.List.listExtendWith (.ref S) (.ref I) res)
      (fun fin s' => match fin with | .done f => R (.ok f) s' | .again c' => c'.quiet = true ∧ codeAny (model prog w) A c' R s') (fun e s' => R (.error e) s') s := by
  unfold Builtin.List.listExtendWith
  refine wpAny_bind (wpAny_typeOf (hT 0 _ hst) ?_)
  have h1 : Builtin.List.listSameRef (.ref S) (.ref I) = false := by simp [Builtin.List.listSameRef, hSI]
  have h2 : (Value.type "generator" == Value.type "list") = false := by decide
  have h3 : (Value.type "generator" == Value.type "tuple") = false := by decide
  simp only [h1, h2, h3, Bool.or_false, Bool.false_eq_true, if_false]
  refine wpAny_bind (W.self 0 _ _ _ hst ?_)
  refine wpAny_bind (wpAny_holding ?_)
  unfold Builtin.List.listLengthHint
  refine wpAny_bind (wpAny_specialOf (hT 0 _ hst) PySem.F.gen_no_len ?_)
  show wpAny _ A.in1 (specialOf (Value.ref I) (Str.ofString "__length_hint__") >>= _) _ _ _
  refine wpAny_bind (wpAny_specialOf (hT 0 _ hst) PySem.F.gen_no_hint ?_)
  refine wpAny_pure ?_
  show wpAny _ A.in1 (rule "list.extend.makes-room" >>= fun _ => Builtin.List.listTouch (.ref S) >>= fun _ =>
    again (.builtin "list.extend.loop" ⟨[.ref S, .ref I, res], []⟩)) _ _ _
  refine wpAny_bind (wpAny_rule ?_)
  refine wpAny_bind ?_
  show wpAny _ A.in1 (updateSeq S (·.push .none) >>= fun _ => updateSeq S (·.pop)) _ _ _
  refine wpAny_bind (wpAny_updateSeq hS rfl ?_)
  have hS₂ := Heap.get?_update_self (Obj.mapSeq (·.push Value.none)) hS rfl
  refine wpAny_updateSeq (hz := by seq_fits) hS₂ rfl ?_
  have hS₃ := Heap.get?_update_self (Obj.mapSeq (·.pop)) hS₂ rfl
  have oth : ∀ b o, b ≠ S → s.heap.get? b = some o → ((s.heap.update S (Obj.mapSeq (·.push Value.none))).update S (Obj.mapSeq (·.pop))).get? b = some o :=
    fun b o hb e => (Heap.get?_update_other _ _ (Ne.symm hb)).trans ((Heap.get?_update_other _ _ (Ne.symm hb)).trans e)
  exact wpAny_pure ⟨plainId_quiet PySem.F.plain_extend_loop _, extend_loopG W hn _ n 0 _ _ _ rfl (Nat.zero_le _)
    (W.frame 0 s _ s.toks hst oth ⟨_, hS₃⟩) hS₃ (ItemsOf.nil P) hR⟩
theorem list_initG (W : WalksG prog w A.in1 I S n P St) (hT : ∀ i s, St i s → s.TypeIs (.ref I) "generator") (hst : St 0 s) (hSI : S ≠ I)
    (hS : s.heap.get? S = some { cls := .type "list", data := .seq #[] })
    (hR : ∀ s' acc' c', St (n + 1) s' → s'.heap.get? S = some { cls := .type "list", dict := none, data := .seq acc' c', slots := #[] } → ItemsOf P acc' n → R (.ok (.ret .none)) s') (hn : n ≤ sizeLine) :
    wpAny (model prog w) A.in1 (Builtin.«list.__init__» ⟨[.ref S, .ref I], []⟩)
      (fun fin s' => match fin with | .done f => R (.ok f) s' | .again c' => c'.quiet = true ∧ codeAny (model prog w) A c' R s') (fun e s' => R (.error e) s') s := by
  show wpAny _ A.in1 (do let old ← Builtin.List.listItems (.ref S); Builtin.List.listUpdate (.ref S) (fun _ => #[]); letGo old.toList.reverse; Builtin.List.listExtendWith (.ref S) (.ref I) .none) _ _ s
  refine wpAny_bind ?_
  unfold Builtin.List.listItems
  refine wpAny_bind (wpAny_seqItems hS rfl (wpAny_pure ?_))
  show wpAny _ A.in1 (updateSeq S (fun _ => #[]) >>= fun _ => letGo (#[] : Array Value).toList.reverse >>= fun _ => Builtin.List.listExtendWith (.ref S) (.ref I) .none) _ _ s
  refine wpAny_bind (wpAny_updateSeq hS rfl ?_)
  have hS₂ := Heap.get?_update_self (Obj.mapSeq (fun _ => (#[] : Array Value))) hS rfl
  have oth : ∀ b o, b ≠ S → s.heap.get? b = some o → (s.heap.update S (Obj.mapSeq (fun _ => (#[] : Array Value)))).get? b = some o :=
    fun b o hb e => (Heap.get?_update_other _ _ (Ne.symm hb)).trans e
  refine wpAny_bind (wpAny_letGo ?_)
  exact extend_genG W hT .none _ (W.frame 0 s _ s.toks hst oth ⟨_, hS₂⟩) hSI hS₂ hR hn
/-- list(g) -/
theorem call_listG {Q : Value → Shared → Prop} (W : WalksG prog w A.in1.in1 I s.heap.objs.size n P St) (hT : ∀ i s, St i s → s.TypeIs (.ref I) "generator")
    (hst : St 0 { s with heap := s.heap.push { cls := .type "list", data := .seq #[] } }) (hI : s.heap.objs.size ≠ I)
    (hQ : ∀ s' acc' c', St (n + 1) s' → s'.heap.get? s.heap.objs.size = some { cls := .type "list", dict := none, data := .seq acc' c', slots := #[] } → ItemsOf P acc' n → Q (.ref s.heap.objs.size) s') (hn : n ≤ sizeLine) :
    wpAny (model prog w) A (call (.type "list") [.ref I]) Q E s := by
  refine callType_codes (Q₁ := fun obj s₁ => obj = .ref s.heap.objs.size ∧ s₁ = { s with heap := s.heap.push { cls := .type "list", data := .seq #[] } }) PySem.F.called_list (PySem.F.typeCall_list_1 _) PySem.F.entry_list_init
    (code_list_new _ ⟨rfl, rfl⟩) fun obj s₁ h₁ => ?_
  obtain ⟨rfl, rfl⟩ := h₁
  have hS : (s.heap.push { cls := .type "list", data := .seq #[] }).get? s.heap.objs.size = some { cls := .type "list", data := .seq #[] } := Heap.get?_push_size _ rfl
  exact ⟨⟨_, hS, rfl⟩, PySem.F.args_list_init_2 _ _, list_initG W hT hst hI hS (fun s' acc' c' hm hS' hacc => ⟨rfl, hQ s' acc' c' hm hS' hacc⟩) hn⟩
/-- next(g), g of a generator function -/
theorem pyNext_genQ {a : Addr} {g n : Nat} {gs : GenState} {P : Nat → Shared → Shared → Prop} {Y : Protocol} {Q : Option Value → Shared → Prop} (hh : A.handled = none)
    (hl : s.heap.NoLimit) (hroom : A.depth < recursionLimit)
    (hg : s.heap.IsGen a g) (hgs : s.gens[g]? = some gs)
    (hgo : gs.Goes (model prog w) A.in1 (fun n s₀ r s₁ => r = .ok (.ret .none) ∧ P n s₀ s₁) Y n (.send .none) (s.setGen g .running))
    (hY : ∀ v s₁ gs', gs'.bare = true → Y (n - 1) (s.setGen g .running) v s₁ (fun r' s'' => match n with
        | 0 => False
        | m + 1 => gs'.Goes (model prog w) A.in1 (fun n s₀ r s₁ => r = .ok (.ret .none) ∧ P n s₀ s₁) Y m r' s'') → Q (some v) (s₁.setGen g gs'))
    (hP : ∀ s₁, P n (s.setGen g .running) s₁ → ∀ h', (∀ b o, s₁.heap.get? b = some o → h'.get? b = some o) → Q none { s₁.setGen g .finished with heap := h' }) :
    wpAny (model prog w) A (pyNext (.ref a)) Q E s := by
  unfold pyNext
  refine wpAny_bind (wpAny_attempt (wpAny_callSpecial?_slot (name := Str.ofString "__next__") hg.typeIs slot_gen_next
    (wpAny_call_entry slot_gen_next hg.typeIs entry_gen_next ?_ (args_gen_next _))))
  show wpAny _ A.in1 (Builtin.Generator.genWake (.ref a) (.send .none)) _ _ s
  unfold Builtin.Generator.genWake
  refine wpAny_bind (wpAny_holding (wpAny_genNumber hg (wpAny_bind (wpAny_genState hgs ?_))))
  cases gs with
  | running => exact hgo.elim
  | finished => exact hgo.elim
  | _ =>
    refine wpAny_bind (wpAny_roomToWake hl hroom ?_)
    show wpAny _ A.in1 (.resume g (.send .none) [] _) _ _ s
    refine wpAny_resumeQ hgs hgo (fun x s₁ hx => ?_) (fun v s₁ gs' hb hv => ?_)
    · obtain ⟨rfl, hp⟩ := hx
      show wpAny _ A.in1 (newExc (.type "StopIteration") [] >>= _) _ _ _
      refine wpAny_bind ?_
      simp only [newExc, newTuple]
      refine wpAny_bind (wpAny_newObj_type ?_ (by size_fits))
      refine wpAny_bind (m := firstArgMember _ _) (wpAny_of_eq (a := Value.none) (by first | rfl | (simp only [firstArgMember]; rfl)) ?_)
      refine wpAny_newObj_type ?_ (by size_fits)
      simp only [raiseNew]
      refine wpAny_bind (wpAny_bind (wpAny_handled ?_))
      first | rw [show A.in1.handled = none from hh] | rw [hh]
      refine wpAny_throw ?_
      refine wpAny_bind (wpAny_isInstance (T := "StopIteration") (b := true) ⟨_, Heap.get?_push_size _ rfl, rfl⟩ isSubtype_stop ?_)
      exact wpAny_pure (hP s₁ hp _ fun b o hb => Heap.get?_push_of_some _ (Heap.get?_push_of_some _ hb))
    · exact wpAny_pure ⟨v, rfl, wpAny_pure (hY v s₁ gs' hb hv)⟩
end
end Jl
end
section
open PySem PySem.W PySem.Spec PySem.Calls PyProof.Rows
open PySem.Sem (wp)
set_option maxRecDepth 100000
namespace Jl
section
variable {M : Model} {A : Around} {R : GenEnd} {Y : Protocol} {n : Nat} {s₀ : Shared} {c : Code} {fs : List Frame} {s : Shared} {env : Env}
  {K : Flow → Sem PySem.Fin} {H : Value → Sem PySem.Fin} {gd : Bool → Bool} {lv : List Value → List Value}
theorem seg_For {target iter : Expr} {body : List Stmt} {pos : Pos}
    (h : wpAny M (A.over c fs) (eval iter env) (fun x s₁ => wpAny M (A.over c fs) (pyIter x) (fun it s₂ => ∀ (kk : Result → Sem PySem.Fin) (p : Pos), (∀ f, kk (.ok f) = K f) →
      Seg M A R Y n s₀ (.forLoop target it body [] env) (M.den (.forLoop target it body [] env)) (.ret kk none (gd false) (lv []) c p [] :: fs) s₂) (fun _ _ => False) s₁) (fun _ _ => False) s)
    (hs : ∀ x, foldedSetIterable iter env x = pure x := by intro _; rfl) :
    Seg M A R Y n s₀ c ((exec (.For target iter body [] pos) env).wrap K H gd lv) fs s := by
  rw [exec_For]
  refine seg_bind_wrap (wpAny_standAt ?_)
  refine seg_bind_wrap (wpAny_mono h (fun x s₁ h₁ => ?_) fun _ _ x => x.elim)
  refine seg_bind_wrap (wpAny_of_eq (hs x) ?_)
  refine seg_bind_wrap (wpAny_standAt ?_)
  refine seg_bind_wrap (wpAny_holding (wpAny_mono h₁ (fun it s₂ h₂ => ?_) fun _ _ x => x.elim))
  exact seg_call (fun p => h₂ _ p (fun f => rfl))
end
section
variable {prog : Program} {w : World} {A : Around} {R : GenEnd} {Y : Protocol} {n : Nat} {s₀ : Shared} {fs : List Frame} {s : Shared} {env : Env}
theorem seg_forLoop {target : Expr} {it : Value} {body : List Stmt}
    (h : wpAny (model prog w) (A.over (.forLoop target it body [] env) fs) (pyNext it) (fun r s' => match r with
      | none => ∀ c', Seg (model prog w) A R Y n s₀ c' (.pure (.done .next)) fs s'
      | some v => wpAny (model prog w) (A.over (.forLoop target it body [] env) fs) (assign target env v) (fun _ s'' => ∀ H : Value → Sem PySem.Fin,
          Seg (model prog w) A R Y n s₀ (.forLoop target it body [] env) ((execs body env).wrap (fun f => match f with
            | .next | .cont => .pure (.again (.forLoop target it body [] env))
            | .brk => .pure (.done .next)
            | .ret v => .pure (.done (.ret v))) H id id) fs s'') (fun _ _ => False) s') (fun _ _ => False) s)
    (ht : ∀ v, letOwnedTupleGo target it v = pure () := by intro _; rfl) :
    Seg (model prog w) A R Y n s₀ (.forLoop target it body [] env) ((model prog w).den (.forLoop target it body [] env)) fs s := by
  show Seg _ A R Y n s₀ _ ((forTurn target it body [] env).onRaise (fun x => do noteFrame x env; theTreesLotGoes x)) fs s
  rw [Sem.onRaise_eq_wrap]
  unfold forTurn
  refine seg_bind_wrap (wpAny_standAt ?_)
  refine seg_bind_wrap (wpAny_onRaise (wpAny_mono h (fun r s' hr => ?_) fun _ _ x => x.elim))
  cases r with
  | none =>
    refine seg_again rfl ?_
    exact hr _
  | some v =>
    refine seg_bind_wrap (wpAny_of_eq (ht v) ?_)
    refine seg_bind_wrap (wpAny_mono hr (fun _ s'' h'' => ?_) fun _ _ x => x.elim)
    rw [Sem.bind_eq_wrap', Sem.wrap_wrap]
    rw [Sem.wrap_congr (execs body env) _ _ (K' := fun f => match f with
            | .next | .cont => .pure (.again (.forLoop target it body [] env))
            | .brk => .pure (.done .next)
            | .ret v => .pure (.done (.ret v))) (fun f => by cases f <;> rfl) (fun e => rfl)]
    exact h'' _
end
end Jl
end
section
open PySem PySem.W PyProof.Rows
namespace Jl
noncomputable def genIterE : Expr := match genFor with
  | .For _ it _ _ _ => it
  | _ => .Constant .none 0 default
variable {w : World} {p : Program} {loose : List Str} {mean : ExcName → Option Value} {mg mb : Str → Option Value} {dp un : Nat} {gd : Option (List Code)} {cd : Value} {outer : List Env} {A₀ : Around} {base h₀ : Heap} {L : Addr} {u : Str → Option Value} {s : Shared} {E : Value → Shared → Prop} {news : List (Addr × Obj)}
set_option maxRecDepth 100000 in
set_option maxHeartbeats 8000000 in
theorem gen_iter {Q : Value → Shared → Prop} (rx rd kid : Addr) (es : List DictEntry) (b : Int) (px : PySem.Str) (R : RolesAre w kid b px es)
  (F : Fr h₀ L s.heap (fun y => if y = Str.ofString "self" then some (.ref rx) else u y)) (X : (hdJ.heap_39 w.params).In h₀) (N : News h₀ L s.heap ((rx, instObj 139 rd) :: (rd, dictOf es 7) :: news)) (T : Top p loose mean mg mb h₀)
  (hb1 : 1 ≤ b) (hb32 : b ≤ 32)
  (hret : ∀ r h' tk' t1 t2 t3, IsRange h' r 0 (2 ^ b.toNat) 1 t1 t2 t3 → Fr h₀ L h' (fun y => if y = Str.ofString "self" then some (.ref rx) else u y) → News h₀ L h' ((rx, instObj 139 rd) :: (rd, dictOf es 7) :: news) → Q (.ref r) {s with heap := h', toks := tk'}) :
  wpAny (model PySem.Challenge.rw_je0040_01.row.prog w) (ktrTop dp un gd (Str.ofString "SuccinctRoles.get_roles") genScope L 129 cd [] outer) (eval genIterE (envX (Str.ofString "SuccinctRoles.get_roles") genScope L 129 cd [])) Q E s := by
  obtain ⟨ur, kk, rfl⟩ := R
  have hpw := pow2_bnd b hb32
  k_with_none
  revert X
  k_fill
  intro X
  conv => arg 3; arg 1; whnf
  generalize hsc : genScope = sc
  conv at hsc => lhs; whnf
  subst hsc
  k_steps
  exact hret _ _ _ _ _ _ (by assumption) (by assumption) (by assumption)
end Jl
end
section
open PySem PySem.W PySem.Calls PyProof.Rows PySem.Spec
open PyProof.Rows.LCg
set_option maxRecDepth 100000
namespace Jl
noncomputable abbrev gnm : PySem.Str := Str.ofString "SuccinctRoles.get_roles"
noncomputable abbrev genEnv0 (C : Addr) (cd : Value) : Env := envX gnm genScope C 129 cd []
noncomputable def genTgt : Expr := match genFor with
  | .For t _ _ _ _ => t
  | _ => .Constant .none 0 default
theorem genTgt_eq : ∃ pp, genTgt = .Name (Str.ofString "i") pp := ⟨_, rfl⟩
theorem genFor_eq : ∃ fp, genFor = .For genTgt genIterE [genSt 0, genSt 1] [] fp := ⟨_, rfl⟩
theorem genBody_eq : bodyOfDef genFD = [genFor] := rfl
theorem genSt1_eq : ∃ yp ep, genSt 1 = .Expr (.Yield (some genYieldE) yp) ep := ⟨_, _, rfl⟩
theorem gen_kind : ∀ C cd, (genEnv0 C cd).kindOf (Str.ofString "i") = some .local := fun _ _ => rfl
theorem gen_fk : genScope.kind = .function := rfl
noncomputable abbrev riO (j N : Nat) : Obj := { cls := .type "range_iterator", data := .fields #[rawInt (0 + (j : Nat) * 1), rawInt ((N : Int) - (j : Nat)), rawInt 1] }
noncomputable def SinceG (g : Heap) (C S ga : Addr) (oa : Obj) (news : List (Addr × Obj)) (s₀ s : Shared) : Prop :=
  ∃ h' tk, s = { s₀ with heap := h', toks := tk } ∧ (∃ m', Fr g C h' m') ∧ (∀ o, s₀.heap.get? S = some o → h'.get? S = some o) ∧ News g C h' ((ga, oa) :: news)
noncomputable def RelG (S : Addr) (s s'' : Shared) : Prop := (∀ b o, b ≠ S → s.heap.get? b = some o → s''.heap.get? b = some o) ∧ ∃ o, s''.heap.get? S = some o
noncomputable def genR (g : Heap) (C S ga : Addr) (oa : Obj) (news : List (Addr × Obj)) : GenEnd := fun n s₀ r s₁ => r = .ok (.ret .none) ∧ (n = 0 ∧ SinceG g C S ga oa news s₀ s₁)
noncomputable def genY (g : Heap) (C S ga : Addr) (oa : Obj) (news : List (Addr × Obj)) (nm : Nat → PySem.Str) (N : Nat) : Protocol := fun m s₀ v s kap =>
  (∃ t, v = .str (nm (N - 1 - m)) t) ∧ SinceG g C S ga oa news s₀ s ∧ ∀ s'', RelG S s s'' → kap (.send .none) s''
variable {w : World} {p : Program} {loose : List Str} {mean : ExcName → Option Value} {mg mb : Str → Option Value} {dp un : Nat} {gd : Option (List Code)} {cd : Value} {env₀ : Env} {A₀ : Around} {base g : Heap} {C S ga : Addr} {oa : Obj} {news : List (Addr × Obj)}
noncomputable abbrev genA (dp un : Nat) (gd : Option (List Code)) (env₀ : Env) : Around := { handled := none, depth := dp, frames := some [env₀], guards := gd, units := un }
theorem gen_over (kk : Result → Sem PySem.Fin) (p0 : Pos) (I : Addr) : (genA dp un gd env₀).over (.forLoop genTgt (.ref I) [genSt 0, genSt 1] [] (genEnv0 C cd)) [.ret kk none false [] (.func (bodyOfDef genFD) (genEnv0 C cd)) p0 []] =
   ktrTop (dp + 1) (un + 3) gd gnm genScope C 129 cd [] [env₀] := rfl
theorem gen_over0 : (genA dp un gd env₀).over (.func (bodyOfDef genFD) (genEnv0 C cd)) [] = ktrTop (dp + 1) (un + 3) gd gnm genScope C 129 cd [] [env₀] := rfl
/-- the state of the generator between two turns -/
noncomputable def GI (g : Heap) (C S ga : Addr) (oa : Obj) (rx rd : Addr) (es : List DictEntry) (N : Nat) (news : List (Addr × Obj)) (I : Addr) (j : Nat) (s : Shared) : Prop :=
  ∃ (u : PySem.Str → Option Value) (oS : Obj), Fr g C s.heap (fun y => if y = Str.ofString "self" then some (.ref rx) else u y) ∧
    News g C s.heap ((rx, instObj 139 rd) :: (rd, dictOf es 7) :: (I, riO j N) :: (S, oS) :: (ga, oa) :: news)
theorem gi_rel {rx rd : Addr} {es : List DictEntry} {N : Nat} {I : Addr} {j : Nat} {s s'' : Shared} (G : GI g C S ga oa rx rd es N news I j s) (h : RelG S s s'') (hgS : g.get? S = none) (hCS : C ≠ S)
    (hne : rx ≠ S ∧ rd ≠ S ∧ I ≠ S ∧ ga ≠ S ∧ ∀ q ∈ news, q.1 ≠ S) : GI g C S ga oa rx rd es N news I j s'' := by
  obtain ⟨u, oS, F, N'⟩ := G
  obtain ⟨hk, oS', hS⟩ := h
  refine ⟨u, oS', ⟨F.ns.at' fun o e => hk _ o hCS e, fun b o e => hk _ o (fun q => by rw [q, hgS] at e; cases e) (F.keep b o e), F.above⟩, fun q hq => ?_⟩
  have key : ∀ q, q ∈ (rx, instObj 139 rd) :: (rd, dictOf es 7) :: (I, riO j N) :: (S, oS) :: (ga, oa) :: news → q.1 ≠ S → s''.heap.get? q.1 = some q.2 ∧ q.1 ≠ C ∧ g.get? q.1 = none := fun q hq hn => ⟨hk _ _ hn (N' q hq).1, (N' q hq).2⟩
  rcases List.mem_cons.mp hq with rfl | hq
  · exact key _ (.head _) hne.1
  rcases List.mem_cons.mp hq with rfl | hq
  · exact key _ (.tail _ (.head _)) hne.2.1
  rcases List.mem_cons.mp hq with rfl | hq
  · exact key _ (.tail _ (.tail _ (.head _))) hne.2.2.1
  rcases List.mem_cons.mp hq with rfl | hq
  · exact ⟨hS, Ne.symm hCS, hgS⟩
  rcases List.mem_cons.mp hq with rfl | hq
  · exact key _ (.tail _ (.tail _ (.tail _ (.tail _ (.head _))))) hne.2.2.2.1
  · exact key _ (.tail _ (.tail _ (.tail _ (.tail _ (.tail _ hq))))) (hne.2.2.2.2 _ hq)
theorem since_of {m' : PySem.Str → Option Value} {rx rd : Addr} {es : List DictEntry} {I : Addr} {oI oS : Obj} {s₀ s : Shared} {h' : Heap} {tk : Nat} (hs : ∀ o, s₀.heap.get? S = some o → o = oS) (F : Fr g C h' m')
    (N : News g C h' ((rx, instObj 139 rd) :: (rd, dictOf es 7) :: (I, oI) :: (S, oS) :: (ga, oa) :: news)) (e : s = { s₀ with heap := h', toks := tk }) : SinceG g C S ga oa ((rx, instObj 139 rd) :: (rd, dictOf es 7) :: news) s₀ s := by
  refine ⟨h', tk, e, ⟨m', F⟩, fun o ho => ?_, fun q hq => ?_⟩
  · rw [hs o ho]; exact (N (S, oS) (.tail _ (.tail _ (.tail _ (.head _))))).1
  · rcases List.mem_cons.mp hq with rfl | hq
    · exact N _ (.tail _ (.tail _ (.tail _ (.tail _ (.head _)))))
    rcases List.mem_cons.mp hq with rfl | hq
    · exact N _ (.head _)
    rcases List.mem_cons.mp hq with rfl | hq
    · exact N _ (.tail _ (.head _))
    · exact N _ (.tail _ (.tail _ (.tail _ (.tail _ (.tail _ hq)))))
theorem gen_seg (rx rd kid : Addr) (es : List DictEntry) (b : Int) (px : PySem.Str) (R : RolesAre w kid b px es) (B : Below A₀ base [env₀] g) (X : (hdJ.heap_39 w.params).In g) (T : Top p loose mean mg mb g)
    (hd : dp + 2 < recursionLimit) (hu : un + 11 < cLine) (hp : px.length ≤ 10) (hb1 : 1 ≤ b) (hb32 : b ≤ 32) (N : Nat) (hN : (N : Int) = 2 ^ b.toNat)
    (hgS : g.get? S = none) (hCS : C ≠ S) (hneS : rx ≠ S ∧ rd ≠ S ∧ ga ≠ S ∧ ∀ q ∈ news, q.1 ≠ S) :
    ∀ (k j : Nat) (s₀ s : Shared) (I : Addr) (kk : Result → Sem PySem.Fin) (p0 : Pos), kk (.ok .next) = .pure (.done (.ret .none)) → N - j = k → j ≤ N →
      (rx ≠ I ∧ rd ≠ I ∧ S ≠ I ∧ ga ≠ I ∧ ∀ q ∈ news, q.1 ≠ I) → GI g C S ga oa rx rd es N news I j s → (∃ h' tk, s = { s₀ with heap := h', toks := tk } ∧ (∀ o, s₀.heap.get? S = some o → h'.get? S = some o)) →
      Seg (model PySem.Challenge.rw_je0040_01.row.prog w) (genA dp un gd env₀) (genR g C S ga oa ((rx, instObj 139 rd) :: (rd, dictOf es 7) :: news)) (genY g C S ga oa ((rx, instObj 139 rd) :: (rd, dictOf es 7) :: news) (fun i => nameV px b (i : Int)) N) k s₀
        (.forLoop genTgt (.ref I) [genSt 0, genSt 1] [] (genEnv0 C cd)) ((model PySem.Challenge.rw_je0040_01.row.prog w).den (.forLoop genTgt (.ref I) [genSt 0, genSt 1] [] (genEnv0 C cd))) [.ret kk none false [] (.func (bodyOfDef genFD) (genEnv0 C cd)) p0 []] s := by
  intro k
  induction k with
  | zero =>
    intro j s₀ s I kk p0 hkk hk hj hI G hs
    obtain rfl : j = N := by omega
    obtain ⟨u, oS, F, NN⟩ := G
    obtain ⟨h0, tk0, rfl, hS0⟩ := hs
    have hoS : ∀ o, s₀.heap.get? S = some o → o = oS := fun o ho => by
      have a1 := hS0 o ho
      have a2 := (NN (S, oS) (.tail _ (.tail _ (.tail _ (.head _))))).1
      exact Option.some.inj (a1.symm.trans a2)
    have hst : IsRangeIter h0 I (0 + (j : Nat) * 1) ((j : Int) - (j : Nat)) 1 := (NN (I, riO j j) (.tail _ (.tail _ (.head _)))).1
    refine seg_forLoop ?_
    refine (range_walks (I := I) rfl 0 j).done _ _ _ hst fun h1 tk1 hk1 => ?_
    have hCI : C ≠ I := Ne.symm (NN (I, riO j j) (.tail _ (.tail _ (.head _)))).2.1
    have hgI : g.get? I = none := (NN (I, riO j j) (.tail _ (.tail _ (.head _)))).2.2
    have F1 := fr_but F hk1 hCI hgI
    have N1 : News g C h1 ((S, oS) :: (ga, oa) :: (rx, instObj 139 rd) :: (rd, dictOf es 7) :: news) := by
      refine news_but (I := I) (h := h0) (fun q hq => ?_) hk1 fun q hq => ?_
      · refine NN q ?_
        simp only [List.mem_cons] at hq ⊢
        rcases hq with h | h | h | h | h <;> simp [h]
      · rcases List.mem_cons.mp hq with rfl | hq
        · exact hI.2.2.1
        rcases List.mem_cons.mp hq with rfl | hq
        · exact hI.2.2.2.1
        rcases List.mem_cons.mp hq with rfl | hq
        · exact hI.1
        rcases List.mem_cons.mp hq with rfl | hq
        · exact hI.2.1
        · exact hI.2.2.2.2 _ hq
    intro c'
    refine seg_leaf (.ok .next) ?_
    rw [hkk]
    refine seg_end (.ok (.ret .none)) ⟨rfl, rfl, h1, tk1, rfl, ⟨_, F1⟩, fun o ho => ?_, fun q hq => N1 q (.tail _ hq)⟩
    rw [hoS o ho]; exact (N1 (S, oS) (.head _)).1
  | succ k ih =>
    intro j s₀ s I kk p0 hkk hk hj hI G hs
    have hlt : j < N := by omega
    obtain ⟨u, oS, F, NN⟩ := G
    obtain ⟨h0, tk0, rfl, hS0⟩ := hs
    have hoS : ∀ o, s₀.heap.get? S = some o → o = oS := fun o ho => by
      have a1 := hS0 o ho
      have a2 := (NN (S, oS) (.tail _ (.tail _ (.tail _ (.head _))))).1
      exact Option.some.inj (a1.symm.trans a2)
    have hst : IsRangeIter h0 I (0 + (j : Nat) * 1) ((N : Int) - (j : Nat)) 1 := (NN (I, riO j N) (.tail _ (.tail _ (.head _)))).1
    have hCI : C ≠ I := Ne.symm (NN (I, riO j N) (.tail _ (.tail _ (.head _)))).2.1
    have hgI : g.get? I = none := (NN (I, riO j N) (.tail _ (.tail _ (.head _)))).2.2
    refine seg_forLoop ?_
    refine (range_walks (I := I) rfl 0 N).item j _ _ _ hlt hst fun v h1 tk1 hPv hst1 hk1 => ?_
    obtain ⟨tv, rfl⟩ := hPv
    have F1 := fr_but F hk1 hCI hgI
    have N1 : News g C h1 ((rx, instObj 139 rd) :: (rd, dictOf es 7) :: (I, riO (j + 1) N) :: (S, oS) :: (ga, oa) :: news) := fun q hq => by
      have key : ∀ q, q ∈ (rx, instObj 139 rd) :: (rd, dictOf es 7) :: (I, riO j N) :: (S, oS) :: (ga, oa) :: news → q.1 ≠ I → h1.get? q.1 = some q.2 ∧ q.1 ≠ C ∧ g.get? q.1 = none :=
        fun q hq hn => ⟨hk1 _ _ (by simpa using hn) (NN q hq).1, (NN q hq).2⟩
      rcases List.mem_cons.mp hq with rfl | hq
      · exact key _ (.head _) hI.1
      rcases List.mem_cons.mp hq with rfl | hq
      · exact key _ (.tail _ (.head _)) hI.2.1
      rcases List.mem_cons.mp hq with rfl | hq
      · exact ⟨hst1, Ne.symm hCI, hgI⟩
      rcases List.mem_cons.mp hq with rfl | hq
      · exact key _ (.tail _ (.tail _ (.tail _ (.head _)))) hI.2.2.1
      rcases List.mem_cons.mp hq with rfl | hq
      · exact key _ (.tail _ (.tail _ (.tail _ (.tail _ (.head _))))) hI.2.2.2.1
      · exact key _ (.tail _ (.tail _ (.tail _ (.tail _ (.tail _ hq))))) (hI.2.2.2.2 _ hq)
    obtain ⟨pp, ht⟩ := genTgt_eq
    rw [ht]
    refine wpAny_assign_Name (wpAny_storeName_local (gen_kind C cd) F1.ns (fun h2 hn2 hs2 => ?_) rfl)
    have hC0 : g.get? C = none := Heap.get?_none_of_le F1.above
    have F2 : Fr g C h2 _ := ⟨hn2, fun b o e => hs2.extBut b o (fun q => by rw [q, hC0] at e; cases e) (F1.keep b o e), F1.above⟩
    have N2 : News g C h2 ((rx, instObj 139 rd) :: (rd, dictOf es 7) :: (I, riO (j + 1) N) :: (S, oS) :: (ga, oa) :: news) := fun q hq => ⟨hs2.extBut _ _ (N1 q hq).2.1 (N1 q hq).1, (N1 q hq).2⟩
    intro H
    refine seg_execs_cons ?_
    refine seg_wrap ?_
    rw [← ht, gen_over]
    have ej : (0 + (j : Nat) : Int) = ((j : Nat) : Int) := by omega
    rw [ej] at F2
    refine gen_st0 rx rd kid es b px R B ((j : Nat) : Int) tv F2 X N2 T hd (by omega) (by omega) (by rw [← hN]; omega) hb1 hb32 fun ts h3 tk3 F3 N3 => ?_
    dsimp only
    refine seg_execs_cons ?_
    obtain ⟨yp, ep, hst1e⟩ := genSt1_eq
    rw [hst1e]
    refine seg_Expr_Yield rfl rfl rfl ?_
    rw [← hst1e, gen_over]
    refine gen_st1 rx rd kid es b px R ((j : Nat) : Int) tv ts F3 X N3 T hp hb1 hb32 fun tw h4 tk4 F4 N4 kap hkap => ?_
    have hrel : N - 1 - k = j := by omega
    refine ⟨⟨tw, by rw [hrel]⟩, since_of hoS F4 N4 rfl, fun s'' hrl => hkap .none s'' ?_⟩
    dsimp only
    refine seg_execs_nil ?_
    dsimp only
    refine seg_again rfl ?_
    have G4 : GI g C S ga oa rx rd es N news I (j + 1) { s₀ with heap := h4, toks := tk4 } :=
      ⟨fun y => if y = Str.ofString "suffix" then some (.str (sufG (j : Nat) (sufL b)) ts) else if y = Str.ofString "i" then some (.int (j : Nat) tv) else u y, oS, by
        refine (show (fun y => _) = (fun y => _) from ?_) ▸ F4
        funext y
        by_cases h : y = Str.ofString "self"
        · subst h; rfl
        · simp only [h, if_false], N4⟩
    exact ih (j + 1) s'' s'' I kk p0 hkk (by omega) hlt hI (gi_rel G4 hrl hgS hCS ⟨hneS.1, hneS.2.1, Ne.symm hI.2.2.1, hneS.2.2⟩) ⟨s''.heap, s''.toks, rfl, fun o ho => ho⟩
end Jl
end
section
open PySem PySem.W PySem.Calls PyProof.Rows PySem.Spec
open PyProof.Rows.LCg
set_option maxRecDepth 100000
namespace Jl
variable {w : World} {p : Program} {loose : List Str} {mean : ExcName → Option Value} {mg mb : Str → Option Value} {dp un : Nat} {gd : Option (List Code)} {cd : Value} {env₀ : Env} {A₀ : Around} {base g : Heap} {C S ga : Addr} {oa : Obj} {news : List (Addr × Obj)}
theorem gen_start (rx rd kid : Addr) (es : List DictEntry) (b : Int) (px : PySem.Str) (R : RolesAre w kid b px es) (B : Below A₀ base [env₀] g) (X : (hdJ.heap_39 w.params).In g) (T : Top p loose mean mg mb g)
    (hd : dp + 2 < recursionLimit) (hu : un + 11 < cLine) (hp : px.length ≤ 10) (hb1 : 1 ≤ b) (hb32 : b ≤ 32) (N : Nat) (hN : (N : Int) = 2 ^ b.toNat)
    (hgS : g.get? S = none) (hCS : C ≠ S) (hneS : rx ≠ S ∧ rd ≠ S ∧ ga ≠ S ∧ ∀ q ∈ news, q.1 ≠ S) (s : Shared) (oS : Obj) (u : PySem.Str → Option Value)
    (F : Fr g C s.heap (fun y => if y = Str.ofString "self" then some (.ref rx) else u y)) (NN : News g C s.heap ((rx, instObj 139 rd) :: (rd, dictOf es 7) :: (S, oS) :: (ga, oa) :: news)) :
    Seg (model PySem.Challenge.rw_je0040_01.row.prog w) (genA dp un gd env₀) (genR g C S ga oa ((rx, instObj 139 rd) :: (rd, dictOf es 7) :: news)) (genY g C S ga oa ((rx, instObj 139 rd) :: (rd, dictOf es 7) :: news) (fun i => nameV px b (i : Int)) N) N s
        (.func (bodyOfDef genFD) (genEnv0 C cd)) ((model PySem.Challenge.rw_je0040_01.row.prog w).den (.func (bodyOfDef genFD) (genEnv0 C cd))) [] s := by
  refine seg_func ?_
  have e1 : bodyOfDef genFD = [genFor] := rfl
  obtain ⟨fp, e2⟩ := genFor_eq
  have e3 := gen_over0 (dp := dp) (un := un) (gd := gd) (C := C) (cd := cd) (env₀ := env₀)
  rw [show execs (bodyOfDef genFD) (genEnv0 C cd) = execs [.For genTgt genIterE [genSt 0, genSt 1] [] fp] (genEnv0 C cd) by rw [e1, e2]]
  refine seg_execs_cons ?_
  refine seg_For ?_
  rw [e3]
  refine gen_iter rx rd kid es b px R F X NN T hb1 hb32 fun r h1 tk1 t1 t2 t3 hr F1 N1 => ?_
  have hpw := pow2_bnd b hb32
  have hsz : Builtin.Range.rangeSize 0 (2 ^ b.toNat) 1 = (N : Int) := by
    unfold Builtin.Range.rangeSize
    rw [if_pos (by decide), if_pos (by omega), hN, Int.ediv_one]
    omega
  have hsm : Builtin.Range.small 0 (2 ^ b.toNat) 1 = true := by
    unfold Builtin.Range.small
    rw [hsz, hN]
    generalize (2 : Int) ^ b.toNat = q at hpw
    unfold Builtin.Range.rangeFitsLong
    simp
    omega
  refine wpAny_pyIter_range hr hsm ?_
  intro kk p0 hkk
  have up : ∀ b' o, h1.get? b' = some o → (h1.push { cls := .type "range_iterator", data := .fields #[rawInt 0, rawInt (Builtin.Range.rangeSize 0 (2 ^ b.toNat) 1), rawInt 1] }).get? b' = some o := fun b' o e => Heap.get?_push_of_some _ e
  have lt : ∀ q ∈ (rx, instObj 139 rd) :: (rd, dictOf es 7) :: (S, oS) :: (ga, oa) :: news, q.1 ≠ h1.objs.size := fun q hq => Nat.ne_of_lt (Heap.lt_size (N1 q hq).1)
  have hI : rx ≠ h1.objs.size ∧ rd ≠ h1.objs.size ∧ S ≠ h1.objs.size ∧ ga ≠ h1.objs.size ∧ ∀ q ∈ news, q.1 ≠ h1.objs.size :=
    ⟨lt _ (.head _), lt _ (.tail _ (.head _)), lt _ (.tail _ (.tail _ (.head _))), lt _ (.tail _ (.tail _ (.tail _ (.head _)))), fun q hq => lt q (.tail _ (.tail _ (.tail _ (.tail _ hq))))⟩
  refine gen_seg rx rd kid es b px R B X T hd hu hp hb1 hb32 N hN hgS hCS hneS N 0 s _ h1.objs.size kk p0 (by rw [hkk]; rfl) (Nat.sub_zero _) (Nat.zero_le _) hI ⟨u, oS, F1.keeps up, fun q hq => ?_⟩ ⟨_, _, rfl, fun o ho => ?_⟩
  · rcases List.mem_cons.mp hq with rfl | hq
    · exact ⟨up _ _ (N1 _ (.head _)).1, (N1 _ (.head _)).2⟩
    rcases List.mem_cons.mp hq with rfl | hq
    · exact ⟨up _ _ (N1 _ (.tail _ (.head _))).1, (N1 _ (.tail _ (.head _))).2⟩
    rcases List.mem_cons.mp hq with rfl | hq
    · refine ⟨?_, Nat.ne_of_gt F1.ns.lt, (by cases q : g.get? h1.objs.size with | none => rfl | some o => exact absurd (Heap.lt_size (F1.keep _ _ q)) (Nat.lt_irrefl _))⟩
      rw [hsz]
      exact (Heap.get?_push_size h1 rfl)
    · exact ⟨up _ _ (N1 _ (.tail _ (.tail _ hq))).1, (N1 _ (.tail _ (.tail _ hq))).2⟩
  · refine up _ _ ?_
    have a1 := (NN (S, oS) (.tail _ (.tail _ (.head _)))).1
    have a2 := (N1 (S, oS) (.tail _ (.tail _ (.head _)))).1
    rw [ho] at a1
    rw [Option.some.inj a1]; exact a2
end Jl
end
section
open PySem PySem.W PySem.Calls PyProof.Rows PySem.Spec
open PyProof.Rows.LCg
set_option maxRecDepth 100000
namespace Jl
theorem bare_setGen {s : Shared} {g : Nat} {gs x : GenState} (h : ∀ y ∈ s.gens, y.bare = true) (hg : s.gens[g]? = some gs) (hx : x.bare = true) : ∀ y ∈ (s.setGen g x).gens, y.bare = true :=
  (GenOnlyQ.of (GenOnly.setGen s g x) (setGen_self hg) hx).bare h
variable {w : World} {p : Program} {loose : List Str} {mean : ExcName → Option Value} {mg mb : Str → Option Value} {dp un : Nat} {gd : Option (List Code)} {cd : Value} {env₀ : Env} {A₀ : Around} {base g : Heap} {C S ga : Addr} {oa : Obj} {news : List (Addr × Obj)}
noncomputable def GSt (w : World) (dp un : Nat) (gd : Option (List Code)) (env₀ : Env) (g : Heap) (C S ga : Addr) (oa : Obj) (news : List (Addr × Obj)) (gi : Nat) (dr : Drawn) (os : OsState) (nm : Nat → PySem.Str) (N j : Nat) (s' : Shared) : Prop :=
  s'.heap.IsGen ga gi ∧ (∀ y ∈ s'.gens, y.bare = true) ∧ s'.drawn = dr ∧ s'.os = os ∧ (∃ m', Fr g C s'.heap m') ∧ News g C s'.heap ((ga, oa) :: news) ∧ (∃ oS, s'.heap.get? S = some oS) ∧
    (j ≤ N → ∃ gs, s'.gens[gi]? = some gs ∧ ∀ s'', RelG S s' s'' → gs.Goes (model PySem.Challenge.rw_je0040_01.row.prog w) (genA dp un gd env₀) (genR g C S ga oa news) (genY g C S ga oa news nm N) (N - j) (.send .none) s'')
theorem gst_frame {nm : Nat → PySem.Str} {N gi : Nat} {dr : Drawn} {os : OsState} (hgS : g.get? S = none) (hCS : C ≠ S) (hga : ga ≠ S) (hne : ∀ q ∈ news, q.1 ≠ S) {j : Nat} {s : Shared} {h' : Heap} {tk : Nat} (st : GSt w dp un gd env₀ g C S ga oa news gi dr os nm N j s)
    (hk : ∀ b o, b ≠ S → s.heap.get? b = some o → h'.get? b = some o) (hS : ∃ o, h'.get? S = some o) : GSt w dp un gd env₀ g C S ga oa news gi dr os nm N j { s with heap := h', toks := tk } := by
  obtain ⟨h1, h2, h3, h4, ⟨m', F⟩, NN, _, h7⟩ := st
  refine ⟨?_, h2, h3, h4, ⟨m', F.ns.at' fun o e => hk _ o hCS e, fun b o e => hk _ o (fun q => by rw [q, hgS] at e; cases e) (F.keep b o e), F.above⟩, fun q hq => ?_, hS, fun hj => ?_⟩
  · obtain ⟨o, nm, qn, ho, r⟩ := h1
    exact ⟨o, nm, qn, hk _ _ hga ho, r⟩
  · refine ⟨hk _ _ ?_ (NN q hq).1, (NN q hq).2⟩
    rcases List.mem_cons.mp hq with rfl | hq
    · exact hga
    · exact hne q hq
  · obtain ⟨gs, hgs, hgo⟩ := h7 hj
    exact ⟨gs, hgs, fun s'' hr => hgo s'' ⟨fun b o hb e => hr.1 b o hb (hk b o hb e), hr.2⟩⟩
theorem gst_walks {nm : Nat → PySem.Str} {N gi : Nat} {dr : Drawn} {os : OsState} (T : Top p loose mean mg mb g) (hd : dp < recursionLimit) (hgS : g.get? S = none) (hCS : C ≠ S) (hga : ga ≠ S) (hne : ∀ q ∈ news, q.1 ≠ S) :
    WalksG PySem.Challenge.rw_je0040_01.row.prog w (genA dp un gd env₀) ga S N (fun i v => ∃ t, v = .str (nm i) t) (GSt w dp (un + 1) gd env₀ g C S ga oa news gi dr os nm N) where
  frame := fun i s h' tk st hk hS => gst_frame hgS hCS hga hne st hk hS
  self := fun i s Q E st hq => wpAny_pyIter_gen st.1 hq
  item := fun j s Q E hj st hQ => by
    obtain ⟨h1, h2, h3, h4, ⟨m', F⟩, NN, ⟨oS, hS⟩, h7⟩ := st
    obtain ⟨gs, hgs, hgo⟩ := h7 (Nat.le_of_lt hj)
    obtain ⟨k, hk⟩ : ∃ k, N - j = k + 1 := ⟨N - j - 1, by omega⟩
    rw [hk] at hgo
    have hl : s.heap.NoLimit := T.nolimit.keeps F.keep
    refine pyNext_genQ (P := fun n s₀ s₁ => n = 0 ∧ SinceG g C S ga oa news s₀ s₁) rfl hl hd h1 hgs (hgo _ ⟨fun _ _ _ e => e, oS, hS⟩) (fun v s₁ gs' hb hv => ?_) (fun s₁ hp h' hk' => ?_)
    · obtain ⟨⟨t, hv⟩, ⟨h', tk, rfl, ⟨m1, F1⟩, hS1, N1⟩, hkap⟩ := hv
      have hidx : N - 1 - (k + 1 - 1) = j := by omega
      rw [hidx] at hv
      have hS1' := hS1 oS hS
      refine hQ v _ ⟨t, hv⟩ ⟨?_, bare_setGen (gs := .running) (bare_setGen h2 hgs rfl) (setGen_self hgs) hb, h3, h4, ⟨m1, F1⟩, N1, ⟨oS, hS1'⟩, fun hj' => ⟨gs', setGen_self (gs := .running) (setGen_self hgs), fun s'' hr => ?_⟩⟩ fun o ho => ?_
      · have hga1 := (N1 (ga, oa) (.head _)).1
        have hga0 := (NN (ga, oa) (.head _)).1
        obtain ⟨o, nm, qn, ho, r⟩ := h1
        rw [hga0] at ho
        cases ho
        exact ⟨oa, nm, qn, hga1, r⟩
      · have e : N - (j + 1) = k := by omega
        rw [e]
        exact hkap s'' hr
      · exact hS1 o ho
    · exact absurd hp.1 (Nat.succ_ne_zero k)
  done := fun s Q E st hQ => by
    obtain ⟨h1, h2, h3, h4, ⟨m', F⟩, NN, ⟨oS, hS⟩, h7⟩ := st
    obtain ⟨gs, hgs, hgo⟩ := h7 (Nat.le_refl _)
    rw [Nat.sub_self] at hgo
    have hl : s.heap.NoLimit := T.nolimit.keeps F.keep
    refine pyNext_genQ (P := fun n s₀ s₁ => n = 0 ∧ SinceG g C S ga oa news s₀ s₁) rfl hl hd h1 hgs (hgo _ ⟨fun _ _ _ e => e, oS, hS⟩) (fun v s₁ gs' hb hv => ?_) (fun s₁ hp h' hk' => ?_)
    · obtain ⟨_, ⟨h', tk, rfl, _, hS1, _⟩, hkap⟩ := hv
      exact False.elim (hkap _ ⟨fun _ _ _ e => e, oS, hS1 oS hS⟩)
    · obtain ⟨_, h0, tk, rfl, ⟨m1, F1⟩, hS1, N1⟩ := hp
      refine hQ _ ⟨?_, bare_setGen (gs := .running) (bare_setGen h2 hgs rfl) (setGen_self hgs) rfl, h3, h4, ⟨m1, F1.keeps hk'⟩, N1.grown hk', ⟨oS, hk' _ _ (hS1 oS hS)⟩, fun hj => absurd hj (by omega)⟩ fun o ho => hk' _ _ (hS1 o ho)
      have hga1 := (N1 (ga, oa) (.head _)).1
      have hga0 := (NN (ga, oa) (.head _)).1
      obtain ⟨o, nm, qn, ho, r⟩ := h1
      rw [hga0] at ho
      cases ho
      exact ⟨oa, nm, qn, hk' _ _ hga1, r⟩
end Jl
end
section
open PySem PySem.W PySem.Calls PyProof.Rows PySem.Spec
open PyProof.Rows.LCg
set_option maxRecDepth 100000
namespace Jl
section
variable {prog : Program} {w : World} {A : Around} {s : Shared} {h₀ : Heap} {L : Addr} {m : Str → Option Value} {K : Frag} {p : Program} {loose : List Str} {mean : ExcName → Option Value} {mg mb : Str → Option Value}
    {R : Result → Shared → Prop} {name qual : Str} {params : Arguments} {body : List Stmt} {scope : Scope} {dV kV doc pm cdv ct oc : Value} {an od : Option Addr} {osl : Array (Option Value)} {f : Addr} {args : Args} {binds : List (Str × Value)}
theorem gen_enter (F : Fr h₀ L s.heap m) (X₀ : K.In h₀) (T : Top p loose mean mg mb h₀)
    (ho : K.lookup f = some ⟨oc, od, .func (fnOf name qual params body scope dV kV doc pm an cdv ct), osl⟩) (hcd : codeIn K cdv qual = true) (hroom : A.depth < recursionLimit)
    (hbind : BindsTo s (fnOf name qual params body scope dV kV doc pm an cdv ct) args binds) (hloc : ∀ y ∈ binds, scope.names.lookup y.1 = some .local)
    (h : ∀ (h₁ : Heap) (t1 t2 tk : Tok), h₁.Ns s.heap.objs.size (fun y => binds.reverse.lookup y) → (∀ b o, s.heap.get? b = some o → h₁.get? b = some o) → h₁.objs.size = s.heap.objs.size + 1 →
      R (.ok (.ret (.ref h₁.objs.size))) { s with gens := s.gens.push (.fresh (.func body (envOf qual scope s.heap.objs.size f cdv))), toks := tk, heap := h₁.push { cls := .type "generator", data := .fields #[.int s.gens.size 0, .str name t1, .str qual t2] } })
    (hco : scope.isCoroutine = false) (hgen : scope.isGenerator = true) (hk : scope.kind = .function)
    (hcell : ∀ x ∈ scope.names, x.2 ≠ .cell) : codeAny (model prog w) A (.call (.ref f) args) R s := by
  have X := X₀.keeps F.keep
  refine codeAny_call_generator (fd := fnOf name qual params body scope dV kV doc pm an cdv ct) (body := body) hroom (X _ _ ho) rfl hco hgen rfl (codeRec_of X hcd) (hbind _ _ _ _ ?_)
  refine wpAny_newFunctionEnv hcell hloc (fun h₁ hns hsb => ⟨(T.nolimit.keeps F.keep).fresh _ hsb, ?_⟩) hk
  exact h h₁ _ _ _ hns (fun b o e => hsb.extBut b o (Nat.ne_of_lt (Heap.lt_size e)) (Heap.get?_push_of_some _ e)) (by rw [hsb.1, Heap.size_push])
end
variable {w : World} {p : Program} {loose : List Str} {mean : ExcName → Option Value} {mg mb : Str → Option Value} {dp un : Nat} {gd : Option (List Code)} {cn : Str} {cs : Scope} {a : Addr} {ccd : Value} {cl : List (Str × Addr)} {A₀ : Around} {base h₀ : Heap} {L : Addr} {m : Str → Option Value} {s : Shared} {Q E : Value → Shared → Prop} {news : List (Addr × Obj)}
/-- a generator of N texts, ready to be taken into a list -/
noncomputable def GenReady (w : World) (A : Around) (h₀ : Heap) (L : Addr) (m : Str → Option Value) (news : List (Addr × Obj)) (nm : Nat → PySem.Str) (N : Nat) (ga : Addr) (s₁ : Shared) : Prop :=
  ∃ St : Nat → Shared → Prop, WalksG PySem.Challenge.rw_je0040_01.row.prog w A.in1.in1 ga s₁.heap.objs.size N (fun i v => ∃ t, v = .str (nm i) t) St ∧ (∀ i s, St i s → s.TypeIs (.ref ga) "generator") ∧
    St 0 { s₁ with heap := s₁.heap.push { cls := .type "list", data := .seq #[] } } ∧ s₁.heap.objs.size ≠ ga ∧ Fr h₀ L s₁.heap m ∧ News h₀ L s₁.heap news ∧
    (∀ s', St (N + 1) s' → Fr h₀ L s'.heap m ∧ News h₀ L s'.heap news ∧ (∀ y ∈ s'.gens, y.bare = true) ∧ s'.drawn = s₁.drawn ∧ s'.os = s₁.os)
theorem list_ready {A : Around} {nm : Nat → PySem.Str} {N : Nat} {ga : Addr} (G : GenReady w A h₀ L m news nm N ga s) (hN : N ≤ 1000)
    (hret : ∀ D acc c h' g' tk', Fr h₀ L h' m → News h₀ L h' ((D, PySem.W.listOf acc c) :: news) → (∀ q ∈ news, q.1 < D) → (∀ y ∈ g', y.bare = true) → ItemsOf (fun i v => ∃ t, v = .str (nm i) t) acc N → Q (.ref D) { s with heap := h', gens := g', toks := tk' }) :
    wpAny (model PySem.Challenge.rw_je0040_01.row.prog w) A (call (.type "list") [.ref ga]) Q E s := by
  obtain ⟨St, W, hT, h0, hne, F, N0, fin⟩ := G
  refine call_listG W hT h0 hne (fun s' acc c hst hS hacc => ?_) (by rw [sizeLine_eq]; omega)
  obtain ⟨F', N', hb, hd, ho⟩ := fin s' hst
  obtain ⟨hp, gs, dr, tk, os⟩ := s'
  dsimp only at hd ho
  subst hd; subst ho
  refine hret _ acc c hp gs tk F' (fun q hq => ?_) (fun q hq => Heap.lt_size (N0 q hq).1) hb hacc
  rcases List.mem_cons.mp hq with rfl | hq
  · refine ⟨hS, Nat.ne_of_gt F.ns.lt, ?_⟩
    cases e : h₀.get? s.heap.objs.size with
    | none => rfl
    | some o => exact absurd (Heap.lt_size (F.keep _ _ e)) (Nat.lt_irrefl _)
  · exact N' q hq
set_option maxHeartbeats 8000000 in
theorem gen_call (rx rd kid : Addr) (es : List DictEntry) (b : Int) (px : PySem.Str) (R : RolesAre w kid b px es) (B : Below A₀ base [] h₀) (F : Fr h₀ L s.heap m) (X : (hdJ.heap_39 w.params).In h₀) (N : News h₀ L s.heap ((rx, instObj 139 rd) :: (rd, dictOf es 7) :: news)) (T : Top p loose mean mg mb h₀) (hk : cs.kind = .function) (hd : dp + 2 < recursionLimit) (hu : un + 14 < cLine)
  (hb : ∀ y ∈ s.gens, y.bare = true) (hp : px.length ≤ 10) (hb1 : 1 ≤ b) (hb32 : b ≤ 32) (Nn : Nat) (hN : (Nn : Int) = 2 ^ b.toNat)
  (hret : ∀ ga s₁, GenReady w (ktrTop dp un gd cn cs L a ccd cl []) h₀ L m ((rx, instObj 139 rd) :: (rd, dictOf es 7) :: news) (fun i => nameV px b (i : Int)) Nn ga s₁ → s₁.drawn = s.drawn → s₁.os = s.os → Q (.ref ga) s₁) :
  wpAny (model PySem.Challenge.rw_je0040_01.row.prog w) (ktrTop dp un gd cn cs L a ccd cl []) (call (.ref 129) [.ref rx]) Q E s := by
  k_with_none
  obtain ⟨FG, BG, st, _⟩ := groundX (A := ktrTop dp un gd cn cs L a ccd cl []) (env := envX cn cs L a ccd cl) (R := fun _ _ => True) B F N rfl rfl hk
  revert X
  k_fill
  intro X
  refine wpAny_call ?_
  refine' gen_enter ?k2 ?k3 ?k5 ?k6 ?k7 ?k8 ?k9 ?kB ?_ ?c2 ?c3 ?c4 ?c5
  case k2 => assumption
  case k3 => assumption
  case k5 => assumption
  case k6 => k_is
  case k7 => k_is
  case k8 => show dp < recursionLimit; omega
  case k9 => exact BindsTo.of_eq rfl
  case c5 => decide
  case kB => exact locs rfl
  case c2 => exact rfl
  case c3 => exact rfl
  case c4 => exact rfl
  intro h1 t1 t2 tk hns hk1 hsz
  refine hret _ _ ?_ rfl rfl
  have hgsz : (hideAll s.heap (((rx, instObj 139 rd) :: (rd, dictOf es 7) :: news).map (·.1))).objs.size = s.heap.objs.size := hideAll_size _ _
  have hgk : ∀ b o, (hideAll s.heap (((rx, instObj 139 rd) :: (rd, dictOf es 7) :: news).map (·.1))).get? b = some o → s.heap.get? b = some o := fun b o e => of_hideAll _ e
  have hgn : ∀ q ∈ (rx, instObj 139 rd) :: (rd, dictOf es 7) :: news, (hideAll s.heap (((rx, instObj 139 rd) :: (rd, dictOf es 7) :: news).map (·.1))).get? q.1 = none := fun q hq => hideAll_none _ (List.mem_map_of_mem hq)
  have Xg := X.keeps st
  have Tg := T.keeps st
  generalize hideAll s.heap (((rx, instObj 139 rd) :: (rd, dictOf es 7) :: news).map (·.1)) = g at *
  have hlt : ∀ q ∈ (rx, instObj 139 rd) :: (rd, dictOf es 7) :: news, q.1 < s.heap.objs.size := fun q hq => Heap.lt_size (N q hq).1
  generalize hoa : ({ cls := Value.type "generator", data := Data.fields #[Value.int s.gens.size 0, Value.str (Str.ofString "get_roles") t1, Value.str (Str.ofString "SuccinctRoles.get_roles") t2] } : Obj) = oa
  have hoad : oa.cls = .type "generator" ∧ (∃ nm qn, oa.data = .fields #[.int s.gens.size 0, nm, qn]) ∧ oa.slots = #[] ∧ oa.isFreed = false := by subst hoa; exact ⟨rfl, ⟨_, _, rfl⟩, rfl, rfl⟩
  have hgaget : (h1.push oa).get? h1.objs.size = some oa := Heap.get?_push_size h1 hoad.2.2.2
  have hSz : (h1.push oa).objs.size = s.heap.objs.size + 2 := by rw [Heap.size_push, hsz]
  have hgS : g.get? (h1.push oa).objs.size = none := Heap.get?_none_of_le (by rw [hSz, hgsz]; exact Nat.le_add_right _ _)
  have hga0 : g.get? h1.objs.size = none := Heap.get?_none_of_le (by rw [hsz, hgsz]; exact Nat.le_succ _)
  have hCS : s.heap.objs.size ≠ (h1.push oa).objs.size := by rw [hSz]; omega
  have hgaS : h1.objs.size ≠ (h1.push oa).objs.size := by rw [hSz, hsz]; omega
  have hgaC : h1.objs.size ≠ s.heap.objs.size := by rw [hsz]; omega
  have hneS : ∀ q ∈ (rx, instObj 139 rd) :: (rd, dictOf es 7) :: news, q.1 ≠ (h1.push oa).objs.size := fun q hq => by have := hlt q hq; rw [hSz]; exact Nat.ne_of_lt (Nat.lt_succ_of_lt (Nat.lt_succ_of_lt this))
  have up1 : ∀ b o, s.heap.get? b = some o → (h1.push oa).get? b = some o := fun b o e => Heap.get?_push_of_some _ (hk1 b o e)
  have F1 : Fr h₀ L (h1.push oa) m := F.keeps up1
  have N1 : News h₀ L (h1.push oa) ((rx, instObj 139 rd) :: (rd, dictOf es 7) :: news) := N.grown up1
  have hself : (fun y => (List.lookup y [(Str.ofString "self", Value.ref rx)])) = (fun y => if y = Str.ofString "self" then some (Value.ref rx) else none) := by
    funext y
    by_cases h : y = Str.ofString "self"
    · subst h; simp
    · have : (y == Str.ofString "self") = false := by simpa using h
      simp [List.lookup, this, h]
  have Fg : Fr g s.heap.objs.size (h1.push oa) (fun y => if y = Str.ofString "self" then some (Value.ref rx) else none) :=
    ⟨by rw [← hself]; exact (hns.push _), fun b o e => up1 _ _ (hgk b o e), Nat.le_of_eq hgsz⟩
  have Ng : News g s.heap.objs.size (h1.push oa) ((h1.objs.size, oa) :: (rx, instObj 139 rd) :: (rd, dictOf es 7) :: news) := fun q hq => by
    rcases List.mem_cons.mp hq with rfl | hq
    · exact ⟨hgaget, hgaC, hga0⟩
    · exact ⟨up1 _ _ (N q hq).1, Nat.ne_of_lt (hlt q hq), hgn q hq⟩
  have hgis : (h1.push oa).IsGen h1.objs.size s.gens.size := by
    obtain ⟨c1, ⟨nm, qn, c2⟩, c3, _⟩ := hoad
    exact ⟨oa, nm, qn, hgaget, c1, c2, c3⟩
  have hbare : ∀ (c : Code), ∀ y ∈ s.gens.push (.fresh c), y.bare = true := fun c y hy => by
    rcases Array.mem_push.mp hy with hy | rfl
    · exact hb y hy
    · rfl
  generalize hHp : h1.push oa = H at *
  refine ⟨GSt w dp (un + 1 + 1 + 1) gd (envX cn cs L a ccd cl) g s.heap.objs.size H.objs.size h1.objs.size oa ((rx, instObj 139 rd) :: (rd, dictOf es 7) :: news) s.gens.size s.drawn s.os (fun i => nameV px b (i : Int)) Nn,
    gst_walks (dp := dp) (un := un + 1 + 1) Tg (by omega) hgS hCS hgaS hneS, fun i s st => st.1.typeIs, ?_, Ne.symm hgaS, F1, N1, fun s' st' => ?_⟩
  · have upS : ∀ b o, H.get? b = some o → (H.push { cls := .type "list", data := .seq #[] }).get? b = some o := fun b o e => Heap.get?_push_of_some _ e
    refine ⟨hgis.push _, hbare _, rfl, rfl, ⟨_, Fg.keeps upS⟩, Ng.grown upS, ⟨_, Heap.get?_push_size _ rfl⟩, fun _ => ⟨_, Array.getElem?_push_size .., fun s'' hr => ⟨rfl, ?_⟩⟩⟩
    obtain ⟨hk, oS, hS⟩ := hr
    rw [Nat.sub_zero]
    have hk' : ∀ b o, b ≠ H.objs.size → H.get? b = some o → s''.heap.get? b = some o := fun b o hb e => hk b o hb (upS b o e)
    have F2 : Fr g s.heap.objs.size s''.heap (fun y => if y = Str.ofString "self" then some (Value.ref rx) else none) :=
      ⟨Fg.ns.at' fun o e => hk' _ o hCS e, fun b o e => hk' _ o (fun q => by rw [q, hgS] at e; cases e) (Fg.keep b o e), Fg.above⟩
    refine gen_start (base := base) (news := news) rx rd kid es b px R BG Xg Tg hd (by omega) hp hb1 hb32 Nn hN hgS hCS ⟨hneS _ (.head _), hneS _ (.tail _ (.head _)), hgaS, fun q hq => hneS q (.tail _ (.tail _ hq))⟩ s'' oS (fun _ => none) F2 fun q hq => ?_
    have key : ∀ q, q ∈ (h1.objs.size, oa) :: (rx, instObj 139 rd) :: (rd, dictOf es 7) :: news → q.1 ≠ H.objs.size → s''.heap.get? q.1 = some q.2 ∧ q.1 ≠ s.heap.objs.size ∧ g.get? q.1 = none := fun q hq hn => ⟨hk' _ _ hn (Ng q hq).1, (Ng q hq).2⟩
    rcases List.mem_cons.mp hq with rfl | hq
    · exact key _ (.tail _ (.head _)) (hneS _ (.head _))
    rcases List.mem_cons.mp hq with rfl | hq
    · exact key _ (.tail _ (.tail _ (.head _))) (hneS _ (.tail _ (.head _)))
    rcases List.mem_cons.mp hq with rfl | hq
    · exact ⟨hS, Ne.symm hCS, hgS⟩
    rcases List.mem_cons.mp hq with rfl | hq
    · exact key _ (.head _) hgaS
    · exact key _ (.tail _ (.tail _ (.tail _ hq))) (hneS q (.tail _ (.tail _ hq)))
  · obtain ⟨h1', h2', h3', h4', ⟨m', F'⟩, N', _, _⟩ := st'
    exact ⟨FG.keeps F'.keep, fun q hq => ⟨(N' q (.tail _ hq)).1, (N q hq).2⟩, h2', h3', h4'⟩
end Jl
end
section
open PySem PySem.W PyProof.Rows
namespace Jl
noncomputable def sufOf (px x : PySem.Str) : PySem.Str := Txt.slice x (some ((px.length + (Str.ofString "-").length : Nat) : Int)) none
noncomputable def delR (px : PySem.Str) (sl nb : Int) (x : PySem.Str) : Bool := Txt.startswith x (px ++ Str.ofString "-") && decide (((sufOf px x).length : Int) = sl) && decide (((hexV (sufOf px x).cps.toList : Nat) : Int) < nb)
theorem delR_pre {px x : PySem.Str} {sl nb : Int} (h : Txt.startswith x (px ++ Str.ofString "-") = false) : delR px sl nb x = false := by
  unfold delR; rw [h]; rfl
theorem delR_len {px x : PySem.Str} {sl nb : Int} (h : ((Txt.slice x (some ((px.length + (Str.ofString "-").length : Nat) : Int)) none).length : Int) ≠ sl) : delR px sl nb x = false := by
  unfold delR sufOf; rw [decide_eq_false h, Bool.and_false, Bool.false_and]
theorem delR_val {px x : PySem.Str} {sl nb : Int} (h1 : Txt.startswith x (px ++ Str.ofString "-") = true) (h : ((Txt.slice x (some ((px.length + (Str.ofString "-").length : Nat) : Int)) none).length : Int) = sl) :
    delR px sl nb x = decide (((hexV (Txt.slice x (some ((px.length + (Str.ofString "-").length : Nat) : Int)) none).cps.toList : Nat) : Int) < nb) := by
  unfold delR sufOf; rw [h1, decide_eq_true h]; rfl
variable {w : World} {p : Program} {loose : List Str} {mean : ExcName → Option Value} {mg mb : Str → Option Value} {dp un : Nat} {gd : Option (List Code)} {cn : Str} {cs : Scope} {a : Addr} {ccd : Value} {cl : List (Str × Addr)} {outer : List Env} {A₀ : Around} {base h₀ : Heap} {L : Addr} {m : Str → Option Value} {s : Shared} {Q E : Value → Shared → Prop} {news : List (Addr × Obj)}
set_option maxRecDepth 100000 in
set_option maxHeartbeats 8000000 in
theorem del_call (rx rd kid : Addr) (es : List DictEntry) (b : Int) (px : PySem.Str) (R : RolesAre w kid b px es) (B : Below A₀ base outer h₀) (F : Fr h₀ L s.heap m) (X : (hdJ.heap_39 w.params).In h₀) (N : News h₀ L s.heap ((rx, instObj 139 rd) :: (rd, dictOf es 7) :: news)) (T : Top p loose mean mg mb h₀) (hk : cs.kind = .function) (hd : dp + 1 < recursionLimit) (hu : un + 8 < cLine)
  (x : PySem.Str) (t1 : Tok) (hb : x.length ≤ 60) (hp : px.length ≤ 10)
  (hpre : Txt.startswith x (px ++ Str.ofString "-") = true → ((Txt.slice x (some ((px.length + (Str.ofString "-").length : Nat) : Int)) none).length : Int) = ((hexS (2 ^ b.toNat - 1) 1).length : Int) → (∀ c ∈ (Txt.slice x (some ((px.length + (Str.ofString "-").length : Nat) : Int)) none).cps.toList, IsHex c) ∧ (Txt.slice x (some ((px.length + (Str.ofString "-").length : Nat) : Int)) none).cps.toList ≠ [])
  (hret : ∀ h' tk', Fr h₀ L h' m → News h₀ L h' ((rx, instObj 139 rd) :: (rd, dictOf es 7) :: news) → Q (.bool (delR px ((hexS (2 ^ b.toNat - 1) 1).length : Int) (2 ^ b.toNat) x)) {s with heap := h', toks := tk'}) :
  wpAny (model PySem.Challenge.rw_je0040_01.row.prog w) (ktrTop dp un gd cn cs L a ccd cl outer) (call (.ref 136) [.ref rx, .str x t1]) Q E s := by
  k_with_none
  obtain ⟨ur, kk, rfl⟩ := R
  revert X
  k_fill
  intro X
  refine wpAny_call ?_
  k_dflt cell_enter
  k_steps
  · refine cb_retB (Q := Q) (fun _ h' tk' F N => hret h' tk' F N) ?e1 ?e2 ?e3
    case e1 => exact (delR_len (by assumption)).symm
    case e2 => k_asm
    case e3 => k_asm
  · unfold Stop
    rename_i hst _ _ _ _ _ _ _ _ _ hln _
    have hxx := hpre (by assumption) (by assumption)
    k_dflt (refine' call_hex ?hl hxx.1 hxx.2 ?_; (case hl => omega))
    (try dsimp only)
    k_steps
    refine cb_retB (Q := Q) (fun _ h' tk' F N => hret h' tk' F N) ?e1 ?e2 ?e3
    case e1 => exact (delR_val (by assumption) (by assumption)).symm
    case e2 => k_asm
    case e3 => k_asm
  · refine cb_retB (Q := Q) (fun _ h' tk' F N => hret h' tk' F N) ?e1 ?e2 ?e3
    case e1 => exact (delR_pre (by assumption)).symm
    case e2 => k_asm
    case e3 => k_asm
end Jl
end
section
open PySem PySem.W PyProof.Rows
namespace Jl
noncomputable def digF (b : Array UInt8) : Int := List.foldl (fun n o => (n * 263 + o + 1).fmod 4294967291) 5 (List.map (fun c => (c.toNat : Int)) b.toList)
theorem dg_start {b : Array UInt8} {n : Int} (h : n = digF b) : n = (digF b).fdiv (16 ^ ([] : List Int).length) ∧ Str.ofString "" = sufG (digF b) ([] : List Int).length ∧ (Str.ofString "").length = ([] : List Int).length := by
  refine ⟨?_, rfl, rfl⟩
  show n = (digF b).fdiv 1
  rw [Int.fdiv_one, h]
theorem dg_step {n0 n k : Int} {pre : List Int} {s : PySem.Str} (h1 : n = n0.fdiv (16 ^ pre.length)) (h2 : s = sufG n0 pre.length) (h3 : s.length = pre.length) (e : (Txt.item (Str.ofString "0123456789abcdef") (n.fmod 16)).length = 1) :
    n.fdiv 16 = n0.fdiv (16 ^ (pre ++ [k]).length) ∧ (Txt.item (Str.ofString "0123456789abcdef") (n.fmod 16) ++ s) = sufG n0 (pre ++ [k]).length ∧ (Txt.item (Str.ofString "0123456789abcdef") (n.fmod 16) ++ s).length = (pre ++ [k]).length := by
  rw [PySem.Str.length_append, e, List.length_append, List.length_singleton, h3]
  refine ⟨?_, ?_, by omega⟩
  · have h16 : (0 : Int) ≤ 16 ^ pre.length := Int.le_of_lt (Int.pow_pos (by decide))
    rw [h1, Int.pow_succ, Int.fdiv_eq_ediv_of_nonneg _ h16, Int.fdiv_eq_ediv_of_nonneg _ (by decide), Int.fdiv_eq_ediv_of_nonneg _ (Int.mul_nonneg h16 (by decide)), Int.ediv_ediv_of_nonneg h16]
  · rw [sufG, h1, h2]
theorem dg_bnd (b : Array UInt8) {n : Int} (h : n = digF b) (h0 : 0 ≤ n) (h1 : n < 4294967291) : 0 ≤ digF b ∧ digF b < 4294967291 := by rw [← h]; exact ⟨h0, h1⟩
theorem dg_end {x : PySem.Str} {n : Int} (h : x = sufG n (rangeKs 0 ((8 : Int) - 0).toNat).length) : x = sufG n 8 := by
  have e : ((8 : Int) - 0).toNat = 8 := by decide
  rw [h, rangeKs_length, e]
variable {w : World} {p : Program} {loose : List Str} {mean : ExcName → Option Value} {mg mb : Str → Option Value} {dp un : Nat} {gd : Option (List Code)} {cn : Str} {cs : Scope} {a : Addr} {ccd : Value} {cl : List (Str × Addr)} {outer : List Env} {A₀ : Around} {base h₀ : Heap} {L : Addr} {m : Str → Option Value} {s : Shared} {Q E : Value → Shared → Prop} {news : List (Addr × Obj)}
set_option maxRecDepth 100000 in
set_option maxHeartbeats 8000000 in
theorem digest_call (B : Below A₀ base outer h₀) (F : Fr h₀ L s.heap m) (X : (hdJ.heap_39 w.params).In h₀) (N : News h₀ L s.heap news) (T : Top p loose mean mg mb h₀) (hk : cs.kind = .function) (hd : dp + 1 < recursionLimit) (hu : un + 8 < cLine)
  (b : Array UInt8) (t1 t2 : Tok) (hb : b.size ≤ 1000)
  (hret : ∀ t h' tk', Fr h₀ L h' m → News h₀ L h' news → 0 ≤ digF b → digF b < 4294967291 → Q (.str (sufG (digF b) 8) t) {s with heap := h', toks := tk'}) :
  wpAny (model PySem.Challenge.rw_je0040_01.row.prog w) (ktrTop dp un gd cn cs L a ccd cl outer) (call (.ref 162) [.bytes b t1, .str (Str.ofString "sha256") t2]) Q E s := by
  k_with_none
  k_with "pyIter bytes" => k_state (fun pre number => number = pre.foldl (fun n o => (n * 263 + o + 1).fmod 4294967291) 5 ∧ 0 ≤ number ∧ number < 4294967291) "number"
  k_with "pyIter ref" => k_dflt (k_state_short (fun pre number signs => number = (digF b).fdiv (16 ^ pre.length) ∧ signs = sufG (digF b) pre.length ∧ signs.length = pre.length) "number" "signs")
  k_with "state" => exact dg_start (by assumption)
  k_with "state" => exact dg_step (by assumption) (by assumption) (by assumption) (by assumption)
  revert X
  k_fill
  intro X
  refine wpAny_call ?_
  k_dflt cell_enter
  k_steps
  rename_i n1 _ _ _ _ _ _ _ ha hb2 hc _ _ _ _ _ _ _ _ _ _ _ _ x1 _ he hf hg kF kN kT kX
  have hx := dg_bnd b ha hb2 hc
  refine cb_retS (Q := Q) (fun t h' tk' F N => hret t h' tk' F N hx.1 hx.2) ?e1 ?e2 ?e3
  case e1 => exact dg_end hf
  case e2 => exact kF
  case e3 => exact cb_drop kN (fun p hp => .tail _ hp)
end Jl
end
section
open PySem PySem.W PyProof.Rows
namespace Jl
theorem bytesOf_size (x : PySem.Str) : (bytesOf x).size = x.length := by simp [bytesOf, PySem.Str.length]
theorem sufG_ne (n : Int) (k : Nat) : (sufG n (k + 1)).cps.toList ≠ [] := by
  intro h
  have := sufG_length n (k + 1)
  have e : (sufG n (k + 1)).cps.toList.length = k + 1 := by rw [Array.length_toList]; exact this
  rw [h] at e; cases e
theorem hexV_digest {b : Array UInt8} (h0 : 0 ≤ digF b) (h1 : digF b < 4294967291) : ((hexV (sufG (digF b) 8).cps.toList : Nat) : Int) = digF b := by
  rw [hexV_sufG h0 8]
  exact Int.emod_eq_of_lt h0 (Int.lt_trans h1 (by decide))
theorem slice_all (x : PySem.Str) (h : x.length = 8) : Txt.slice x none (some 8) = x := by
  unfold Txt.slice
  rw [h]
  exact if_pos (by decide +kernel)
theorem bin_bnd {D b : Int} (h0 : 0 ≤ D) (h1 : D < 4294967291) : 0 ≤ D.fdiv (2 ^ (32 - b).toNat) ∧ D.fdiv (2 ^ (32 - b).toNat) < 1099511627776 := by
  have p : (0 : Int) < 2 ^ (32 - b).toNat := Int.pow_pos (by decide)
  rw [Int.fdiv_eq_ediv_of_nonneg _ (Int.le_of_lt p)]
  have a := Int.ediv_nonneg h0 (Int.le_of_lt p)
  have c := Int.ediv_le_self (2 ^ (32 - b).toNat) h0
  omega
theorem bin_lt {D b : Int} (hb1 : 1 ≤ b) (hb32 : b ≤ 32) (h0 : 0 ≤ D) (h1 : D < 4294967296) : D.fdiv (2 ^ (32 - b).toNat) < 2 ^ b.toNat := by
  have p : (0 : Int) < 2 ^ (32 - b).toNat := Int.pow_pos (by decide)
  rw [Int.fdiv_eq_ediv_of_nonneg _ (Int.le_of_lt p)]
  refine Int.ediv_lt_of_lt_mul p ?_
  rw [← Int.pow_add]
  have e : b.toNat + (32 - b).toNat = 32 := by omega
  rw [e]
  exact h1
/-- the name that get_role_for_target makes -/
noncomputable def roleV (px : PySem.Str) (b D : Int) : PySem.Str := px ++ Str.ofString "-" ++ sufG (D.fdiv (2 ^ (32 - b).toNat)) (sufL b)
theorem roleV_is {px : PySem.Str} {b D : Int} (hb1 : 1 ≤ b) (hb32 : b ≤ 32) (h0 : 0 ≤ D) (h1 : D < 4294967291) :
    Str.empty ++ px ++ Str.ofString "-" ++ hexS (D.fdiv (2 ^ (32 - b).toNat)) ((hexS (2 ^ b.toNat - 1) 1).length : Int) = roleV px b D := by
  have a := bin_lt hb1 hb32 h0 (by omega)
  have c := bins_lt hb1 hb32
  have d := sufL_small hb1 hb32
  rw [sufL_len hb1 hb32, hexS_pad (bin_bnd h0 h1).1 (by omega) (by omega), PySem.Str.empty_append]
  rfl
variable {w : World} {p : Program} {loose : List Str} {mean : ExcName → Option Value} {mg mb : Str → Option Value} {dp un : Nat} {gd : Option (List Code)} {cn : Str} {cs : Scope} {a : Addr} {ccd : Value} {cl : List (Str × Addr)} {outer : List Env} {A₀ : Around} {base h₀ : Heap} {L : Addr} {m : Str → Option Value} {s : Shared} {Q E : Value → Shared → Prop} {news : List (Addr × Obj)}
set_option maxRecDepth 100000 in
set_option maxHeartbeats 8000000 in
theorem role_call (rx rd kid : Addr) (es : List DictEntry) (b : Int) (px : PySem.Str) (R : RolesAre w kid b px es) (B : Below A₀ base outer h₀) (F : Fr h₀ L s.heap m) (X : (hdJ.heap_39 w.params).In h₀) (N : News h₀ L s.heap ((rx, instObj 139 rd) :: (rd, dictOf es 7) :: news)) (T : Top p loose mean mg mb h₀) (hk : cs.kind = .function) (hd : dp + 3 < recursionLimit) (hu : un + 18 < cLine)
  (x : PySem.Str) (t1 : Tok) (hb : x.length ≤ 60) (hasc : ∀ c ∈ x.cps.toList, c < 128) (hp : px.length ≤ 10) (hb1 : 1 ≤ b) (hb32 : b ≤ 32)
  (hret : ∀ t h' tk', Fr h₀ L h' m → News h₀ L h' ((rx, instObj 139 rd) :: (rd, dictOf es 7) :: news) → 0 ≤ digF (bytesOf x) → digF (bytesOf x) < 4294967291 → Q (.str (roleV px b (digF (bytesOf x))) t) {s with heap := h', toks := tk'}) :
  wpAny (model PySem.Challenge.rw_je0040_01.row.prog w) (ktrTop dp un gd cn cs L a ccd cl outer) (call (.ref 122) [.ref rx, .str x t1, .ref 162]) Q E s := by
  k_with_none
  obtain ⟨ur, kk, rfl⟩ := R
  revert X
  k_fill
  intro X
  refine wpAny_call ?_
  k_dflt cell_enter
  k_steps
  unfold Stop
  refine' digest_call ?B ?F ?X ?N ?T ?k ?d ?u _ _ _ ?hb ?_
  (case B => k_asm)
  (case F => k_asm)
  (case X => k_asm)
  (case N => k_asm)
  (case T => k_asm)
  (case k => first | exact rfl | assumption)
  (case d => ktr_room)
  (case u => show un + 3 + 8 < cLine; omega)
  (case hb => rw [bytesOf_size]; omega)
  intro t2 h2 tk2 F2 N2 hd0 hd1
  have hlen8 := sufG_length (digF (bytesOf x)) 8
  (try dsimp only); (try k_fold)
  k_steps
  unfold Stop
  rw [slice_all _ hlen8]
  k_dflt (refine' call_hex ?hl (sufG_hex _ 8) ?hn ?_; (case hl => omega); (case hn => exact sufG_ne _ 7))
  (try dsimp only)
  rw [hexV_digest hd0 hd1]
  k_steps
  unfold Stop
  have hsl := sufL_len hb1 hb32
  have hs8 := sufL_small hb1 hb32
  have hbb := bin_bnd (b := b) hd0 hd1
  refine' hex_call ?B ?F ?X ?N ?T ?k ?d ?u _ _ _ _ hbb.1 hbb.2 ?h2 ?_
  (case B => k_asm)
  (case F => k_asm)
  (case X => k_asm)
  (case N => k_asm)
  (case T => k_asm)
  (case k => first | exact rfl | assumption)
  (case d => ktr_room)
  (case u => show un + 3 + 8 < cLine; omega)
  (case h2 => omega)
  intro t3 h3 tk3 F3 N3 hl3
  (try dsimp only); (try k_fold)
  k_steps
  refine cb_retS (Q := Q) (fun t h' tk' F N => hret t h' tk' F N hd0 hd1) ?e1 ?e2 ?e3
  case e1 => exact roleV_is hb1 hb32 hd0 hd1
  case e2 => k_asm
  case e3 => k_asm
end Jl
end
section
open PySem PySem.W PyProof.Rows
namespace Jl
noncomputable def bit4 (c : Nat) : List Int := [((hexD c : Nat) : Int).fdiv 8, (((hexD c : Nat) : Int).fdiv 4).fmod 2, (((hexD c : Nat) : Int).fdiv 2).fmod 2, ((hexD c : Nat) : Int).fmod 2]
noncomputable def bitsL (cs : List Nat) : List Int := cs.flatMap bit4
theorem occ_nat : ∀ c, c < 103 → (48 ≤ c ∧ c ≤ 57) ∨ (97 ≤ c ∧ c ≤ 102) → PySem.Builtin.Str.occurrences (Str.ofString "0123456789abcdef") ⟨#[c]⟩ 0 (Str.ofString "0123456789abcdef").length 1 = [hexD c] := by decide +kernel
theorem hex_lt {c : Nat} (h : IsHex c) : c < 103 := by
  rcases h with h | h
  · exact Nat.lt_of_le_of_lt h.2 (by decide)
  · exact Nat.lt_of_le_of_lt h.2 (by decide)
theorem occ_hex {c : Nat} (h : IsHex c) : PySem.Builtin.Str.occurrences (Str.ofString "0123456789abcdef") ⟨#[c]⟩ 0 (Str.ofString "0123456789abcdef").length 1 = [hexD c] := occ_nat c (hex_lt h) h
theorem index_hex {prog : Program} {w : World} {A : Around} {E : Value → Shared → Prop} {s : Shared} {Q : Value → Shared → Prop} {c : Nat} {t u : Tok} (h : IsHex c) (hq : Q (.int ((hexD c : Nat) : Int) s.toks) { s with toks := s.toks + 1 }) :
    wpAny (model prog w) A (call (.builtin "str.index") [.str (Str.ofString "0123456789abcdef") t, .str ⟨#[c]⟩ u]) Q E s :=
  call_gives F.slot_str_index (typeIs_str _ _ _) F.entry_str_index (F.args_str_index_2 _ _) (gives_str_index _ _ t u (hexD c) [] (occ_hex h)) hq
theorem hex_ascii {x : PySem.Str} (h : ∀ c ∈ x.cps.toList, IsHex c) : x.cps.all (· < 128) = true := by
  rw [← Array.all_toList, List.all_eq_true]
  intro c hc
  have := h c hc; unfold IsHex at this
  exact decide_eq_true (by omega)
theorem bitsL_length (cs : List Nat) : (bitsL cs).length = 4 * cs.length := by
  unfold bitsL
  induction cs with
  | nil => rfl
  | cons c r ih => rw [List.flatMap_cons, List.length_append, ih, List.length_cons]; show 4 + _ = _; omega
theorem bitsL_snoc {x : PySem.Str} {i n : Nat} (h : x.cps[i]? = some n) : bitsL (x.cps.toList.take (i + 1)) = bitsL (x.cps.toList.take i) ++ bit4 n := by
  have h' : x.cps.toList[i]? = some n := by rw [Array.getElem?_toList]; exact h
  rw [List.take_add_one, h']
  unfold bitsL
  rw [List.flatMap_append]
  simp
theorem bitsL_whole (x : PySem.Str) : bitsL (x.cps.toList.take x.cps.size) = bitsL x.cps.toList := by
  rw [← Array.length_toList, List.take_length]
local macro_rules | `(tactic| walk_at "call builtin:str.index") => `(tactic| (k_here; k_dflt (refine index_hex (by assumption) ?_)))
local macro_rules | `(tactic| walk_at "pyIter str") => `(tactic| refine stop_here ?_)
local macro_rules | `(tactic| walk_at "exec For Name Name cons nil") => `(tactic| (k_here; (rename Fr _ _ _ _ => lF'); (with_unfolding_all refine' For_invVF lF' ?k1 ?k2 ?_; (case k1 => exact rfl); (case k2 => exact rfl); k_whole)))
variable {w : World} {p : Program} {loose : List Str} {mean : ExcName → Option Value} {mg mb : Str → Option Value} {dp un : Nat} {gd : Option (List Code)} {cn : Str} {cs : Scope} {a : Addr} {ccd : Value} {cl : List (Str × Addr)} {outer : List Env} {A₀ : Around} {base h₀ : Heap} {L : Addr} {m : Str → Option Value} {s : Shared} {Q E : Value → Shared → Prop} {news : List (Addr × Obj)}
set_option maxRecDepth 100000 in
set_option maxHeartbeats 8000000 in
theorem bits_call (B : Below A₀ base outer h₀) (F : Fr h₀ L s.heap m) (X : (hdJ.heap_39 w.params).In h₀) (N : News h₀ L s.heap news) (T : Top p loose mean mg mb h₀) (hk : cs.kind = .function) (hd : dp + 1 < recursionLimit) (hu : un + 8 < cLine)
  (x : PySem.Str) (t1 : Tok) (hb : x.length = 8) (hx : ∀ c ∈ x.cps.toList, IsHex c)
  (hret : ∀ l vs n h' tk', Fr h₀ L h' m → News h₀ L h' ((l, PySem.W.listOf vs.toArray n) :: news) → AllLt l news → IntsAre vs (bitsL x.cps.toList) → Q (.ref l) {s with heap := h', toks := tk'}) :
  wpAny (model PySem.Challenge.rw_je0040_01.row.prog w) (ktrTop dp un gd cn cs L a ccd cl outer) (call (.ref 169) [.str x t1]) Q E s := by
  k_with_none
  revert X
  k_fill
  intro X
  refine wpAny_call ?_
  k_dflt cell_enter
  k_steps
  unfold Stop
  rename_i l0 h1 l1 h2 lF N0
  have hl0 := allLt_of l1
  clear l1
  with_unfolding_all refine text_loopA (news := (l0, PySem.W.listOf #[] 0) :: news) (fun i m nx => ∃ (u : PySem.Str → Option Value) (l : Addr) (vs : List Value) (n : Nat), m = (fun y => if y = Str.ofString "bits" then some (Value.ref l) else u y) ∧ nx = (l, PySem.W.listOf vs.toArray n) :: news ∧ AllLt l news ∧ IntsAre vs (bitsL (x.cps.toList.take i))) ?asc ?hh lF N0 ⟨_, l0, [], 0, rfl, rfl, hl0, .nil⟩ ?turn ?done
  case asc => exact hex_ascii hx
  case hh => rfl
  case turn =>
    rintro i n t m₁ nx h tk I o hn ⟨u, l, vs, k, rfl, rfl, hll, hi⟩ hne F1 N1
    have hc : IsHex n := hx n (Array.mem_toList_iff.mpr (Array.mem_of_getElem? hn))
    have hvl := hi.length
    have hbl : vs.length ≤ 32 := by rw [hvl, bitsL_length, List.length_take, Array.length_toList]; have : x.cps.size = 8 := hb; omega
    k_steps
    rename_i D ws hh hI ll h9 FF NN
    refine ⟨_, _, _, (D, PySem.W.listOf ws.toArray 0) :: news, rfl, FF, fun p hp => ?_, fun p hp => ?_, _, D, ws, 0, rfl, rfl, ll.2.2.2, ?_⟩
    · rcases List.mem_cons.mp hp with rfl | hp
      · exact NN _ (.tail _ (.tail _ (.head _)))
      · rcases List.mem_cons.mp hp with rfl | hp
        · exact NN _ (.head _)
        · exact NN _ (.tail _ (.tail _ (.tail _ (.tail _ hp))))
    · rcases List.mem_cons.mp hp with rfl | hp
      · exact Nat.ne_of_gt ll.2.1
      · exact hne p (.tail _ hp)
    · rw [bitsL_snoc hn]; exact hI
  case done =>
    rintro m₁ nx h tk ⟨u, l, vs, k, rfl, rfl, hll, hi⟩ F1 N1
    k_steps
    rename_i kF kN kT kX
    refine hret _ vs k _ _ kF kN hll ?_
    rw [bitsL_whole] at hi
    exact hi
end Jl
end
section
open PySem PySem.W PyProof.Rows
namespace Jl
noncomputable def numS (ns : List Int) : Int := ns.foldl (fun n b => 2 * n + b) 0
theorem num_fold : ∀ (ns : List Int) (x : Int), (List.foldl (fun (σ : Int × Unit) n => (2 * σ.fst + n, ())) (x, ()) ns).fst = ns.foldl (fun n b => 2 * n + b) x
  | [], _ => rfl
  | n :: r, x => num_fold r (2 * x + n)
variable {w : World} {p : Program} {loose : List Str} {mean : ExcName → Option Value} {mg mb : Str → Option Value} {dp un : Nat} {gd : Option (List Code)} {cn : Str} {cs : Scope} {a : Addr} {ccd : Value} {cl : List (Str × Addr)} {outer : List Env} {A₀ : Around} {base h₀ : Heap} {L : Addr} {m : Str → Option Value} {s : Shared} {Q E : Value → Shared → Prop} {news : List (Addr × Obj)}
set_option maxRecDepth 100000 in
set_option maxHeartbeats 8000000 in
theorem num_call (l : Addr) (vs : List Value) (n : Nat) (ns : List Int) (B : Below A₀ base outer h₀) (F : Fr h₀ L s.heap m) (X : (hdJ.heap_39 w.params).In h₀) (N : News h₀ L s.heap ((l, PySem.W.listOf vs.toArray n) :: news)) (T : Top p loose mean mg mb h₀) (hk : cs.kind = .function) (hd : dp + 1 < recursionLimit) (hu : un + 8 < cLine)
  (hi : IntsAre vs ns) (hlen : ns.length ≤ 32) (h01 : ∀ x ∈ ns, 0 ≤ x ∧ x ≤ 1)
  (hret : ∀ t h' tk', Fr h₀ L h' m → News h₀ L h' ((l, PySem.W.listOf vs.toArray n) :: news) → Q (.int (numS ns) t) {s with heap := h', toks := tk'}) :
  wpAny (model PySem.Challenge.rw_je0040_01.row.prog w) (ktrTop dp un gd cn cs L a ccd cl outer) (call (.ref 176) [.ref l]) Q E s := by
  k_with_none
  revert X
  k_fill
  intro X
  refine wpAny_call ?_
  k_dflt cell_enter
  k_steps
  refine cb_retI (Q := Q) hret ?e1 ?e2 ?e3
  case e1 => exact num_fold ns 0
  case e2 => k_asm
  case e3 => k_asm
end Jl
end
section
open PySem PySem.W PyProof.Rows
set_option maxRecDepth 100000
namespace Jl
theorem slice_from (x : PySem.Str) (n : Nat) (h : n ≤ x.length) : (Txt.slice x (some ((n : Nat) : Int)) none).cps.toList = x.cps.toList.drop n := by
  show (StrLaws.sliceText x (some ((n : Nat) : Int)) none).cps.toList = _
  rw [StrLaws.sliceText_from ⟨by omega, by rw [Array.length_toList]; unfold PySem.Str.length at h; omega⟩]
  simp
  unfold PySem.Str.length at h
  rw [List.take_of_length_le]
  simp
theorem slice_from_length (x : PySem.Str) (n : Nat) (h : n ≤ x.length) : (Txt.slice x (some ((n : Nat) : Int)) none).length = x.length - n := by
  have e := congrArg List.length (slice_from x n h)
  rw [Array.length_toList, List.length_drop, Array.length_toList] at e
  exact e
theorem starts_eq (x y : PySem.Str) (h : y.length ≤ x.length) : Txt.startswith x y = (x.cps.toList.take y.length == y.cps.toList) := by
  unfold Txt.startswith
  rw [StrLaws.subAt_eq, decide_eq_true (by omega), Bool.true_and, List.drop_zero]
theorem len_list (x : PySem.Str) : x.cps.toList.length = x.length := Array.length_toList
theorem dash_list (px : PySem.Str) : (px ++ Str.ofString "-").cps.toList = px.cps.toList ++ [45] := by
  rw [cps_app]; exact congrArg _ (by decide +kernel)
theorem dash_len (px : PySem.Str) : px.length + (Str.ofString "-").length = px.length + 1 := rfl
theorem pdash_len (px : PySem.Str) : (px ++ Str.ofString "-").length = px.length + 1 := by rw [PySem.Str.length_append]; rfl
/-- a text that opens with the prefix and the stroke -/
theorem gl_len {px x : PySem.Str} {q : List Nat} (hx : x.cps.toList = px.cps.toList ++ 45 :: q) : x.length = px.length + 1 + q.length := by
  have := congrArg List.length hx
  rw [List.length_append, List.length_cons, len_list, len_list] at this
  omega
theorem gl_start {px x : PySem.Str} {q : List Nat} (hx : x.cps.toList = px.cps.toList ++ 45 :: q) : Txt.startswith x (px ++ Str.ofString "-") = true := by
  rw [starts_eq _ _ (by rw [gl_len hx, pdash_len]; omega), pdash_len, dash_list, hx]
  have e : px.cps.toList ++ 45 :: q = (px.cps.toList ++ [45]) ++ q := by simp
  rw [e, List.take_left' (by rw [List.length_append, len_list]; rfl)]
  simp
theorem gl_slice {px x : PySem.Str} {q : List Nat} (hx : x.cps.toList = px.cps.toList ++ 45 :: q) : (Txt.slice x (some ((px.length + (Str.ofString "-").length : Nat) : Int)) none).cps.toList = q := by
  rw [dash_len, slice_from _ _ (by rw [gl_len hx]; omega), hx]
  have e : px.cps.toList ++ 45 :: q = (px.cps.toList ++ [45]) ++ q := by simp
  rw [e, List.drop_left' (by rw [List.length_append, len_list]; rfl)]
theorem gl_slice_len {px x : PySem.Str} {q : List Nat} (hx : x.cps.toList = px.cps.toList ++ 45 :: q) : (Txt.slice x (some ((px.length + (Str.ofString "-").length : Nat) : Int)) none).length = q.length := by
  rw [← gl_slice hx, len_list]
theorem delR_gl {px x : PySem.Str} {q : List Nat} {sl nb : Int} (hx : x.cps.toList = px.cps.toList ++ 45 :: q) : delR px sl nb x = (decide ((q.length : Int) = sl) && decide (((hexV q : Nat) : Int) < nb)) := by
  unfold delR sufOf
  rw [gl_start hx, gl_slice hx, gl_slice_len hx, Bool.true_and]
/-- what del_call asks of a name ahead of its reading -/
noncomputable def Reads (px : PySem.Str) (b : Int) (x : PySem.Str) : Prop := Txt.startswith x (px ++ Str.ofString "-") = true → ((Txt.slice x (some ((px.length + (Str.ofString "-").length : Nat) : Int)) none).length : Int) = ((hexS (2 ^ b.toNat - 1) 1).length : Int) → (∀ c ∈ (Txt.slice x (some ((px.length + (Str.ofString "-").length : Nat) : Int)) none).cps.toList, IsHex c) ∧ (Txt.slice x (some ((px.length + (Str.ofString "-").length : Nat) : Int)) none).cps.toList ≠ []
theorem nameV_list (px : PySem.Str) (b i : Int) : (nameV px b i).cps.toList = px.cps.toList ++ 45 :: (sufG i (sufL b)).cps.toList := by
  unfold nameV; rw [cps_app, dash_list]; simp
theorem sufG_list_len (n : Int) (k : Nat) : (sufG n k).cps.toList.length = k := by rw [len_list, sufG_length]
theorem gl_reads {px x : PySem.Str} {q : List Nat} {b : Int} (hx : x.cps.toList = px.cps.toList ++ 45 :: q) (h1 : 1 ≤ b) (h32 : b ≤ 32) (hq : ∀ c ∈ q, IsHex c) : Reads px b x := by
  intro _ hl
  rw [gl_slice hx]
  rw [gl_slice_len hx, sufL_len h1 h32] at hl
  refine ⟨hq, fun e => ?_⟩
  have := (sufL_small h1 h32).1
  rw [e] at hl
  simp at hl
  omega
theorem nameV_reads (px : PySem.Str) {b : Int} (i : Int) (h1 : 1 ≤ b) (h32 : b ≤ 32) : Reads px b (nameV px b i) := gl_reads (nameV_list px b i) h1 h32 (sufG_hex _ _)
theorem nameV_len (px : PySem.Str) {b : Int} (i : Int) : (nameV px b i).length = px.length + 1 + sufL b := by rw [gl_len (nameV_list px b i), sufG_list_len]
theorem nameV_del (px : PySem.Str) {b i : Int} (h1 : 1 ≤ b) (h32 : b ≤ 32) (hi0 : 0 ≤ i) (hi : i < 2 ^ b.toNat) : delR px ((hexS (2 ^ b.toNat - 1) 1).length : Int) (2 ^ b.toNat) (nameV px b i) = true := by
  rw [delR_gl (nameV_list px b i), sufG_list_len, sufL_len h1 h32, decide_eq_true rfl, Bool.true_and]
  refine decide_eq_true ?_
  rw [hexV_sufG hi0, Int.emod_eq_of_lt hi0]
  · exact hi
  · have := bins_lt h1 h32; omega
/-- a name that is refused without a reading that fails -/
noncomputable def NotName (px : PySem.Str) (b : Int) (x : PySem.Str) : Prop := x.length ≤ 60 ∧ Reads px b x ∧ delR px ((hexS (2 ^ b.toNat - 1) 1).length : Int) (2 ^ b.toNat) x = false
/-- a name whose suffix is no numeral -/
noncomputable def BadName (px : PySem.Str) (b : Int) (x : PySem.Str) : Prop := x.length ≤ 60 ∧ Txt.startswith x (px ++ Str.ofString "-") = true ∧ ((Txt.slice x (some ((px.length + (Str.ofString "-").length : Nat) : Int)) none).length : Int) = ((hexS (2 ^ b.toNat - 1) 1).length : Int) ∧ ∃ cs, (Txt.slice x (some ((px.length + (Str.ofString "-").length : Nat) : Int)) none).cps.toList = 103 :: cs ∧ ∀ c ∈ cs, IsHex c
theorem not_start {px x : PySem.Str} {b : Int} (hl : x.length ≤ 60) (h : Txt.startswith x (px ++ Str.ofString "-") = false) : NotName px b x :=
  by
  refine ⟨hl, ?_, delR_pre h⟩
  intro h' _
  rw [h] at h'; cases h'
theorem not_len {px x : PySem.Str} {q : List Nat} {b : Int} (hx : x.cps.toList = px.cps.toList ++ 45 :: q) (hl : px.length + 1 + q.length ≤ 60) (h1 : 1 ≤ b) (h32 : b ≤ 32) (hq : q.length ≠ sufL b) : NotName px b x := by
  refine ⟨by rw [gl_len hx]; exact hl, fun _ hl' => ?_, ?_⟩
  · rw [gl_slice_len hx, sufL_len h1 h32] at hl'
    exact absurd (Int.ofNat.inj hl') hq
  · have hne : ¬ ((q.length : Int) = (sufL b : Int)) := fun e => hq (Int.ofNat.inj e)
    rw [delR_gl hx, sufL_len h1 h32, decide_eq_false hne, Bool.false_and]
/-- beyond the last bin -/
theorem not_big (px : PySem.Str) {b n : Int} (hp : px.length ≤ 10) (h1 : 1 ≤ b) (h32 : b ≤ 32) (h : 2 ^ b.toNat ≤ n) (hn : n < 16 ^ sufL b) : NotName px b (nameV px b n) := by
  have h0 : (0 : Int) ≤ n := Int.le_trans (Int.le_of_lt (Int.pow_pos (by decide))) h
  have hs := (sufL_small h1 h32).2
  refine ⟨by rw [nameV_len]; omega, nameV_reads px n h1 h32, ?_⟩
  rw [delR_gl (nameV_list px b n), sufG_list_len, sufL_len h1 h32, decide_eq_true rfl, Bool.true_and]
  refine decide_eq_false ?_
  rw [hexV_sufG h0, Int.emod_eq_of_lt h0 hn]
  omega
/-- without the stroke -/
theorem not_stroke {px : PySem.Str} {b : Int} {c : Nat} {q : List Nat} {x : PySem.Str} (hx : x.cps.toList = px.cps.toList ++ c :: q) (hl : x.length ≤ 60) (hc : c ≠ 45) : NotName px b x := by
  refine not_start hl ?_
  have hlen : x.length = px.length + 1 + q.length := by
    have := congrArg List.length hx
    rw [List.length_append, List.length_cons, len_list, len_list] at this
    omega
  rw [starts_eq _ _ (by rw [hlen, pdash_len]; omega), pdash_len, dash_list, hx]
  have e : px.cps.toList ++ c :: q = (px.cps.toList ++ [c]) ++ q := by simp
  rw [e, List.take_left' (by rw [List.length_append, len_list]; rfl)]
  rw [beq_eq_false_iff_ne]
  intro h
  have := List.append_cancel_left h
  simp at this
  exact hc this
/-- another sign ahead -/
theorem not_ahead {px : PySem.Str} {b : Int} {c d : Nat} {q r : List Nat} {x : PySem.Str} (hx : x.cps.toList = c :: q) (hl : x.length ≤ 60) (hpx : px.cps.toList ++ [45] = d :: r) (hc : c ≠ d) : NotName px b x := by
  refine not_start hl ?_
  by_cases hle : (px ++ Str.ofString "-").length ≤ x.length
  · rw [starts_eq _ _ hle, pdash_len, dash_list, hx, hpx, beq_eq_false_iff_ne, List.take_succ_cons]
    intro h
    exact hc (List.cons.inj h).1
  · unfold Txt.startswith
    rw [decide_eq_false (by omega), Bool.false_and]
theorem bad_name {px x : PySem.Str} {q : List Nat} {b : Int} (hx : x.cps.toList = px.cps.toList ++ 45 :: 103 :: q) (hl : px.length ≤ 10) (h1 : 1 ≤ b) (h32 : b ≤ 32) (hq : q.length + 1 = sufL b) (hh : ∀ c ∈ q, IsHex c) : BadName px b x := by
  have hs := (sufL_small h1 h32).2
  refine ⟨by rw [gl_len hx, List.length_cons]; omega, gl_start hx, ?_, q, gl_slice hx, hh⟩
  rw [gl_slice_len hx, sufL_len h1 h32, List.length_cons, hq]
/-- the number of a digest's first bits -/
theorem foldl_num (ys : List Int) : ∀ a : Int, ys.foldl (fun n b => 2 * n + b) a = a * 2 ^ ys.length + ys.foldl (fun n b => 2 * n + b) 0 := by
  induction ys with
  | nil => intro a; simp
  | cons y r ih =>
    intro a
    rw [List.foldl_cons, List.foldl_cons, ih, ih (2 * 0 + y), List.length_cons, Int.pow_succ, Int.add_mul]
    have e : 2 * a * 2 ^ r.length = a * (2 ^ r.length * 2) := by rw [Int.mul_comm 2 a, Int.mul_assoc, Int.mul_comm 2 (2 ^ r.length)]
    rw [e, Int.mul_zero, Int.zero_add]
    omega
theorem numS_app (xs ys : List Int) : numS (xs ++ ys) = numS xs * 2 ^ ys.length + numS ys := by
  unfold numS
  rw [List.foldl_append, foldl_num]
theorem numS_bnd : ∀ (ys : List Int), (∀ y ∈ ys, 0 ≤ y ∧ y ≤ 1) → 0 ≤ numS ys ∧ numS ys < 2 ^ ys.length := by
  intro ys
  induction ys with
  | nil => intro _; exact ⟨Int.le_refl _, by decide⟩
  | cons y r ih =>
    intro h
    have i := ih fun z hz => h z (.tail _ hz)
    have y1 := h y (.head _)
    have e : numS (y :: r) = y * 2 ^ r.length + numS r := by
      have := numS_app [y] r
      rw [List.singleton_append] at this
      rw [this]
      have e1 : numS [y] = y := by show 2 * 0 + y = y; omega
      rw [e1]
    have p : (0 : Int) < 2 ^ r.length := Int.pow_pos (by decide)
    rw [e, List.length_cons, Int.pow_succ]
    have : y = 0 ∨ y = 1 := by omega
    rcases this with rfl | rfl
    · rw [Int.zero_mul]; omega
    · rw [Int.one_mul]; omega
theorem bit4_nat : ∀ c, c < 103 → (48 ≤ c ∧ c ≤ 57) ∨ (97 ≤ c ∧ c ≤ 102) → (∀ y ∈ bit4 c, 0 ≤ y ∧ y ≤ 1) ∧ numS (bit4 c) = ((hexD c : Nat) : Int) := by decide +kernel
theorem bit4_01 {c : Nat} (h : IsHex c) : (∀ y ∈ bit4 c, 0 ≤ y ∧ y ≤ 1) ∧ numS (bit4 c) = ((hexD c : Nat) : Int) := bit4_nat c (hex_lt h) h
theorem bitsL_01 : ∀ {cs : List Nat}, (∀ c ∈ cs, IsHex c) → ∀ y ∈ bitsL cs, 0 ≤ y ∧ y ≤ 1 := by
  intro cs h y hy
  unfold bitsL at hy
  obtain ⟨c, hc, hyc⟩ := List.mem_flatMap.mp hy
  exact (bit4_01 (h c hc)).1 y hyc
theorem numS_bitsL : ∀ {cs : List Nat}, (∀ c ∈ cs, IsHex c) → numS (bitsL cs) = ((hexV cs : Nat) : Int) := by
  intro cs
  induction cs with
  | nil => intro _; rfl
  | cons c r ih =>
    intro h
    have e : bitsL (c :: r) = bit4 c ++ bitsL r := rfl
    have e1 : hexV (c :: r) = hexD c * 16 ^ r.length + hexV r := by
      have := hexV_app [c] r
      rw [List.singleton_append] at this
      rw [this]
      have e2 : hexV [c] = hexD c := by show 0 * 16 + hexD c = hexD c; omega
      rw [e2]
    rw [e, numS_app, (bit4_01 (h c (.head _))).2, ih fun z hz => h z (.tail _ hz), e1, bitsL_length, Int.natCast_add, Int.natCast_mul, Int.pow_mul]
    have e3 : ((16 ^ r.length : Nat) : Int) = (2 ^ 4) ^ r.length := by rw [Int.natCast_pow]; rfl
    rw [e3]
theorem numS_take {D : Int} (h0 : 0 ≤ D) (h1 : D < 4294967291) {b : Int} (hb0 : 0 ≤ b) (hb : b ≤ 32) : numS ((bitsL (sufG D 8).cps.toList).take b.toNat) = D.fdiv (2 ^ (32 - b).toNat) := by
  have hx := sufG_hex D 8
  have hl : (bitsL (sufG D 8).cps.toList).length = 32 := by rw [bitsL_length, sufG_list_len]
  have ha := numS_bitsL hx
  rw [hexV_sufG h0 8, Int.emod_eq_of_lt h0 (Int.lt_trans h1 (by decide))] at ha
  have h01 := bitsL_01 hx
  generalize bitsL (sufG D 8).cps.toList = bs at ha hl h01
  have hsplit := numS_app (bs.take b.toNat) (bs.drop b.toNat)
  rw [List.take_append_drop, ha, List.length_drop, hl] at hsplit
  have hd := numS_bnd (bs.drop b.toNat) fun y hy => h01 y (List.mem_of_mem_drop hy)
  rw [List.length_drop, hl] at hd
  have e : 32 - b.toNat = (32 - b).toNat := by omega
  rw [e] at hsplit hd
  have p : (0 : Int) < 2 ^ (32 - b).toNat := Int.pow_pos (by decide)
  rw [Int.fdiv_eq_ediv_of_nonneg _ (Int.le_of_lt p), hsplit, Int.add_comm, Int.add_mul_ediv_right _ _ (Int.ne_of_gt p), Int.ediv_eq_zero_of_lt hd.1 hd.2, Int.zero_add]
theorem finer_half {D b : Int} (hb1 : 1 ≤ b) (hb : b < 32) : (D.fdiv (2 ^ (32 - (b + 1)).toNat)).fdiv 2 = D.fdiv (2 ^ (32 - b).toNat) := by
  have p : (0 : Int) < 2 ^ (32 - b).toNat := Int.pow_pos (by decide)
  have p' : (0 : Int) < 2 ^ (32 - (b + 1)).toNat := Int.pow_pos (by decide)
  rw [Int.fdiv_eq_ediv_of_nonneg _ (Int.le_of_lt p), Int.fdiv_eq_ediv_of_nonneg _ (Int.le_of_lt p'), Int.fdiv_eq_ediv_of_nonneg _ (by decide), Int.ediv_ediv_of_nonneg (Int.le_of_lt p')]
  have e : (32 - b).toNat = (32 - (b + 1)).toNat + 1 := by omega
  rw [e, Int.pow_succ]
end Jl
end
section
open PySem PySem.W PySem.Spec PySem.Calls PyProof.Rows
open PyProof.Rows.LCg PyProof.Rows.LCt
namespace Jl
local macro_rules | `(tactic| walk_at "call type:list") => `(tactic| refine stop_here ?_)
local macro_rules | `(tactic| walk_at "eval ListComp") => `(tactic| refine stop_here ?_)
theorem nameV_ascii {px : PySem.Str} (hpx : ∀ c ∈ px.cps.toList, c < 128) (b i : Int) : ∀ c ∈ (nameV px b i).cps.toList, c < 128 := by
  intro c hc
  unfold nameV at hc
  rw [cps_app, cps_app] at hc
  rcases List.mem_append.mp hc with hc | hc
  · rcases List.mem_append.mp hc with hc | hc
    · exact hpx c hc
    · have e : (Str.ofString "-").cps.toList = [45] := by decide +kernel
      rw [e] at hc
      have := List.mem_singleton.mp hc
      omega
  · have := sufG_hex i (sufL b) c hc
    unfold IsHex at this; omega
theorem nameV_ok {px : PySem.Str} (hpx : ∀ c ∈ px.cps.toList, c < 128) (b i : Int) : PySem.W.kqdOk 8 (PySem.W.Dat.str (nameV px b i)) = true := by
  have h := nameV_ascii hpx b i
  unfold PySem.W.kqdOk PyData.strOk
  rw [← Array.all_toList, List.all_eq_true]
  intro c hc
  have := h c hc
  exact decide_eq_true (by omega)
theorem ne_same {prog : Program} {w : World} {A : Around} {E : Value → Shared → Prop} {s : Shared} {Q : Value → Shared → Prop} {h₀ : Heap} {L a b : Addr} {oa ob : Obj} {xs ys : List Value} {ka kb : Nat} {ds : List PySem.W.Dat} {news : List (Addr × Obj)}
    (N : News h₀ L s.heap news) (ma : (a, oa) ∈ news) (ca : oa.cls = .type "list") (da : oa.data = .seq xs.toArray ka) (Da : PySem.W.DatAll [] xs ds)
    (mb : (b, ob) ∈ news) (cb : ob.cls = .type "list") (db : ob.data = .seq ys.toArray kb) (Db : PySem.W.DatAll [] ys ds)
    (hk : ∀ d ∈ ds, PySem.W.kqdOk 8 d = true) (hu : A.units + 64 < cLine) (h : Q (.bool false) s) : wpAny (model prog w) A (compareOp .NotEq (.ref a) (.ref b)) Q E s := by
  refine PySem.W.kqd_ne N ma ca da Da (fun p hp => nomatch hp) mb cb db Db (fun p hp => nomatch hp) hk hk hu ?_
  simpa using h
theorem news_swap {h₀ : Heap} {L : Addr} {h : Heap} (as bs l : List (Addr × Obj)) (N : News h₀ L h (as ++ (bs ++ l))) : News h₀ L h (bs ++ (as ++ l)) := fun p hp => N p (by
  simp only [List.mem_append] at hp ⊢
  rcases hp with h | h | h
  · exact .inr (.inl h)
  · exact .inl h
  · exact .inr (.inr h))
theorem gready_fn {w : World} {A : Around} {h₀ : Heap} {L : Addr} {m : Str → Option Value} {news : List (Addr × Obj)} {nm : Nat → PySem.Str} {N : Nat} {ga : Addr} {s₁ : Shared} (G : GenReady w A h₀ L m news nm N ga s₁) : Fr h₀ L s₁.heap m ∧ News h₀ L s₁.heap news := by
  obtain ⟨_, _, _, _, _, F1, N1, _⟩ := G
  exact ⟨F1, N1⟩
variable {w : World} {p : Program} {loose : List Str} {mean : ExcName → Option Value} {mg mb : Str → Option Value} {h₀ : Heap} {L fa : Addr} {cd : Value} {m : Str → Option Value} {s : Shared} {Q : Flow → Shared → Prop} {E : Value → Shared → Prop} {news : List (Addr × Obj)}
set_option maxRecDepth 100000 in
set_option maxHeartbeats 8000000 in
theorem law_if6 (B : Below callerA h₀ [] h₀) (X : (hdJ.heap_39 w.params).In h₀) (T : Top p loose mean mg mb h₀)
  (rx rd kid D : Addr) (es : List DictEntry) (o4 : Obj) (b : Int) (px : PySem.Str) (R : RolesAre w kid b px es) (hb1 : 1 ≤ b) (hb7 : b < 7) (hp : px.length ≤ 10) (hpx : ∀ c ∈ px.cps.toList, c < 128) (h4 : o4.data = Data.cell (some (.ref rx)))
  (F : Fr h₀ L s.heap (fun y => if y = Str.ofString "due" then some (.ref D) else m y)) (ys : List Value)
  (N : News h₀ L s.heap ((rx, instObj 139 rd) :: (rd, dictOf es 7) :: (D, lst ys) :: (L + 1 + 1 + 1 + 1, o4) :: news)) (Nn : Nat) (hN : (Nn : Int) = 2 ^ b.toNat)
  (hl : ys.length = Nn) (hv : ∀ (j : Nat) (v : Value), ys[j]? = some v → ∃ t, v = Value.str (nameV px b (j : Int)) t) (hbare : ∀ y ∈ s.gens, y.bare = true)
  (hret : ∀ h' g' tk', Fr h₀ L h' (fun y => if y = Str.ofString "due" then some (.ref D) else m y) → News h₀ L h' ((rx, instObj 139 rd) :: (rd, dictOf es 7) :: (D, lst ys) :: (L + 1 + 1 + 1 + 1, o4) :: news) → (∀ y ∈ g', y.bare = true) → Q .next {s with heap := h', gens := g', toks := tk'}) :
  wpAny (model PySem.Challenge.rw_je0040_01.row.prog w) (callerA.deeper (lawEnv L fa cd)) (exec (ifSt 6 1) (lawEnv L fa cd)) Q E s := by
  have hN64 : Nn ≤ 64 := by
    have h1 : (2 : Int) ^ b.toNat = ((2 ^ b.toNat : Nat) : Int) := by rw [Int.natCast_pow]; rfl
    have h2 : 2 ^ b.toNat ≤ 2 ^ 6 := Nat.pow_le_pow_right (by decide) (by omega)
    omega
  have R0 := R
  have N0 := N
  obtain ⟨ur, kk, hes⟩ := R
  rw [hes] at N
  k_with_none
  revert X
  k_fill
  intro X
  unfold lawEnv
  conv => arg 3; arg 1; whnf
  generalize hsc : lawScope = sc
  conv at hsc => lhs; whnf
  subst hsc
  k_steps
  unfold Stop
  refine' gen_call rx rd kid es b px R0 ?qB ?qF ?qX ?qN ?qT ?qk ?qd ?qu hbare hp hb1 (by omega) Nn hN ?_
  case qB => exact B
  case qF => exact F
  case qX => exact X
  case qN => exact N0
  case qT => exact T
  case qk => exact rfl
  case qd => decide
  case qu => decide
  intro ga s1 G hdr hos
  obtain ⟨hp1, g1, d1, tk1, os1⟩ := s1
  dsimp only at hdr hos
  subst hdr; subst hos
  obtain ⟨F1, N1⟩ := gready_fn G
  (try dsimp only at F1 N1)
  clear N N0 F
  rw [hes] at N1
  (try dsimp only); (try k_fold)
  k_steps
  unfold Stop
  refine list_ready G (by omega) fun D2 acc c h2 g2 tk2 F2 N2 lt2 hb2 hit => ?_
  clear G F1 N1
  have N2' := N2
  rw [hes] at N2
  (try dsimp only); (try k_fold)
  k_steps
  unfold Stop
  have da := dat_texts (fun i => nameV px b (i : Int)) acc.toList 0 (fun j v e => by
    rw [Nat.zero_add]
    exact hit.2 j v (by rw [← Array.getElem?_toList]; exact e))
  have db := dat_texts (fun i => nameV px b (i : Int)) ys 0 (fun j v e => by rw [Nat.zero_add]; exact hv j v e)
  rw [Array.length_toList, hit.1] at da
  rw [hl] at db
  have hok : ∀ d ∈ (List.range' 0 Nn).map (fun (i : Nat) => PySem.W.Dat.str (nameV px b (i : Int))), PySem.W.kqdOk 8 d = true := fun d hd => by
    obtain ⟨i, _, rfl⟩ := List.mem_map.mp hd
    exact nameV_ok hpx b i
  refine ne_same N2' (.head _) rfl (show Data.seq acc c = Data.seq acc.toList.toArray c by simp) da (.tail _ (.tail _ (.tail _ (.head _)))) rfl rfl db hok (show callerA.units + 3 + 64 < cLine by decide) ?_
  (try dsimp only); (try k_fold)
  k_steps
  unfold Stop
  k_dflt (refine LCt.ListComp_T (F₀ := by k_asm) (by with_unfolding_all rfl) (by decide) (by rfl) (by decide) (by rfl) ?_)
  refine wpAny_mono (Q := fun v s' => Stop (∃ h' tk', s' = { s with heap := h', gens := g2, toks := tk' } ∧ v = .ref D ∧ Fr h₀ L h' (fun y => if y = Str.ofString "due" then some (.ref D) else m y) ∧ News h₀ L h' ((rx, instObj 139 rd) :: (rd, dictOf es 7) :: (D, lst ys) :: (L + 1 + 1 + 1 + 1, o4) :: news))) ?_ (fun v s' h => ?_) (fun _ _ x => x)
  · k_steps
    unfold Stop
    refine ⟨_, _, rfl, rfl, by assumption, ?_⟩
    exact fun p hp => N2' p (.tail _ hp)
  obtain ⟨h3, tk3, rfl, rfl, F3, N3⟩ := h
  have hsz : ys.toArray.size ≤ sizeLine := by rw [List.size_toArray, hl, sizeLine_eq]; omega
  refine CompSrcT.ledger (ax := D) (its := ys.toArray) (k := ys.length) rfl F3 N3 (.tail _ (.tail _ (.head _))) hsz fun g => ?_
  refine compRestT_none ys.toArray.size _ ?turn (.inr ⟨_, .tail _ (.tail _ (.head _)), rfl, _, rfl⟩) ?fin _ 0 (Nat.zero_add _)
  case fin =>
    intro D3 h' tk' F' N' o1
    have N6 := N'
    (try dsimp only); (try k_fold)
    k_steps
    unfold Stop
    rename_i l5 h5 F5 N5 _
    refine ne_same (xs := []) (ys := []) (ka := 0) (kb := 0) (ds := []) N5 (.tail _ (.head _)) rfl rfl .nil (.head _) rfl rfl .nil (fun d hd => nomatch hd) (show callerA.units + 3 + 64 < cLine by decide) ?_
    (try dsimp only); (try k_fold)
    k_steps
    exact hret h5 g2 _ F5 (fun p hp => N5 p (.tail _ (.tail _ hp))) hb2
  case turn =>
    intro i hi v I oI C oC D3 m₂ h tk E' hv' hC hx F4 N4 off ne
    obtain ⟨tv, rfl⟩ : ∃ t, v = Value.str (nameV px b (i : Int)) t := hv i v (by rw [← hv']; exact (List.getElem?_toArray).symm)
    have off0 := off
    (try simp only [LCg.Off3] at off)
    have hi64 : (i : Int) < 2 ^ b.toNat := by rw [List.size_toArray, hl] at hi; omega
    have hdel := nameV_del px hb1 (show b ≤ 32 by omega) (show 0 ≤ (i : Int) by omega) hi64
    have hnl := nameV_len px (b := b) (i : Int)
    have hs8 := sufL_small hb1 (show b ≤ 32 by omega)
    have hrd := nameV_reads px (i : Int) hb1 (show b ≤ 32 by omega)
    rw [hes] at N4
    (try dsimp only); (try k_fold)
    k_steps
    unfold Stop
    have N40 := N4
    rw [← hes] at N40
    have N5 : News h₀ L h ((rx, instObj 139 rd) :: (rd, dictOf es 7) :: (I, oI) :: (C, oC) :: (D3, lst []) :: (D, lst ys) :: (L + 1 + 1 + 1 + 1, o4) :: news) := news_swap [(I, oI), (C, oC), (D3, lst [])] [(rx, instObj 139 rd), (rd, dictOf es 7)] _ N40
    refine del_call rx rd kid es b px R0 B F4 X N5 T rfl (by decide) (by decide) (nameV px b (i : Int)) _ (by omega) hp hrd ?_
    intro h6 tk6 F6 N6
    clear N5 N4 N40 F4
    rw [hdel]
    have N7 := news_swap [(rx, instObj 139 rd), (rd, dictOf es 7)] [(I, oI), (C, oC), (D3, lst [])] _ N6
    (try dsimp only); (try k_fold)
    k_steps
    · exact F6
    · exact N7
end Jl
end
section
open PySem PySem.W PyProof.Rows
namespace Jl
variable {w : World} {p : Program} {loose : List Str} {mean : ExcName → Option Value} {mg mb : Str → Option Value} {h₀ : Heap} {L fa : Addr} {cd : Value} {m : Str → Option Value} {s : Shared} {Q : Flow → Shared → Prop} {E : Value → Shared → Prop} {news : List (Addr × Obj)}
set_option maxRecDepth 100000 in
set_option maxHeartbeats 8000000 in
theorem law_s5 (B : Below callerA h₀ [] h₀) (F : Fr h₀ L s.heap m) (X : (hdJ.heap_39 w.params).In h₀) (T : Top p loose mean mg mb h₀)
  (rx rd kid : Addr) (es : List DictEntry) (b : Int) (px : PySem.Str) (o2 o4 : Obj) (u2 : Tok) (R : RolesAre w kid b px es) (hb1 : 1 ≤ b) (hb32 : b ≤ 32)
  (N : News h₀ L s.heap ((rx, instObj 139 rd) :: (rd, dictOf es 7) :: (L + 1 + 1 + 1 + 1, o4) :: (L + 1 + 1, o2) :: news)) (h2 : o2.data = Data.cell (some (.int b u2))) (h4 : o4.data = Data.cell (some (.ref rx)))
  (hret : ∀ h' tk', Fr h₀ L h' m → News h₀ L h' ((rx, instObj 139 rd) :: (rd, dictOf es 7) :: (L + 1 + 1 + 1 + 1, o4) :: (L + 1 + 1, o2) :: news) → Q .next {s with heap := h', toks := tk'}) :
  wpAny (model PySem.Challenge.rw_je0040_01.row.prog w) (callerA.deeper (lawEnv L fa cd)) (exec (lawSt 5) (lawEnv L fa cd)) Q E s := by
  obtain ⟨ur, kk, rfl⟩ := R
  have hpw := pow2_bnd b hb32
  k_with_none
  revert X
  k_fill
  intro X
  unfold lawEnv
  conv => arg 3; arg 1; whnf
  generalize hsc : lawScope = sc
  conv at hsc => lhs; whnf
  subst hsc
  k_steps
  · exact absurd rfl (by assumption)
  · exact hret _ _ F N
noncomputable def ifTest : Stmt → Expr
  | .If t _ _ _ => t
  | _ => .Constant .none 0 default
noncomputable def ifElse : Stmt → List Stmt
  | .If _ _ o _ => o
  | _ => []
set_option maxRecDepth 100000 in
set_option maxHeartbeats 8000000 in
theorem law_s6t {Q : Bool → Shared → Prop} (B : Below callerA h₀ [] h₀) (F : Fr h₀ L s.heap m) (X : (hdJ.heap_39 w.params).In h₀) (T : Top p loose mean mg mb h₀)
  (o2 : Obj) (b : Int) (tb : Tok) (h2 : o2.data = Data.cell (some (.int b tb)))
  (N : News h₀ L s.heap ((L + 1 + 1, o2) :: news))
  (hret : ∀ h' tk', Fr h₀ L h' m → News h₀ L h' ((L + 1 + 1, o2) :: news) → Q (decide (b < 7)) {s with heap := h', toks := tk'}) :
  wpAny (model PySem.Challenge.rw_je0040_01.row.prog w) (callerA.deeper (lawEnv L fa cd)) (isTrue (ifTest (lawSt 6)) (lawEnv L fa cd) (eval (ifTest (lawSt 6)) (lawEnv L fa cd))) Q E s := by
  k_with_none
  revert X
  k_fill
  intro X
  generalize hte : ifTest (lawSt 6) = te
  conv at hte => lhs; whnf
  subst hte
  unfold lawEnv
  generalize hsc : lawScope = sc
  conv at hsc => lhs; whnf
  subst hsc
  k_steps
  exact hret _ _ F N
theorem law_s6_shape : ∃ pos, lawSt 6 = .If (ifTest (lawSt 6)) [ifSt 6 0, ifSt 6 1] [] pos := ⟨_, by with_unfolding_all rfl⟩
theorem due_swap {m : Str → Option Value} {D fx : Addr} : (fun y => if y = Str.ofString "due" then some (Value.ref D) else if y = Str.ofString "finer" then some (.ref fx) else m y) = (fun y => if y = Str.ofString "finer" then some (.ref fx) else if y = Str.ofString "due" then some (Value.ref D) else m y) := by
  funext y
  by_cases h : y = Str.ofString "due"
  · subst h
    rw [if_pos rfl, if_neg (by decide +kernel), if_pos rfl]
  · rw [if_neg h, if_neg h]
theorem law_s6 (B : Below callerA h₀ [] h₀) (X : (hdJ.heap_39 w.params).In h₀) (T : Top p loose mean mg mb h₀)
  (rx rd kid fx : Addr) (es : List DictEntry) (o2 o3 o4 : Obj) (b : Int) (tb tp : Tok) (px : PySem.Str) (R : RolesAre w kid b px es) (hb1 : 1 ≤ b) (hp : px.length ≤ 10) (hpx : ∀ c ∈ px.cps.toList, c < 128) (h2 : o2.data = Data.cell (some (.int b tb))) (h3 : o3.data = Data.cell (some (.str px tp))) (h4 : o4.data = Data.cell (some (.ref rx)))
  (F : Fr h₀ L s.heap (fun y => if y = Str.ofString "finer" then some (.ref fx) else m y))
  (N : News h₀ L s.heap ((rx, instObj 139 rd) :: (rd, dictOf es 7) :: (L + 1 + 1 + 1 + 1, o4) :: (L + 1 + 1 + 1, o3) :: (L + 1 + 1, o2) :: news)) (hbare : ∀ y ∈ s.gens, y.bare = true)
  (hret : ∀ (m' : Str → Option Value) h' g' tk', Fr h₀ L h' (fun y => if y = Str.ofString "finer" then some (.ref fx) else m' y) → News h₀ L h' ((rx, instObj 139 rd) :: (rd, dictOf es 7) :: (L + 1 + 1 + 1 + 1, o4) :: (L + 1 + 1 + 1, o3) :: (L + 1 + 1, o2) :: news) → (∀ y ∈ g', y.bare = true) → Q .next {s with heap := h', gens := g', toks := tk'}) :
  wpAny (model PySem.Challenge.rw_je0040_01.row.prog w) (callerA.deeper (lawEnv L fa cd)) (exec (lawSt 6) (lawEnv L fa cd)) Q E s := by
  obtain ⟨pos, e⟩ := law_s6_shape
  rw [e]
  refine wpAny_If ?_
  refine law_s6t B F X T o2 b tb h2 (news := (rx, instObj 139 rd) :: (rd, dictOf es 7) :: (L + 1 + 1 + 1 + 1, o4) :: (L + 1 + 1 + 1, o3) :: news) (by have N' := news_pickT [4, 0, 1, 2, 3] 5 N; exact N') fun h1 tk1 F1 N1 => ?_
  by_cases hb7 : b < 7
  · rw [decide_eq_true hb7, if_pos rfl]
    obtain ⟨Nn, hN⟩ : ∃ Nn : Nat, (Nn : Int) = 2 ^ b.toNat := ⟨2 ^ b.toNat, by rw [Int.natCast_pow]; rfl⟩
    refine wpAny_execs_cons ?_
    refine law_due B F1 X T o2 o3 b tb px tp hb1 hb7 hp h2 h3 (news := (rx, instObj 139 rd) :: (rd, dictOf es 7) :: (L + 1 + 1 + 1 + 1, o4) :: news) (by have N' := news_pickT [4, 0, 1, 2, 3] 5 N1; exact N') Nn hN fun D ys h2 tk2 F2 N2 off2 hl hv => ?_
    refine wpAny_execs_cons ?_
    refine law_if6 B X T rx rd kid D es o4 b px R hb1 hb7 hp hpx h4 F2 ys (news := (L + 1 + 1 + 1, o3) :: (L + 1 + 1, o2) :: news) (by have N' := news_pickT [3, 4, 0, 5, 1, 2] 6 N2; exact N') Nn hN hl hv hbare fun h3 g3 tk3 F3 N3 hb3 => ?_
    refine wpAny_execs_nil ?_
    rw [due_swap] at F3
    exact hret _ h3 g3 tk3 F3 (by have N' := news_pickT [0, 1, 3, 4, 5] 6 N3; exact N') hb3
  · rw [decide_eq_false hb7, if_neg (by decide)]
    refine wpAny_execs_nil ?_
    exact hret m h1 s.gens tk1 F1 (by have N' := news_pickT [1, 2, 3, 4, 0] 5 N1; exact N') hbare
end Jl
end
section
open PySem PySem.W PyProof.Rows
namespace Jl
noncomputable def forSt (j : Nat) : Stmt := (bodyOfFor (lawSt 7)).getD j (.Pass default)
noncomputable def for8St (j : Nat) : Stmt := (bodyOfFor (lawSt 8)).getD j (.Pass default)
end Jl
end
section
open PySem PySem.W PySem.Spec PySem.Calls PyProof.Rows
open PyProof.Rows.LCg PyProof.Rows.LCt
namespace Jl
theorem stop_range {M : Model} {A : Around} {Q E : Value → Shared → Prop} {s : Shared} {pos : Pos} {sc : Scope} {cl : List (Str × Addr)} {C : Addr} {env : Env} (h : Stop (wpAny M A (eval (.Name (Str.ofString "range") pos) (compEnvC sc cl C env)) Q E s)) : wpAny M A (eval (.Name (Str.ofString "range") pos) (compEnvC sc cl C env)) Q E s := h
local macro_rules | `(tactic| walk_at "eval ListComp") => `(tactic| refine stop_here ?_)
local macro_rules | `(tactic| walk_at "eval Name") => `(tactic| (with_reducible refine stop_range ?_))
local macro_rules | `(tactic| walk_at "call builtin:str.join") => `(tactic| refine stop_here ?_)
variable {w : World} {p : Program} {loose : List Str} {mean : ExcName → Option Value} {mg mb : Str → Option Value} {h₀ : Heap} {L fa : Addr} {cd : Value} {m : Str → Option Value} {s : Shared} {Q : Flow → Shared → Prop} {E : Value → Shared → Prop} {news : List (Addr × Obj)}
set_option maxRecDepth 100000 in
set_option maxHeartbeats 8000000 in
theorem turn_path (B : Below callerA h₀ [] h₀) (F : Fr h₀ L s.heap m) (X : (hdJ.heap_39 w.params).In h₀) (T : Top p loose mean mg mb h₀)
  (d r : Addr) (od o1 : Obj) (vs : List Value) (n : Nat) (ns : List Int) (at0 : Int) (hds : (d == sysModules) = false) (hI : IntsAre vs ns) (hlen : ns.length ≤ 72) (h1 : o1.data = Data.cell (some (.ref d)))
  (D : WD w r od at0) (ha0 : 0 ≤ at0) (ha1 : at0 ≤ 900) (hrd : @Ne Nat r d) (hLd : @Ne Nat (L + 1) d) (hnd : ∀ p ∈ news, p.1 ≠ d)
  (N : News h₀ L s.heap ((d, od) :: (r, PySem.W.listOf vs.toArray n) :: (L + 1, o1) :: news))
  (hret : ∀ x t od' at' h' tk', Fr h₀ L h' (fun y => if y = Str.ofString "path" then some (.str x t) else m y) → News h₀ L h' ((d, od') :: (r, PySem.W.listOf vs.toArray n) :: (L + 1, o1) :: news) → WD w r od' at' → at0 ≤ at' → at' ≤ at0 + 9 → x.length ≤ 60 → (∀ c ∈ x.cps.toList, c < 128) → Q .next {s with heap := h', toks := tk'}) :
  wpAny (model PySem.Challenge.rw_je0040_01.row.prog w) (callerA.deeper (lawEnv L fa cd)) (exec (forSt 0) (lawEnv L fa cd)) Q E s := by
  obtain ⟨u0, D⟩ := D
  have hl100 : ns.length ≤ 100 := Nat.le_trans hlen (by decide)
  k_with_none
  revert X
  k_fill
  intro X
  unfold lawEnv
  conv => arg 3; arg 1; whnf
  generalize hsc : lawScope = sc
  conv at hsc => lhs; whnf
  subst hsc
  k_steps
  unfold Stop
  k_dflt (refine LCg.ListComp_U (F₀ := by k_asm) (by with_unfolding_all rfl) (by decide) (by rfl) (by decide) (by rfl) ?_)
  refine wpAny_mono (Q := fun v s' => Stop (∃ h' rg t u v' tk' od' u' k, s' = { s with heap := h', toks := tk' } ∧ v = .ref rg ∧ IsRange h' rg 0 (1 + k) 1 t u v' ∧ 0 ≤ k ∧ k < 2 ∧ Fr h₀ L h' m ∧ News h₀ L h' ((d, od') :: (r, PySem.W.listOf vs.toArray n) :: (L + 1, o1) :: news) ∧ Obj.IsDictOf (PySem.strKind PySem.Challenge.rw_je0040_01.row.prog w) od' [(Str.ofString "row", Value.ref r), (Str.ofString "at", Value.int (at0 + 1) u')])) ?_ (fun v s' h => ?_) (fun _ _ x => x)
  · k_steps
    unfold Stop
    refine' next_call r d _ vs n ns _ at0 ?qB ?qF ?qX ?qN ?qT ?qk ?qd ?qu hds ?qne D 2 _ (by decide) (by decide) hI hl100 ha0 (Int.le_trans ha1 (by decide)) ?_
    case qB => exact B
    case qF => k_asm
    case qX => exact X
    case qN => k_asm
    case qT => exact T
    case qk => exact rfl
    case qd => decide
    case qu => decide
    case qne =>
      intro q hq
      rcases List.mem_cons.mp hq with rfl | hq
      · exact hrd
      rcases List.mem_cons.mp hq with rfl | hq
      · exact hLd
      exact hnd q hq
    intro k1 t1 h1' tk1 od1 u1 hk0 hk1 F1 N1 D1
    clear N F
    (try dsimp only); (try k_fold)
    k_steps
    all_goals first | assumption | trace_state
  obtain ⟨hh1, rg, t1, t2, t3, tk1, od1, u1, k, rfl, rfl, hr, hk0, hk1, F1, N1, D1⟩ := h
  clear N F D
  obtain ⟨k, rfl⟩ := Int.eq_ofNat_of_zero_le hk0
  have hsz : Builtin.Range.rangeSize 0 (1 + (k : Int)) 1 = ((1 + k : Nat) : Int) := by
    unfold Builtin.Range.rangeSize
    rw [if_pos (by decide), if_pos (by omega), Int.ediv_one]
    omega
  have hsm : Builtin.Range.small 0 (1 + (k : Int)) 1 = true := by
    unfold Builtin.Range.small
    rw [hsz]
    unfold Builtin.Range.rangeFitsLong
    simp
    omega
  refine CompSrc.range rfl F1 N1 hr hsm hsz (by rw [sizeLine_eq]; omega) fun g => ?_
  refine compRest_inv (1 + k) (fun i ys nx => ∃ od' at', nx = (d, od') :: (r, PySem.W.listOf vs.toArray n) :: (L + 1, o1) :: news ∧ WD w r od' at' ∧ at0 + 1 ≤ at' ∧ at' ≤ at0 + 1 + 4 * (i : Int) ∧ Texts 3 i ys) ?turn ?fin (1 + k) 0 [] _ (Nat.zero_add _) ⟨od1, at0 + 1, rfl, ⟨u1, D1⟩, by omega, by omega, texts_nil⟩
  case fin =>
    rintro ys nx ⟨od2, at2, rfl, D2, hl2, hg2, hT⟩ Dn h' tk' F' N' off
    (try dsimp only); (try k_fold)
    k_steps
    unfold Stop
    refine join_texts N' (.head _) hT (by omega) (by decide) (by exact ⟨by decide, by decide +kernel⟩) (k := 60) (show (1 + k) * (3 + 1) ≤ 60 by omega) (by decide) fun x tx tk2 hx => ?_
    (try dsimp only); (try k_fold)
    k_steps
    refine hret x tx od2 at2 _ _ (by assumption) (fun p hp => ?_) D2 (by omega) (by omega) hx.1 hx.2
    exact (by assumption : News _ _ _ ((Dn, lst ys) :: (d, od2) :: (r, PySem.W.listOf vs.toArray n) :: (L + 1, o1) :: news)) p (.tail _ hp)
  case turn =>
    rintro i ys nx hi ⟨od2, at2, rfl, ⟨u2, D2⟩, hl2, hg2, hT⟩ v I oI C oC D0 m₂ h tk E' hv' hC hx F2 N2 off ne
    have off0 := off
    (try simp only [LCg.Off3] at off)
    clear F1 N1 D1 hr
    (try dsimp only); (try k_fold)
    k_steps
    unfold Stop
    k_dflt (refine LCg.ListComp_U (F₀ := by k_asm) (by with_unfolding_all rfl) (by decide) (by rfl) (by decide) (by rfl) ?_)
    refine wpAny_mono (Q := fun v s' => Stop (∃ h' rg t u v' tk' od' u' k, s' = { s with heap := h', toks := tk' } ∧ v = .ref rg ∧ IsRange h' rg 0 k 1 t u v' ∧ 0 ≤ k ∧ k < 4 ∧ Fr h₀ L h' m ∧ News h₀ L h' ((I, oI) :: (C, oC) :: (D0, lst ys) :: (d, od') :: (r, PySem.W.listOf vs.toArray n) :: (L + 1, o1) :: news) ∧ Obj.IsDictOf (PySem.strKind PySem.Challenge.rw_je0040_01.row.prog w) od' [(Str.ofString "row", Value.ref r), (Str.ofString "at", Value.int (at2 + 1) u')])) ?_ (fun v s' h => ?_) (fun _ _ x => x)
    · k_steps
      unfold Stop
      refine LCgL.ld_built (by k_asm) (by k_asm) (by k_asm) (by k_is) (by boot_by_name) (by decide) ?_
      k_steps
      unfold Stop
      refine' next_call r d _ vs n ns _ at2 ?qB2 ?qF2 ?qX2 ?qN2 ?qT2 ?qk2 ?qd2 ?qu2 hds ?qne2 D2 4 _ (by decide) (by decide) hI hl100 (by omega) (by omega) ?_
      case qB2 => exact B
      case qF2 => k_asm
      case qX2 => exact X
      case qN2 => exact news_swap [(I, oI), (C, oC), (D0, lst ys)] [(d, od2), (r, PySem.W.listOf vs.toArray n)] _ N2
      case qT2 => exact T
      case qk2 => exact rfl
      case qd2 => decide
      case qu2 => decide
      case qne2 =>
        intro q hq
        rcases List.mem_cons.mp hq with rfl | hq
        · exact hrd
        rcases List.mem_cons.mp hq with rfl | hq
        · exact fun e => off.1.1 e.symm
        rcases List.mem_cons.mp hq with rfl | hq
        · exact fun e => off.1.2.1 e.symm
        rcases List.mem_cons.mp hq with rfl | hq
        · exact fun e => off.1.2.2 e.symm
        rcases List.mem_cons.mp hq with rfl | hq
        · exact hLd
        exact hnd q hq
      intro k1 t1 h1' tk1 od1 u1 hk0 hk1 F1 N1 D1
      clear N2
      replace N1 : News h₀ L h1' ((I, oI) :: (C, oC) :: (D0, lst ys) :: (d, od1) :: (r, PySem.W.listOf vs.toArray n) :: (L + 1, o1) :: news) := news_swap [(d, od1), (r, PySem.W.listOf vs.toArray n)] [(I, oI), (C, oC), (D0, lst ys)] _ N1
      (try dsimp only); (try k_fold)
      k_steps
      all_goals first | assumption | trace_state
    obtain ⟨hh2, rg2, t21, t22, t23, tk21, od3, u3, k2, rfl, rfl, hr2, hk20, hk21, F3, N4, D3⟩ := h
    clear N2 F2 D2
    obtain ⟨k2, rfl⟩ := Int.eq_ofNat_of_zero_le hk20
    have hsz2 : Builtin.Range.rangeSize 0 (k2 : Int) 1 = ((k2 : Nat) : Int) := by
      unfold Builtin.Range.rangeSize
      rw [if_pos (by decide)]
      by_cases h0 : (0 : Int) < (k2 : Int)
      · rw [if_pos h0, Int.ediv_one]; omega
      · rw [if_neg h0]; omega
    have hsm2 : Builtin.Range.small 0 (k2 : Int) 1 = true := by
      unfold Builtin.Range.small
      rw [hsz2]
      unfold Builtin.Range.rangeFitsLong
      simp
      omega
    refine CompSrc.range rfl F3 N4 hr2 hsm2 hsz2 (by rw [sizeLine_eq]; omega) fun g2 => ?_
    refine compRest_inv k2 (fun i2 ys2 nx2 => ∃ od' at', nx2 = (I, oI) :: (C, oC) :: (D0, lst ys) :: (d, od') :: (r, PySem.W.listOf vs.toArray n) :: (L + 1, o1) :: news ∧ WD w r od' at' ∧ at2 + 1 ≤ at' ∧ at' ≤ at2 + 1 + (i2 : Int) ∧ Texts 1 i2 ys2) ?turn2 ?fin2 k2 0 [] _ (Nat.zero_add _) ⟨od3, at2 + 1, rfl, ⟨u3, D3⟩, by omega, by omega, texts_nil⟩
    case fin2 =>
      rintro ys2 nx2 ⟨od4, at4, rfl, D4, hl4, hg4, hT4⟩ Dn2 h5 tk5 F5 N5 off5
      clear N4 F3
      (try dsimp only); (try k_fold)
      k_steps
      unfold Stop
      refine join_texts N5 (.head _) hT4 (by omega) (by decide) (by exact ⟨by decide, by decide +kernel⟩) (k := 3) (show k2 * (1 + 0) ≤ 3 by omega) (by decide) fun x tx tk2 hx => ?_
      (try dsimp only); (try k_fold)
      k_steps
      refine ⟨h5, _, _, rfl, F5, (fun p hp => N5 p (.tail _ hp)), off0, trivial, od4, at4, rfl, D4, by omega, by omega, texts_snoc hT hx⟩
    case turn2 =>
      rintro i2 ys2 nx2 hi2 ⟨od4, at4, rfl, ⟨u4, D4⟩, hl4, hg4, hT4⟩ v2 I2 oI2 C2 oC2 D02 m₃ h5 tk5 E2' hv2 hC2 hx2 F5 N5 off5 ne5
      have off50 := off5
      (try simp only [LCg.Off3] at off5)
      clear N4 F3 hr2
      (try dsimp only); (try k_fold)
      k_steps
      unfold Stop
      refine' next_call r d _ vs n ns _ at4 ?qB3 ?qF3 ?qX3 ?qN3 ?qT3 ?qk3 ?qd3 ?qu3 hds ?qne3 D4 3 _ (by decide) (by decide) hI hl100 (by omega) (by omega) ?_
      case qB3 => exact B
      case qF3 => k_asm
      case qX3 => exact X
      case qN3 => exact news_swap [(I2, oI2), (C2, oC2), (D02, lst ys2), (I, oI), (C, oC), (D0, lst ys)] [(d, od4), (r, PySem.W.listOf vs.toArray n)] _ N5
      case qT3 => exact T
      case qk3 => exact rfl
      case qd3 => decide
      case qu3 => decide
      case qne3 =>
        intro q hq
        rcases List.mem_cons.mp hq with rfl | hq
        · exact hrd
        rcases List.mem_cons.mp hq with rfl | hq
        · exact fun e => off5.2.2.2.1.1 e.symm
        rcases List.mem_cons.mp hq with rfl | hq
        · exact fun e => off5.2.2.2.1.2.1 e.symm
        rcases List.mem_cons.mp hq with rfl | hq
        · exact fun e => off5.2.2.2.1.2.2 e.symm
        rcases List.mem_cons.mp hq with rfl | hq
        · exact fun e => off.1.1 e.symm
        rcases List.mem_cons.mp hq with rfl | hq
        · exact fun e => off.1.2.1 e.symm
        rcases List.mem_cons.mp hq with rfl | hq
        · exact fun e => off.1.2.2 e.symm
        rcases List.mem_cons.mp hq with rfl | hq
        · exact hLd
        exact hnd q hq
      intro k5 t5 h6 tk6 od5 u5 hk50 hk51 F6 N7 D5
      clear N5
      replace N7 : News h₀ L h6 ((I2, oI2) :: (C2, oC2) :: (D02, lst ys2) :: (I, oI) :: (C, oC) :: (D0, lst ys) :: (d, od5) :: (r, PySem.W.listOf vs.toArray n) :: (L + 1, o1) :: news) := news_swap [(d, od5), (r, PySem.W.listOf vs.toArray n)] [(I2, oI2), (C2, oC2), (D02, lst ys2), (I, oI), (C, oC), (D0, lst ys)] _ N7
      (try dsimp only); (try k_fold)
      k_steps
      refine ⟨h6, _, _, rfl, F6, N7, off50, trivial, od5, at4 + 1, rfl, ⟨u5, D5⟩, by omega, by omega, texts_snoc hT4 (abc_small hk50 hk51)⟩
end Jl
end
section
open PySem PySem.W PySem.Spec PySem.Calls PyProof.Rows
open PyProof.Rows.LCg PyProof.Rows.LCt
namespace Jl
theorem if_same {m : Str → Option Value} {a : Str} {v : Value} (h : m a = some v) : m = fun y => if y = a then some v else m y := by
  funext y
  by_cases e : y = a
  · rw [if_pos e, e, h]
  · rw [if_neg e]
theorem fr_in {h₀ h : Heap} {L : Addr} {m : Str → Option Value} {a : Str} {v : Value} (F : Fr h₀ L h m) (hm : m a = some v) : Fr h₀ L h (fun y => if y = a then some v else m y) := if_same hm ▸ F
theorem fr_out {h₀ h : Heap} {L : Addr} {m : Str → Option Value} {a : Str} {v : Value} (F : Fr h₀ L h (fun y => if y = a then some v else m y)) (hm : m a = some v) : Fr h₀ L h m := by
  rw [← if_same hm] at F; exact F
theorem fr_back {h₀ h : Heap} {L : Addr} {m : Str → Option Value} {a b : Str} {v v' : Value} (F : Fr h₀ L h (fun y => if y = b then some v' else if y = a then some v else m y)) (hm : m a = some v) : Fr h₀ L h (fun y => if y = b then some v' else m y) := by
  have e : (fun y => if y = b then some v' else if y = a then some v else m y) = (fun y => if y = b then some v' else m y) := by
    funext y
    by_cases e : y = a
    · rw [if_pos e, e, hm]
    · rw [if_neg e]
  rw [e] at F; exact F
variable {w : World} {p : Program} {loose : List Str} {mean : ExcName → Option Value} {mg mb : Str → Option Value} {h₀ : Heap} {L fa : Addr} {cd : Value} {m : Str → Option Value} {s : Shared} {Q : Flow → Shared → Prop} {E : Value → Shared → Prop} {news : List (Addr × Obj)}
set_option maxRecDepth 100000 in
set_option maxHeartbeats 8000000 in
theorem turn_first (B : Below callerA h₀ [] h₀) (F : Fr h₀ L s.heap m) (X : (hdJ.heap_39 w.params).In h₀) (T : Top p loose mean mg mb h₀)
  (x : PySem.Str) (tx : Tok) (hm : m (Str.ofString "path") = some (.str x tx)) (hb : x.length ≤ 60) (hasc : ∀ c ∈ x.cps.toList, c < 128) (N : News h₀ L s.heap news)
  (hret : ∀ l vs n h' tk', Fr h₀ L h' (fun y => if y = Str.ofString "first" then some (.ref l) else m y) → News h₀ L h' ((l, PySem.W.listOf vs.toArray n) :: news) → AllLt l news → 0 ≤ digF (bytesOf x) → digF (bytesOf x) < 4294967291 → IntsAre vs (bitsL (sufG (digF (bytesOf x)) 8).cps.toList) → Q .next {s with heap := h', toks := tk'}) :
  wpAny (model PySem.Challenge.rw_je0040_01.row.prog w) (callerA.deeper (lawEnv L fa cd)) (exec (forSt 1) (lawEnv L fa cd)) Q E s := by
  have F0 := fr_in F hm
  clear F
  k_with_none
  revert X
  k_fill
  intro X
  unfold lawEnv
  conv => arg 3; arg 1; whnf
  generalize hsc : lawScope = sc
  conv at hsc => lhs; whnf
  subst hsc
  k_steps
  unfold Stop
  refine' digest_call ?qB ?qF ?qX ?qN ?qT ?qk ?qd ?qu (bytesOf x) _ _ ?qb ?_
  case qB => exact B
  case qF => k_asm
  case qX => exact X
  case qN => k_asm
  case qT => exact T
  case qk => exact rfl
  case qd => decide
  case qu => decide
  case qb => rw [bytesOf_size]; omega
  intro t1 h1 tk1 F1 N1 hd0 hd1
  clear F0 N
  have hl8 := sufG_length (digF (bytesOf x)) 8
  (try dsimp only); (try k_fold)
  k_steps
  unfold Stop
  refine' bits_call ?qB2 ?qF2 ?qX2 ?qN2 ?qT2 ?qk2 ?qd2 ?qu2 _ _ hl8 (sufG_hex _ _) ?_
  case qB2 => exact B
  case qF2 => k_asm
  case qX2 => exact X
  case qN2 => k_asm
  case qT2 => exact T
  case qk2 => exact rfl
  case qd2 => decide
  case qu2 => decide
  intro l vs n h2 tk2 F2 N2 hlt hI
  clear F1 N1
  (try dsimp only); (try k_fold)
  k_steps
  rename_i h9 F9 N9
  exact hret l vs n h9 _ (fr_back F9 hm) N9 hlt hd0 hd1 hI
end Jl
end
section
open PySem PySem.W PySem.Spec PySem.Calls PyProof.Rows
open PyProof.Rows.LCg PyProof.Rows.LCt
namespace Jl
variable {w : World} {p : Program} {loose : List Str} {mean : ExcName → Option Value} {mg mb : Str → Option Value} {h₀ : Heap} {L fa : Addr} {cd : Value} {m : Str → Option Value} {s : Shared} {Q : Flow → Shared → Prop} {E : Value → Shared → Prop} {news : List (Addr × Obj)}
set_option maxRecDepth 100000 in
set_option maxHeartbeats 8000000 in
theorem turn_number (B : Below callerA h₀ [] h₀) (F : Fr h₀ L s.heap m) (X : (hdJ.heap_39 w.params).In h₀) (T : Top p loose mean mg mb h₀)
  (l : Addr) (vs : List Value) (n : Nat) (ns : List Int) (hm : m (Str.ofString "first") = some (.ref l)) (hI : IntsAre vs ns) (hlen : ns.length = 32) (h01 : ∀ x ∈ ns, 0 ≤ x ∧ x ≤ 1)
  (o2 : Obj) (b : Int) (tb : Tok) (h2 : o2.data = Data.cell (some (.int b tb))) (hb1 : 1 ≤ b) (hb32 : b ≤ 32)
  (N : News h₀ L s.heap ((l, PySem.W.listOf vs.toArray n) :: (L + 1 + 1, o2) :: news))
  (hret : ∀ t h' tk', Fr h₀ L h' (fun y => if y = Str.ofString "number" then some (.int (numS (ns.take b.toNat)) t) else m y) → News h₀ L h' ((l, PySem.W.listOf vs.toArray n) :: (L + 1 + 1, o2) :: news) → Q .next {s with heap := h', toks := tk'}) :
  wpAny (model PySem.Challenge.rw_je0040_01.row.prog w) (callerA.deeper (lawEnv L fa cd)) (exec (forSt 2) (lawEnv L fa cd)) Q E s := by
  have F0 := fr_in F hm
  clear F
  k_with_none
  revert X
  k_fill
  intro X
  unfold lawEnv
  conv => arg 3; arg 1; whnf
  generalize hsc : lawScope = sc
  conv at hsc => lhs; whnf
  subst hsc
  k_steps
  unfold Stop
  rename_i D2 ws h4 F4 N4 hI4 _ hL4 _
  refine' num_call D2 ws 0 (ns.take b.toNat) ?qB ?qF ?qX ?qN ?qT ?qk ?qd ?qu hI4 ?ql ?qh ?_
  case qB => exact B
  case qF => exact F4
  case qX => exact X
  case qN => exact N4
  case qT => exact T
  case qk => exact rfl
  case qd => decide
  case qu => decide
  case ql => omega
  case qh => exact fun y hy => h01 y (List.mem_of_mem_take hy)
  intro t1 h5 tk1 F5 N5
  clear F4 N4
  generalize numS (ns.take b.toNat) = num at hret ⊢
  (try dsimp only); (try k_fold)
  k_steps
  rename_i h9 F9 N9
  exact hret t1 h9 _ (fr_back F9 hm) (fun p hp => N9 p (.tail _ hp))
set_option maxRecDepth 100000 in
set_option maxHeartbeats 8000000 in
theorem turn_name (B : Below callerA h₀ [] h₀) (F : Fr h₀ L s.heap m) (X : (hdJ.heap_39 w.params).In h₀) (T : Top p loose mean mg mb h₀)
  (rx rd kid : Addr) (es : List DictEntry) (o4 : Obj) (b : Int) (px : PySem.Str) (R : RolesAre w kid b px es) (hp : px.length ≤ 10) (hb1 : 1 ≤ b) (hb32 : b ≤ 32) (h4 : o4.data = Data.cell (some (.ref rx)))
  (x : PySem.Str) (tx : Tok) (hm : m (Str.ofString "path") = some (.str x tx)) (hb : x.length ≤ 60) (hasc : ∀ c ∈ x.cps.toList, c < 128)
  (N : News h₀ L s.heap ((rx, instObj 139 rd) :: (rd, dictOf es 7) :: (L + 1 + 1 + 1 + 1, o4) :: news))
  (hret : ∀ t h' tk', Fr h₀ L h' (fun y => if y = Str.ofString "name" then some (.str (roleV px b (digF (bytesOf x))) t) else m y) → News h₀ L h' ((rx, instObj 139 rd) :: (rd, dictOf es 7) :: (L + 1 + 1 + 1 + 1, o4) :: news) → Q .next {s with heap := h', toks := tk'}) :
  wpAny (model PySem.Challenge.rw_je0040_01.row.prog w) (callerA.deeper (lawEnv L fa cd)) (exec (forSt 3) (lawEnv L fa cd)) Q E s := by
  have F0 := fr_in F hm
  clear F
  have R0 := R
  obtain ⟨ur, kk, hes⟩ := R
  rw [hes] at N
  k_with_none
  revert X
  k_fill
  intro X
  unfold lawEnv
  conv => arg 3; arg 1; whnf
  generalize hsc : lawScope = sc
  conv at hsc => lhs; whnf
  subst hsc
  k_steps
  rw [← hes] at N
  unfold Stop
  refine' role_call rx rd kid es b px R0 ?qB ?qF ?qX ?qN ?qT ?qk ?qd ?qu x _ hb hasc hp hb1 hb32 ?_
  case qB => exact B
  case qF => k_asm
  case qX => exact X
  case qN => k_asm
  case qT => exact T
  case qk => exact rfl
  case qd => decide
  case qu => decide
  intro t1 h5 tk1 F5 N5 _ _
  clear F0 N
  (try dsimp only); (try k_fold)
  k_steps
  rename_i h9 F9 N9
  exact hret t1 h9 _ (fr_back F9 hm) N9
end Jl
end
section
open PySem PySem.W PySem.Spec PySem.Calls PyProof.Rows
open PyProof.Rows.LCg PyProof.Rows.LCt
namespace Jl
theorem if_two {m : Str → Option Value} {a b : Str} {v v' : Value} (h : m a = some v) (h' : m b = some v') : (fun y => if y = b then some v' else if y = a then some v else m y) = m := by
  funext y
  by_cases e : y = b
  · rw [if_pos e, e, h']
  · rw [if_neg e]
    by_cases e : y = a
    · rw [if_pos e, e, h]
    · rw [if_neg e]
theorem fr_in2 {h₀ h : Heap} {L : Addr} {m : Str → Option Value} {a b : Str} {v v' : Value} (F : Fr h₀ L h m) (hm : m a = some v) (hm' : m b = some v') : Fr h₀ L h (fun y => if y = b then some v' else if y = a then some v else m y) := (if_two hm hm').symm ▸ F
theorem fr_out2 {h₀ h : Heap} {L : Addr} {m : Str → Option Value} {a b : Str} {v v' : Value} (F : Fr h₀ L h (fun y => if y = b then some v' else if y = a then some v else m y)) (hm : m a = some v) (hm' : m b = some v') : Fr h₀ L h m := by
  rw [if_two hm hm'] at F; exact F
variable {w : World} {p : Program} {loose : List Str} {mean : ExcName → Option Value} {mg mb : Str → Option Value} {h₀ : Heap} {L fa : Addr} {cd : Value} {m : Str → Option Value} {s : Shared} {Q : Flow → Shared → Prop} {E : Value → Shared → Prop} {news : List (Addr × Obj)}
set_option maxRecDepth 100000 in
set_option maxHeartbeats 8000000 in
theorem turn_check (B : Below callerA h₀ [] h₀) (F : Fr h₀ L s.heap m) (X : (hdJ.heap_39 w.params).In h₀) (T : Top p loose mean mg mb h₀)
  (rx rd kid : Addr) (es : List DictEntry) (o2 o3 o4 : Obj) (b : Int) (tb tp : Tok) (px : PySem.Str) (R : RolesAre w kid b px es) (hp : px.length ≤ 10) (hb1 : 1 ≤ b) (hb32 : b ≤ 32) (h2 : o2.data = Data.cell (some (.int b tb))) (h3 : o3.data = Data.cell (some (.str px tp))) (h4 : o4.data = Data.cell (some (.ref rx)))
  (num : Int) (tn tm : Tok) (hm1 : m (Str.ofString "number") = some (.int num tn)) (hm2 : m (Str.ofString "name") = some (.str (nameV px b num) tm)) (hn0 : 0 ≤ num) (hn1 : num < 2 ^ b.toNat)
  (N : News h₀ L s.heap ((rx, instObj 139 rd) :: (rd, dictOf es 7) :: (L + 1 + 1 + 1 + 1, o4) :: (L + 1 + 1 + 1, o3) :: (L + 1 + 1, o2) :: news))
  (hret : ∀ h' tk', Fr h₀ L h' m → News h₀ L h' ((rx, instObj 139 rd) :: (rd, dictOf es 7) :: (L + 1 + 1 + 1 + 1, o4) :: (L + 1 + 1 + 1, o3) :: (L + 1 + 1, o2) :: news) → Q .next {s with heap := h', toks := tk'}) :
  wpAny (model PySem.Challenge.rw_je0040_01.row.prog w) (callerA.deeper (lawEnv L fa cd)) (exec (forSt 4) (lawEnv L fa cd)) Q E s := by
  have F0 := fr_in2 F hm1 hm2
  clear F
  have R0 := R
  have hdel := nameV_del px hb1 hb32 hn0 hn1
  have hnl := nameV_len px (b := b) num
  have hs8 := sufL_small hb1 hb32
  have hrd := nameV_reads px num hb1 hb32
  have hpw := pow2_bnd b hb32
  obtain ⟨ur, kk, hes⟩ := R
  rw [hes] at N
  k_with_none
  revert X
  k_fill
  intro X
  unfold lawEnv
  conv => arg 3; arg 1; whnf
  generalize hsc : lawScope = sc
  conv at hsc => lhs; whnf
  subst hsc
  k_steps
  unfold Stop
  refine' suf_call ?qB ?qF ?qX ?qN ?qT ?qk ?qd ?qu _ _ _ _ ?q0 ?q1 ?q2 ?q3 ?_
  case qB => exact B
  case qF => k_asm
  case qX => exact X
  case qN => k_asm
  case qT => exact T
  case qk => exact rfl
  case qd => decide
  case qu => decide
  case q0 => omega
  case q1 => omega
  case q2 => omega
  case q3 => omega
  intro t4 h4' tk4 F4 N4
  clear F0 N
  have hlen : (sufS num b).length = sufL b := sufG_length _ _
  (try dsimp only); (try k_fold)
  k_steps
  · rename_i hne
    have e : px ++ Str.ofString "-" ++ sufS num b = nameV px b num := rfl
    rw [e, bne_self_eq_false] at hne
    cases hne
  unfold Stop
  rw [← hes] at N4
  refine' del_call rx rd kid es b px R0 ?qB2 ?qF2 ?qX2 ?qN2 ?qT2 ?qk2 ?qd2 ?qu2 (nameV px b num) _ (by omega) hp hrd ?_
  case qB2 => exact B
  case qF2 => k_asm
  case qX2 => exact X
  case qN2 => k_asm
  case qT2 => exact T
  case qk2 => exact rfl
  case qd2 => decide
  case qu2 => decide
  intro h5 tk5 F5 N5
  clear F4 N4
  rw [hdel]
  (try dsimp only); (try k_fold)
  k_steps
  exact hret h5 _ (fr_out2 F5 hm1 hm2) N5
noncomputable def ifBody : Stmt → List Stmt
  | .If _ b _ _ => b
  | _ => []
/-- statement j of the turn's if i -/
noncomputable def forIf (i j : Nat) : Stmt := (ifBody (forSt i)).getD j (.Pass default)
noncomputable def testOf : Stmt → Expr
  | .If t _ _ _ => t
  | _ => .Constant .none 0 default
set_option maxRecDepth 100000 in
set_option maxHeartbeats 8000000 in
theorem turn_more_t {Q : Bool → Shared → Prop} (F : Fr h₀ L s.heap m) (X : (hdJ.heap_39 w.params).In h₀) (T : Top p loose mean mg mb h₀)
  (o2 : Obj) (b : Int) (tb : Tok) (h2 : o2.data = Data.cell (some (.int b tb)))
  (N : News h₀ L s.heap ((L + 1 + 1, o2) :: news))
  (hret : ∀ h' tk', Fr h₀ L h' m → News h₀ L h' ((L + 1 + 1, o2) :: news) → Q (decide (b < 32)) {s with heap := h', toks := tk'}) :
  wpAny (model PySem.Challenge.rw_je0040_01.row.prog w) (callerA.deeper (lawEnv L fa cd)) (isTrue (testOf (forSt 5)) (lawEnv L fa cd) (eval (testOf (forSt 5)) (lawEnv L fa cd))) Q E s := by
  k_with_none
  revert X
  k_fill
  intro X
  generalize hte : testOf (forSt 5) = te
  conv at hte => lhs; whnf
  subst hte
  unfold lawEnv
  generalize hsc : lawScope = sc
  conv at hsc => lhs; whnf
  subst hsc
  k_steps
  exact hret _ _ F N
set_option maxRecDepth 100000 in
set_option maxHeartbeats 8000000 in
theorem turn_more_a (B : Below callerA h₀ [] h₀) (F : Fr h₀ L s.heap m) (X : (hdJ.heap_39 w.params).In h₀) (T : Top p loose mean mg mb h₀)
  (l : Addr) (vs : List Value) (n : Nat) (ns : List Int) (hm : m (Str.ofString "first") = some (.ref l)) (hI : IntsAre vs ns) (hlen : ns.length = 32) (h01 : ∀ x ∈ ns, 0 ≤ x ∧ x ≤ 1)
  (o2 : Obj) (b : Int) (tb : Tok) (h2 : o2.data = Data.cell (some (.int b tb))) (hb1 : 1 ≤ b) (hb32 : b < 32)
  (N : News h₀ L s.heap ((l, PySem.W.listOf vs.toArray n) :: (L + 1 + 1, o2) :: news))
  (hret : ∀ t h' tk', Fr h₀ L h' (fun y => if y = Str.ofString "more" then some (.int (numS (ns.take (b + 1).toNat)) t) else m y) → News h₀ L h' ((l, PySem.W.listOf vs.toArray n) :: (L + 1 + 1, o2) :: news) → Q .next {s with heap := h', toks := tk'}) :
  wpAny (model PySem.Challenge.rw_je0040_01.row.prog w) (callerA.deeper (lawEnv L fa cd)) (exec (forIf 5 0) (lawEnv L fa cd)) Q E s := by
  have F0 := fr_in F hm
  clear F
  k_with_none
  revert X
  k_fill
  intro X
  unfold lawEnv
  conv => arg 3; arg 1; whnf
  generalize hsc : lawScope = sc
  conv at hsc => lhs; whnf
  subst hsc
  k_steps
  unfold Stop
  rename_i D2 ws h4 F4 N4 hI4 _ hL4 _
  refine' num_call D2 ws 0 (ns.take (b + 1).toNat) ?qB ?qF ?qX ?qN ?qT ?qk ?qd ?qu hI4 ?ql ?qh ?_
  case qB => exact B
  case qF => exact F4
  case qX => exact X
  case qN => exact N4
  case qT => exact T
  case qk => exact rfl
  case qd => decide
  case qu => decide
  case ql => omega
  case qh => exact fun y hy => h01 y (List.mem_of_mem_take hy)
  intro t1 h5 tk1 F5 N5
  clear F4 N4
  generalize numS (ns.take (b + 1).toNat) = num at hret ⊢
  (try dsimp only); (try k_fold)
  k_steps
  rename_i h9 F9 N9
  exact hret t1 h9 _ (fr_back F9 hm) (fun p hp => N9 p (.tail _ hp))
end Jl
end
section
open PySem PySem.W PySem.Spec PySem.Calls PyProof.Rows
open PyProof.Rows.LCg PyProof.Rows.LCt
namespace Jl
theorem upd_ne {m : Str → Option Value} {a b : Str} {v v' : Value} (h : a ≠ b) (hb : m b = some v') : (fun y => if y = a then some v else m y) b = some v' := by
  show (if b = a then some v else m b) = some v'
  rw [if_neg (Ne.symm h)]; exact hb
variable {w : World} {p : Program} {loose : List Str} {mean : ExcName → Option Value} {mg mb : Str → Option Value} {h₀ : Heap} {L fa : Addr} {cd : Value} {m : Str → Option Value} {s : Shared} {Q : Flow → Shared → Prop} {E : Value → Shared → Prop} {news : List (Addr × Obj)}
set_option maxRecDepth 100000 in
set_option maxHeartbeats 8000000 in
theorem turn_more_b (B : Below callerA h₀ [] h₀) (F : Fr h₀ L s.heap m) (X : (hdJ.heap_39 w.params).In h₀) (T : Top p loose mean mg mb h₀)
  (fx fd kid : Addr) (fes : List DictEntry) (o2 o3 : Obj) (b : Int) (tb tp : Tok) (px : PySem.Str) (R : RolesAre w kid (b + 1) px fes) (hp : px.length ≤ 10) (hb1 : 1 ≤ b) (hb32 : b < 32) (h2 : o2.data = Data.cell (some (.int b tb))) (h3 : o3.data = Data.cell (some (.str px tp)))
  (x : PySem.Str) (tx : Tok) (num more : Int) (tn tm : Tok) (hmp : m (Str.ofString "path") = some (.str x tx)) (hmn : m (Str.ofString "number") = some (.int num tn)) (hmm : m (Str.ofString "more") = some (.int more tm)) (hmf : m (Str.ofString "finer") = some (.ref fx))
  (hb : x.length ≤ 60) (hasc : ∀ c ∈ x.cps.toList, c < 128) (hm0 : 0 ≤ more) (hm1 : more < 1099511627776) (hmore : more = (digF (bytesOf x)).fdiv (2 ^ (32 - (b + 1)).toNat)) (hhalf : more.fdiv 2 = num)
  (N : News h₀ L s.heap ((fx, instObj 139 fd) :: (fd, dictOf fes 7) :: (L + 1 + 1 + 1, o3) :: (L + 1 + 1, o2) :: news))
  (hret : ∀ h' tk', Fr h₀ L h' m → News h₀ L h' ((fx, instObj 139 fd) :: (fd, dictOf fes 7) :: (L + 1 + 1 + 1, o3) :: (L + 1 + 1, o2) :: news) → Q .next {s with heap := h', toks := tk'}) :
  wpAny (model PySem.Challenge.rw_je0040_01.row.prog w) (callerA.deeper (lawEnv L fa cd)) (exec (forIf 5 1) (lawEnv L fa cd)) Q E s := by
  have a1 : (fun y => if y = Str.ofString "path" then some (.str x tx) else m y) (Str.ofString "number") = some (.int num tn) := by
    dsimp only; rw [if_neg (by decide +kernel)]; exact hmn
  have a2 : (fun y => if y = Str.ofString "number" then some (.int num tn) else if y = Str.ofString "path" then some (.str x tx) else m y) (Str.ofString "more") = some (.int more tm) := by
    dsimp only; rw [if_neg (by decide +kernel), if_neg (by decide +kernel)]; exact hmm
  have a3 : (fun y => if y = Str.ofString "more" then some (.int more tm) else if y = Str.ofString "number" then some (.int num tn) else if y = Str.ofString "path" then some (.str x tx) else m y) (Str.ofString "finer") = some (.ref fx) := by
    dsimp only; rw [if_neg (by decide +kernel), if_neg (by decide +kernel), if_neg (by decide +kernel)]; exact hmf
  have F0 := fr_in (fr_in (fr_in (fr_in F hmp) a1) a2) a3
  clear F
  have hvF : ∀ h', Fr h₀ L h' (fun y => if y = Str.ofString "finer" then some (.ref fx) else if y = Str.ofString "more" then some (.int more tm) else if y = Str.ofString "number" then some (.int num tn) else if y = Str.ofString "path" then some (.str x tx) else m y) → Fr h₀ L h' m := fun h' F => fr_out (fr_out (fr_out (fr_out F a3) a2) a1) hmp
  clear a1 a2 a3
  have R0 := R
  obtain ⟨ur, kk, hes⟩ := R
  rw [hes] at N
  k_with_none
  revert X
  k_fill
  intro X
  unfold lawEnv
  conv => arg 3; arg 1; whnf
  generalize hsc : lawScope = sc
  conv at hsc => lhs; whnf
  subst hsc
  k_steps
  · exact absurd hhalf (by assumption)
  unfold Stop
  rw [← hes] at N
  refine' role_call fx fd kid fes (b + 1) px R0 ?qB ?qF ?qX ?qN ?qT ?qk ?qd ?qu x _ hb hasc hp (by omega) (by omega) ?_
  case qB => exact B
  case qF => k_asm
  case qX => exact X
  case qN => k_asm
  case qT => exact T
  case qk => exact rfl
  case qd => decide
  case qu => decide
  intro t1 h5 tk1 F5 N5 _ _
  clear F0 N
  have hrole : roleV px (b + 1) (digF (bytesOf x)) = nameV px (b + 1) more := by rw [hmore]; rfl
  rw [hrole]
  have hnl := nameV_len px (b := b + 1) more
  have hs8 := sufL_small (show 1 ≤ b + 1 by omega) (show b + 1 ≤ 32 by omega)
  (try dsimp only); (try k_fold)
  k_steps
  unfold Stop
  refine' suf_call ?qB2 ?qF2 ?qX2 ?qN2 ?qT2 ?qk2 ?qd2 ?qu2 _ _ _ _ ?q0 ?q1 ?q2 ?q3 ?_
  case qB2 => exact B
  case qF2 => k_asm
  case qX2 => exact X
  case qN2 => k_asm
  case qT2 => exact T
  case qk2 => exact rfl
  case qd2 => decide
  case qu2 => decide
  case q0 => omega
  case q1 => omega
  case q2 => omega
  case q3 => omega
  intro t4 h6 tk4 F6 N6
  clear F5 N5
  have hlen : (sufS more (b + 1)).length = sufL (b + 1) := sufG_length _ _
  (try dsimp only); (try k_fold)
  k_steps
  · rename_i hne
    have e : px ++ Str.ofString "-" ++ sufS more (b + 1) = nameV px (b + 1) more := rfl
    rw [e, bne_self_eq_false] at hne
    cases hne
  exact hret h6 _ (hvF h6 F6) N6
theorem turn_more_shape : ∃ pos, forSt 5 = .If (testOf (forSt 5)) [forIf 5 0, forIf 5 1] [] pos := ⟨_, by with_unfolding_all rfl⟩
theorem turn_more (B : Below callerA h₀ [] h₀) (F : Fr h₀ L s.heap m) (X : (hdJ.heap_39 w.params).In h₀) (T : Top p loose mean mg mb h₀)
  (l fx fd kid : Addr) (fes : List DictEntry) (vs : List Value) (n : Nat) (o2 o3 : Obj) (b : Int) (tb tp : Tok) (px : PySem.Str) (R : RolesAre w kid (if b + 1 < 32 then b + 1 else 32) px fes) (hp : px.length ≤ 10) (hb1 : 1 ≤ b) (hb32 : b ≤ 32) (h2 : o2.data = Data.cell (some (.int b tb))) (h3 : o3.data = Data.cell (some (.str px tp)))
  (x : PySem.Str) (tx tn : Tok) (hmp : m (Str.ofString "path") = some (.str x tx)) (hml : m (Str.ofString "first") = some (.ref l)) (hmn : m (Str.ofString "number") = some (.int ((digF (bytesOf x)).fdiv (2 ^ (32 - b).toNat)) tn)) (hmf : m (Str.ofString "finer") = some (.ref fx))
  (hxl : x.length ≤ 60) (hasc : ∀ c ∈ x.cps.toList, c < 128) (hd0 : 0 ≤ digF (bytesOf x)) (hd1 : digF (bytesOf x) < 4294967291) (hI : IntsAre vs (bitsL (sufG (digF (bytesOf x)) 8).cps.toList))
  (N : News h₀ L s.heap ((fx, instObj 139 fd) :: (fd, dictOf fes 7) :: (l, PySem.W.listOf vs.toArray n) :: (L + 1 + 1 + 1, o3) :: (L + 1 + 1, o2) :: news))
  (hret : ∀ (m' : Str → Option Value) h' tk', Fr h₀ L h' m' → (∀ y, y ≠ Str.ofString "more" → m' y = m y) → News h₀ L h' ((fx, instObj 139 fd) :: (fd, dictOf fes 7) :: (l, PySem.W.listOf vs.toArray n) :: (L + 1 + 1 + 1, o3) :: (L + 1 + 1, o2) :: news) → Q .next {s with heap := h', toks := tk'}) :
  wpAny (model PySem.Challenge.rw_je0040_01.row.prog w) (callerA.deeper (lawEnv L fa cd)) (exec (forSt 5) (lawEnv L fa cd)) Q E s := by
  obtain ⟨pos, e⟩ := turn_more_shape
  rw [e]
  refine wpAny_If ?_
  refine turn_more_t F X T o2 b tb h2 (news := (fx, instObj 139 fd) :: (fd, dictOf fes 7) :: (l, PySem.W.listOf vs.toArray n) :: (L + 1 + 1 + 1, o3) :: news) (by have N' := news_pickT [4, 0, 1, 2, 3] 5 N; exact N') fun h1 tk1 F1 N1 => ?_
  by_cases hb : b < 32
  · rw [decide_eq_true hb, if_pos rfl]
    have e32 : (if b + 1 < 32 then b + 1 else 32) = b + 1 := by
      by_cases h : b + 1 < 32
      · rw [if_pos h]
      · rw [if_neg h]; omega
    rw [e32] at R
    have hbits := bitsL_length (sufG (digF (bytesOf x)) 8).cps.toList
    rw [sufG_list_len] at hbits
    refine wpAny_execs_cons ?_
    refine turn_more_a B F1 X T l vs n (bitsL (sufG (digF (bytesOf x)) 8).cps.toList) hml hI hbits (bitsL_01 (sufG_hex _ _)) o2 b tb h2 hb1 hb (news := (fx, instObj 139 fd) :: (fd, dictOf fes 7) :: (L + 1 + 1 + 1, o3) :: news) (by have N' := news_pickT [3, 0, 1, 2, 4] 5 N1; exact N') fun t2 h2' tk2 F2 N2 => ?_
    rw [numS_take hd0 hd1 (by omega) (by omega)] at F2
    have hbb := bin_bnd (b := b + 1) hd0 hd1
    refine wpAny_execs_cons ?_
    refine turn_more_b B F2 X T fx fd kid fes o2 o3 b tb tp px R hp hb1 hb h2 h3 x tx ((digF (bytesOf x)).fdiv (2 ^ (32 - b).toNat)) ((digF (bytesOf x)).fdiv (2 ^ (32 - (b + 1)).toNat)) tn t2 ?m1 ?m2 ?m3 ?m4 hxl hasc hbb.1 hbb.2 rfl (finer_half hb1 hb) (news := (l, PySem.W.listOf vs.toArray n) :: news) (by have N' := news_pickT [2, 3, 4, 1, 0] 5 N2; exact N') fun h3' tk3 F3 N3 => ?_
    case m1 => rw [if_neg (by decide +kernel)]; exact hmp
    case m2 => rw [if_neg (by decide +kernel)]; exact hmn
    case m3 => rw [if_pos rfl]
    case m4 => rw [if_neg (by decide +kernel)]; exact hmf
    refine wpAny_execs_nil ?_
    exact hret _ h3' tk3 F3 (fun y hy => if_neg hy) (by have N' := news_pickT [0, 1, 4, 2, 3] 5 N3; exact N')
  · rw [decide_eq_false hb, if_neg (by decide)]
    refine wpAny_execs_nil ?_
    exact hret m h1 tk1 F1 (fun _ _ => rfl) (by have N' := news_pickT [1, 2, 3, 4, 0] 5 N1; exact N')
end Jl
end
section
open PySem PySem.W PySem.Spec PySem.Calls PyProof.Rows
open PyProof.Rows.LCg PyProof.Rows.LCt
namespace Jl
/-- each name of the list is refused -/
noncomputable def Refused (px : PySem.Str) (b : Int) (ys : List Value) : Prop := ∀ y ∈ ys, ∃ x t, y = Value.str x t ∧ (NotName px b x ∨ BadName px b x)
theorem refused_nil {px : PySem.Str} {b : Int} : Refused px b [] := fun _ h => nomatch h
theorem refused_cons {px : PySem.Str} {b : Int} {x : PySem.Str} {t : Tok} {ys : List Value} (h : NotName px b x ∨ BadName px b x) (hy : Refused px b ys) : Refused px b (.str x t :: ys) := by
  intro y hm
  rcases List.mem_cons.mp hm with rfl | hm
  · exact ⟨x, t, rfl, h⟩
  · exact hy y hm
theorem lit1 : (Str.ofString "x").cps.toList = [120] ∧ (Str.ofString "0").cps.toList = [48] ∧ (Str.ofString "-g").cps.toList = [45, 103] := by decide +kernel
theorem others_ok {px suf : PySem.Str} {b : Int} {t1 t2 t3 t4 t5 t6 : Tok} (hp : px.length ≤ 10) (hb1 : 1 ≤ b) (hb32 : b ≤ 32) (hpx : ∃ d r, px.cps.toList ++ [45] = d :: r ∧ 120 ≠ d) (hsl : suf.length = sufL b) (hsx : ∀ c ∈ suf.cps.toList, IsHex c) :
    Refused px b [Value.str (px ++ suf) t1, Value.str (Str.ofString "x" ++ px ++ Str.ofString "-" ++ suf) t2, Value.str (px ++ Str.ofString "-" ++ suf ++ Str.ofString "0") t3, Value.str (px ++ Str.ofString "-" ++ Txt.slice suf (some 1) none) t4, Value.str (px ++ Str.ofString "-g" ++ Txt.slice suf (some 1) none) t5, Value.str (px ++ Str.ofString "-") t6] := by
  have hs := sufL_small hb1 hb32
  have hll := len_list suf
  have hcut := slice_from suf 1 (by omega)
  have hcl := slice_from_length suf 1 (by omega)
  have hch : ∀ c ∈ suf.cps.toList.drop 1, IsHex c := fun c hc => hsx c (List.mem_of_mem_drop hc)
  have hdl : (suf.cps.toList.drop 1).length = sufL b - 1 := by rw [List.length_drop, hll, hsl]
  have l1 : (Str.ofString "x").length = 1 := rfl
  have l2 : (Str.ofString "-").length = 1 := rfl
  refine refused_cons (.inl ?_) (refused_cons (.inl ?_) (refused_cons (.inl ?_) (refused_cons (.inl ?_) (refused_cons (.inr ?_) (refused_cons (.inl ?_) refused_nil)))))
  · cases hq : suf.cps.toList with
    | nil => rw [hq] at hll; simp at hll; omega
    | cons c q =>
      have hc := hsx c (by rw [hq]; exact .head _)
      refine not_stroke (c := c) (q := q) (by rw [cps_app, hq]) (by rw [PySem.Str.length_append]; omega) ?_
      unfold IsHex at hc; omega
  · obtain ⟨d, r, e, hd⟩ := hpx
    refine not_ahead (c := 120) (q := px.cps.toList ++ [45] ++ suf.cps.toList) ?_ (by rw [PySem.Str.length_append, PySem.Str.length_append, PySem.Str.length_append]; omega) e hd
    rw [cps_app, dash_list, cps_app, lit1.1]
    simp
  · refine not_len (q := suf.cps.toList ++ [48]) ?_ (by rw [List.length_append, hll]; show _ + (_ + 1) ≤ 60; omega) hb1 hb32 (by rw [List.length_append, hll]; show _ + 1 ≠ _; omega)
    rw [cps_app, cps_app, dash_list, lit1.2.1]
    simp
  · refine not_len (q := suf.cps.toList.drop 1) ?_ (by rw [hdl]; omega) hb1 hb32 (by rw [hdl]; omega)
    have e : (1 : Int) = ((1 : Nat) : Int) := rfl
    rw [cps_app, dash_list, e, hcut]
    simp
  · refine bad_name (q := suf.cps.toList.drop 1) ?_ hp hb1 hb32 (by rw [hdl]; omega) hch
    have e : (1 : Int) = ((1 : Nat) : Int) := rfl
    rw [cps_app, cps_app, lit1.2.2, e, hcut]
    simp
  · refine not_len (q := []) ?_ (by show _ + 0 ≤ 60; omega) hb1 hb32 (by show 0 ≠ _; omega)
    exact dash_list px
variable {w : World} {p : Program} {loose : List Str} {mean : ExcName → Option Value} {mg mb : Str → Option Value} {h₀ : Heap} {L fa : Addr} {cd : Value} {m : Str → Option Value} {s : Shared} {Q : Flow → Shared → Prop} {E : Value → Shared → Prop} {news : List (Addr × Obj)}
set_option maxRecDepth 100000 in
set_option maxHeartbeats 8000000 in
theorem turn_suffix (B : Below callerA h₀ [] h₀) (F : Fr h₀ L s.heap m) (X : (hdJ.heap_39 w.params).In h₀) (T : Top p loose mean mg mb h₀)
  (o2 : Obj) (b : Int) (tb : Tok) (h2 : o2.data = Data.cell (some (.int b tb))) (hb1 : 1 ≤ b) (hb32 : b ≤ 32)
  (num : Int) (tn : Tok) (hm1 : m (Str.ofString "number") = some (.int num tn)) (hn0 : 0 ≤ num) (hn1 : num < 1099511627776)
  (N : News h₀ L s.heap ((L + 1 + 1, o2) :: news))
  (hret : ∀ t h' tk', Fr h₀ L h' (fun y => if y = Str.ofString "suffix" then some (.str (sufG num (sufL b)) t) else m y) → News h₀ L h' ((L + 1 + 1, o2) :: news) → Q .next {s with heap := h', toks := tk'}) :
  wpAny (model PySem.Challenge.rw_je0040_01.row.prog w) (callerA.deeper (lawEnv L fa cd)) (exec (forSt 6) (lawEnv L fa cd)) Q E s := by
  have F0 := fr_in F hm1
  clear F
  k_with_none
  revert X
  k_fill
  intro X
  unfold lawEnv
  conv => arg 3; arg 1; whnf
  generalize hsc : lawScope = sc
  conv at hsc => lhs; whnf
  subst hsc
  k_steps
  unfold Stop
  refine' suf_call ?qB ?qF ?qX ?qN ?qT ?qk ?qd ?qu _ _ _ _ ?q0 ?q1 ?q2 ?q3 ?_
  case qB => exact B
  case qF => k_asm
  case qX => exact X
  case qN => k_asm
  case qT => exact T
  case qk => exact rfl
  case qd => decide
  case qu => decide
  case q0 => omega
  case q1 => omega
  case q2 => omega
  case q3 => omega
  intro t4 h4' tk4 F4 N4
  clear F0 N
  have e : sufS num b = sufG num (sufL b) := rfl
  rw [e]
  (try dsimp only); (try k_fold)
  k_steps
  rename_i h9 F9 N9
  exact hret t4 h9 _ (fr_back F9 hm1) N9
set_option maxRecDepth 100000 in
set_option maxHeartbeats 8000000 in
theorem turn_others (B : Below callerA h₀ [] h₀) (F : Fr h₀ L s.heap m) (X : (hdJ.heap_39 w.params).In h₀) (T : Top p loose mean mg mb h₀)
  (o3 : Obj) (px : PySem.Str) (tp : Tok) (h3 : o3.data = Data.cell (some (.str px tp))) (hp : px.length ≤ 10)
  (suf : PySem.Str) (ts : Tok) (hm1 : m (Str.ofString "suffix") = some (.str suf ts)) (hs1 : 1 ≤ suf.length) (hs8 : suf.length ≤ 8)
  (b : Int) (hb1 : 1 ≤ b) (hb32 : b ≤ 32) (hpx : ∃ d r, px.cps.toList ++ [45] = d :: r ∧ 120 ≠ d) (hsl : suf.length = sufL b) (hsx : ∀ c ∈ suf.cps.toList, IsHex c)
  (N : News h₀ L s.heap ((L + 1 + 1 + 1, o3) :: news))
  (hret : ∀ D ys h' tk', Fr h₀ L h' (fun y => if y = Str.ofString "others" then some (.ref D) else m y) → News h₀ L h' ((D, PySem.W.listOf ys.toArray 0) :: (L + 1 + 1 + 1, o3) :: news) → (@LT.lt Nat _ (L + 1 + 1 + 1) D ∧ AllLt D news) → ys.length = 6 → Refused px b ys → Q .next {s with heap := h', toks := tk'}) :
  wpAny (model PySem.Challenge.rw_je0040_01.row.prog w) (callerA.deeper (lawEnv L fa cd)) (exec (forSt 7) (lawEnv L fa cd)) Q E s := by
  have F0 := fr_in F hm1
  clear F
  k_with_none
  revert X
  k_fill
  intro X
  unfold lawEnv
  conv => arg 3; arg 1; whnf
  generalize hsc : lawScope = sc
  conv at hsc => lhs; whnf
  subst hsc
  k_steps
  rename_i D _ l1 h9 F9 N9
  exact hret D _ h9 _ (fr_back F9 hm1) N9 l1 rfl (others_ok hp hb1 hb32 hpx hsl hsx)
end Jl
end
section
open PySem PySem.W PySem.Spec PySem.Calls PyProof.Rows
open PyProof.Rows.LCg PyProof.Rows.LCt
namespace Jl
local macro_rules | `(tactic| walk_at "call builtin:list.append") => `(tactic| refine stop_here ?_)
variable {w : World} {p : Program} {loose : List Str} {mean : ExcName → Option Value} {mg mb : Str → Option Value} {h₀ : Heap} {L fa : Addr} {cd : Value} {m : Str → Option Value} {s : Shared} {Q : Flow → Shared → Prop} {E : Value → Shared → Prop} {news : List (Addr × Obj)} {ys : List Value}
set_option maxRecDepth 100000 in
set_option maxHeartbeats 8000000 in
theorem turn_more8_t {Q : Bool → Shared → Prop} (F : Fr h₀ L s.heap m) (X : (hdJ.heap_39 w.params).In h₀) (T : Top p loose mean mg mb h₀)
  (o2 : Obj) (b : Int) (tb : Tok) (h2 : o2.data = Data.cell (some (.int b tb))) (hb1 : 1 ≤ b) (hb32 : b ≤ 32)
  (suf : PySem.Str) (ts : Tok) (hm1 : m (Str.ofString "suffix") = some (.str suf ts)) (hs1 : 1 ≤ suf.length) (hs8 : suf.length ≤ 8)
  (N : News h₀ L s.heap ((L + 1 + 1, o2) :: news))
  (hret : ∀ h' tk', Fr h₀ L h' m → News h₀ L h' ((L + 1 + 1, o2) :: news) → Q (decide ((2 : Int) ^ b.toNat < 16 ^ suf.length)) {s with heap := h', toks := tk'}) :
  wpAny (model PySem.Challenge.rw_je0040_01.row.prog w) (callerA.deeper (lawEnv L fa cd)) (isTrue (testOf (forSt 8)) (lawEnv L fa cd) (eval (testOf (forSt 8)) (lawEnv L fa cd))) Q E s := by
  have F0 := fr_in F hm1
  clear F
  have hpw := pow2_bnd b hb32
  k_with_none
  revert X
  k_fill
  intro X
  generalize hte : testOf (forSt 8) = te
  conv at hte => lhs; whnf
  subst hte
  unfold lawEnv
  generalize hsc : lawScope = sc
  conv at hsc => lhs; whnf
  subst hsc
  k_steps
  exact hret _ _ (fr_out F0 hm1) N
theorem pow16_nat : ∀ k, k < 9 → (16 : Int) ^ k ≤ 4294967296 := by decide +kernel
theorem pow16_le {k : Nat} (h : k ≤ 8) : (16 : Int) ^ k ≤ 4294967296 := pow16_nat k (Nat.lt_succ_of_le h)
set_option maxRecDepth 100000 in
set_option maxHeartbeats 8000000 in
theorem turn_more8_a (B : Below callerA h₀ [] h₀) (F : Fr h₀ L s.heap m) (X : (hdJ.heap_39 w.params).In h₀) (T : Top p loose mean mg mb h₀)
  (b : Int) (tb tp : Tok) (px : PySem.Str) (suf : PySem.Str) (ts : Tok) (d r D : Addr) (od o1 o2 o3 : Obj) (vs : List Value) (n : Nat) (ns : List Int) (at0 : Int) (hds : (d == sysModules) = false) (hI : IntsAre vs ns) (hlen : ns.length ≤ 72) (h1 : o1.data = Data.cell (some (.ref d)))
  (DW : WD w r od at0) (ha0 : 0 ≤ at0) (ha1 : at0 ≤ 900) (hne : ∀ q ∈ (r, PySem.W.listOf vs.toArray n) :: (D, PySem.W.listOf ys.toArray 0) :: (L + 1 + 1 + 1, o3) :: (L + 1 + 1, o2) :: (L + 1, o1) :: news, q.1 ≠ d)
  (hDd : d ≠ D) (hDr : r ≠ D) (hDn : ∀ q ∈ (L + 1 + 1 + 1, o3) :: (L + 1 + 1, o2) :: (L + 1, o1) :: news, q.1 ≠ D) (hys : ys.length ≤ 100) (hrf : Refused px b ys) (hsl : suf.length = sufL b)
  (h2 : o2.data = Data.cell (some (.int b tb))) (h3 : o3.data = Data.cell (some (.str px tp))) (hb1 : 1 ≤ b) (hb32 : b ≤ 32) (hp : px.length ≤ 10)
  (hm1 : m (Str.ofString "suffix") = some (.str suf ts)) (hm2 : m (Str.ofString "others") = some (.ref D)) (hs1 : 1 ≤ suf.length) (hs8 : suf.length ≤ 8) (hlt : (2 : Int) ^ b.toNat < 16 ^ suf.length)
  (N : News h₀ L s.heap ((d, od) :: (r, PySem.W.listOf vs.toArray n) :: (D, PySem.W.listOf ys.toArray 0) :: (L + 1 + 1 + 1, o3) :: (L + 1 + 1, o2) :: (L + 1, o1) :: news))
  (hret : ∀ ys' k od' h' tk', Fr h₀ L h' m → News h₀ L h' ((d, od') :: (r, PySem.W.listOf vs.toArray n) :: (D, PySem.W.listOf ys'.toArray k) :: (L + 1 + 1 + 1, o3) :: (L + 1 + 1, o2) :: (L + 1, o1) :: news) → WD w r od' (at0 + 1) → ys'.length ≤ ys.length + 1 → Refused px b ys' → Q .next {s with heap := h', toks := tk'}) :
  wpAny (model PySem.Challenge.rw_je0040_01.row.prog w) (callerA.deeper (lawEnv L fa cd)) (exec (forIf 8 0) (lawEnv L fa cd)) Q E s := by
  have F0 := fr_in2 F hm1 hm2
  clear F
  have hpw := pow2_bnd b hb32
  have h16 := pow16_le hs8
  have hs8' := sufL_small hb1 hb32
  obtain ⟨u0, DW⟩ := DW
  k_with_none
  revert X
  k_fill
  intro X
  unfold lawEnv
  conv => arg 3; arg 1; whnf
  generalize hsc : lawScope = sc
  conv at hsc => lhs; whnf
  subst hsc
  k_steps
  unfold Stop
  refine' next_call r d _ vs n ns _ at0 ?qB ?qF ?qX ?qN ?qT ?qk ?qd ?qu hds ?qne DW (16 ^ suf.length - 2 ^ b.toNat) _ (by omega) (by omega) hI (Nat.le_trans hlen (by decide)) ha0 (Int.le_trans ha1 (by decide)) ?_
  case qB => exact B
  case qF => k_asm
  case qX => exact X
  case qN => k_asm
  case qT => exact T
  case qk => exact rfl
  case qd => decide
  case qu => decide
  case qne => exact hne
  intro k1 t1 h1' tk1 od1 u1 hk0 hk1 F1 N1 D1
  clear N F0
  (try dsimp only); (try k_fold)
  k_steps
  unfold Stop
  refine' suf_call ?qB2 ?qF2 ?qX2 ?qN2 ?qT2 ?qk2 ?qd2 ?qu2 _ _ _ _ ?q0 ?q1 ?q2 ?q3 ?_
  case qB2 => exact B
  case qF2 => k_asm
  case qX2 => exact X
  case qN2 => k_asm
  case qT2 => exact T
  case qk2 => exact rfl
  case qd2 => decide
  case qu2 => decide
  case q0 => omega
  case q1 => omega
  case q2 => omega
  case q3 => omega
  intro t4 h4' tk4 F4 N4
  clear F1 N1
  have hlen : (sufS (2 ^ b.toNat + k1) b).length = sufL b := sufG_length _ _
  (try dsimp only); (try k_fold)
  k_steps
  unfold Stop
  refine append_K F4 N4 (.tail hDd (.tail hDr (.head hDn))) (fun h5 F5 N5 => ?_) (by rw [List.size_toArray, sizeLine_eq]; omega)
  (try dsimp only); (try k_fold)
  k_steps
  rename_i t9 k9 _
  refine hret (ys ++ [Value.str (nameV px b (2 ^ b.toNat + k1)) t9]) 1 od1 h5 _ (fr_out2 F5 hm1 hm2) ?_ ⟨u1, D1⟩ (by simp) ?_
  · have e : (ys ++ [Value.str (nameV px b (2 ^ b.toNat + k1)) t9]).toArray = ys.toArray.push (Value.str (px ++ Str.ofString "-" ++ sufS (2 ^ b.toNat + k1) b) t9) := by rw [List.push_toArray]; rfl
    rw [e]; exact N5
  · intro y hy
    rcases List.mem_append.mp hy with hy | hy
    · exact hrf y hy
    · rw [List.mem_singleton.mp hy]
      exact ⟨_, _, rfl, .inl (not_big px hp hb1 hb32 (by omega) (by rw [← hsl]; omega))⟩
end Jl
end
section
open PySem PySem.W PySem.Calls PyProof.Rows PySem.NumText
set_option maxRecDepth 100000
namespace Jl
theorem wpC_bad {prog : Program} {w : World} {A : Around} {E : Value → Shared → Prop} {s : Shared} {Q : Value → Shared → Prop} {x : PySem.Str} {u : Tok} {text : List Nat}
    (hs : (text.takeWhile (· != 0)).length ≤ 640) (hr : (int_private% "readNumeral") 0 16 (text.takeWhile (· != 0)) = (int_private% "Numeral.invalid")) (hh : A.handled = none) (hl : (reprText x).length ≤ sizeLine)
    (h : ∀ e h' tk', Heap.NewExc s.heap h' e "ValueError" → E (.ref e) { s with heap := h', toks := tk' }) :
    wpC (model prog w) A ((int_private% "intFromText") (.str x u) text 16) Q E s := by
  refine wpC_eq (if_pos hs) ?_
  refine wpC_bind (wpC_any (wpAny_pure ?_))
  dsimp only
  rw [hr]
  dsimp only
  refine wpC_bind (wpC_any ?_)
  repeat wp_step
  refine wpC_eq (if_neg (by simp)) ?_
  refine wpC_bind (wpC_any (wpAny_rule ?_))
  refine wpC_bind (wpC_any ?_)
  repeat wp_step
  dsimp only
  refine wpC_bind (wpC_any (wpAny_pyRepr_str ?_ hl))
  refine wpC_bind (wpC_any (wpAny_mkStr ?_ ?hle))
  case hle =>
    rw [PySem.Str.length_append, sizeLine_eq]
    have e1 : (Str.ofString (toString "invalid literal for int() with base " ++ toString 16 ++ toString ": ")).length ≤ 60 := by decide +kernel
    have e2 : (PySem.Str.mk ((reprText x).cps.extract 0 200)).length ≤ 200 := by
      show ((reprText x).cps.extract 0 200).size ≤ 200
      rw [Array.size_extract]; omega
    omega
  refine wpC_bind (wpC_any (wpAny_newExc_plain PySem.plainExc_ValueError fun h' e hm => ?_))
  refine wpC_bind (wpC_mark ?_)
  exact wpC_any (wpAny_raiseNew_none hh (h e h' _ hm.newExc))
theorem wpC_intNew_bad {prog : Program} {w : World} {A : Around} {E : Value → Shared → Prop} {s : Shared} {Q : Fin → Shared → Prop} {x : PySem.Str} {u t : Tok}
    (hl : x.length ≤ 600) (hx : ∃ cs, x.cps.toList = 103 :: cs ∧ ∀ c ∈ cs, IsHex c) (hh : A.handled = none)
    (h : ∀ e h' tk', Heap.NewExc s.heap h' e "ValueError" → E (.ref e) { s with heap := h', toks := tk' }) :
    wpC (model prog w) A (Builtin.«int.__new__» ⟨[.type "int", .str x u, .int 16 t], []⟩) Q E s := by
  have f1 := F.conv_sub_int
  have f2 := F.madeHere_int
  have f6 : typeOf (.str x u) = pure (.type "str") := rfl
  unfold Builtin.«int.__new__»
  dsimp only
  have ht : numTextOf x = x.cps.toList := if_pos (by
    obtain ⟨cs, e, hc⟩ := hx
    rw [← Array.all_toList, List.all_eq_true, e]
    intro c hc'
    refine decide_eq_true ?_
    rcases List.mem_cons.mp hc' with rfl | hc'
    · omega
    · have := hc c hc'; unfold IsHex at this; omega)
  have hse : x.cps.toList.takeWhile (· != 0) = x.cps.toList := by
    obtain ⟨cs, e, hc⟩ := hx
    rw [e]
    have key : ∀ l : List Nat, (∀ c ∈ l, c ≠ 0) → l.takeWhile (· != 0) = l := by
      intro l
      induction l with
      | nil => intro _; rfl
      | cons c r ih =>
        intro hh
        have h0 : (c != 0) = true := by have := hh c (.head _); simp; omega
        rw [List.takeWhile_cons, h0]
        simp only [if_true]
        rw [ih fun d hd => hh d (.tail _ hd)]
    refine key _ fun c hc' => ?_
    rcases List.mem_cons.mp hc' with rfl | hc'
    · omega
    · have := hc c hc'; unfold IsHex at this; omega
  have hk : HidJ (((numTextOf x).takeWhile (· != 0)).length ≤ 640 ∧ (int_private% "readNumeral") 0 16 ((numTextOf x).takeWhile (· != 0)) = (int_private% "Numeral.invalid") ∧ (reprText x).length ≤ sizeLine) := by
    refine ⟨?_, ?_, ?_⟩
    · rw [ht, hse, Array.length_toList]; exact Nat.le_trans hl (by decide)
    · rw [ht, hse]
      obtain ⟨cs, e, hc⟩ := hx
      rw [e]; exact read_bad hc
    · have := StrLaws.reprText_len x (fun c hc' => by
        obtain ⟨cs, e, hc⟩ := hx
        rw [e] at hc'
        rcases List.mem_cons.mp hc' with rfl | hc'
        · decide
        · have := hc c hc'; unfold IsHex at this; omega)
      rw [sizeLine_eq]; omega
  clear hse ht hx hl
  repeat (any_goals (first
    | (with_reducible refine wpC_eq (if_neg (by simp)) ?_)
    | wp_step
    | (with_reducible refine wpC_bind (wpC_any ?_))))
  refine wpC_bind (wpC_any ?_)
  repeat (any_goals (first
    | (with_reducible refine wpC_eq (if_neg (by simp)) ?_)
    | wp_step))
  refine wpC_bind (wpC_any ?_)
  repeat (any_goals wp_step)
  dsimp only
  exact wpC_bind (wpC_bad (text := numTextOf x) hk.out.1 hk.out.2.1 hh hk.out.2.2 h)
theorem codeC_builtin {prog : Program} {w : World} {A : Around} {s : Shared} {R : Result → Shared → Prop} {id : String} {args : Args} {b : Builtin} (hb : entryFor table id = some b)
    (h : wpC (model prog w) (A.under (.builtin id args)) (b args)
      (fun fin s' => match fin with | .done f => R (.ok f) s' | .again c' => c'.quiet = true ∧ codeC (model prog w) A c' R s') (fun e s' => R (.error e) s') s) :
    codeC (model prog w) A (.builtin id args) R s := by
  refine codeC_of_tree ?_
  show wpC _ _ (match entryFor table id with | some b => b args | none => unsupported ((withoutEnding? id "#data").getD id)) _ _ s
  rw [hb]; exact h
theorem codeC_call_builtin {prog : Program} {w : World} {A : Around} {s : Shared} {R : Result → Shared → Prop} {id : String} {args : Args} {b : Builtin} (hq : plainId id = true) (hb : entryFor table id = some b)
    (hc : checkBuiltinCall id args = pure ())
    (h : wpC (model prog w) A.in1 (b args)
      (fun fin s' => match fin with | .done f => R (.ok f) s' | .again c' => c'.quiet = true ∧ codeC (model prog w) A c' R s') (fun e s' => R (.error e) s') s) :
    codeC (model prog w) A (.call (.builtin id) args) R s := by
  refine codeC_of_tree ?_
  show wpC _ A.in1 (callAny (.builtin id) args) _ _ s
  have hu : A.under (.builtin id args) = A.in1 := Around.under_plainId hq args
  have key : callAny (.builtin id) args = (checkBuiltinCall id args >>= fun _ => again (.builtin id args)) := rfl
  rw [key, hc]
  refine wpC_bind (wpC_pure ?_)
  exact wpC_pure ⟨plainId_quiet hq args, codeC_builtin hb (by rw [hu]; exact h)⟩
/-- int(text, 16) of a text that opens with g -/
theorem wpC_call_bad {prog : Program} {w : World} {A : Around} {E : Value → Shared → Prop} {s : Shared} {Q : Value → Shared → Prop} {x : PySem.Str} {u t : Tok}
    (hl : x.length ≤ 600) (hx : ∃ cs, x.cps.toList = 103 :: cs ∧ ∀ c ∈ cs, IsHex c) (hh : A.handled = none)
    (h : ∀ e h' tk', Heap.NewExc s.heap h' e "ValueError" → E (.ref e) { s with heap := h', toks := tk' }) :
    wpC (model prog w) A (call (.type "int") [.str x u, .int 16 t]) Q E s := by
  have ft := F.called_int
  obtain ⟨c, tl, hmro⟩ := ft.mro
  have hmade := ft.made
  have hsub := ft.sub
  refine wpC_call (codeC_of_tree ?_)
  show wpC _ _ (callAny (.type "int") _) _ _ _
  refine wpC_pure ⟨Code.quiet_builtin _ (by decide +kernel), codeC_builtin F.entry_type_call ?_⟩
  rw [Around.under_plain (weight_type_call_type "int" _ []) (units_type_call_type "int" _ [])]
  have h1 := ft.notType
  have h2 := ft.canCreate
  have hct := typeCall_int_2 (.str x u) (.int 16 t)
  unfold Builtin.«type.__call__»
  dsimp only
  refine wpC_eq (if_neg (by rw [h1]; exact Bool.false_ne_true)) ?_
  refine wpC_eq (if_neg (by rw [h2]; exact Bool.false_ne_true)) ?_
  rw [hct]
  refine wpC_bind (wpC_any (wpAny_pure ?_))
  rw [hmro]
  refine wpC_bind (wpC_any (wpAny_pure ?_))
  refine wpC_eq (if_neg Bool.false_ne_true) ?_
  rw [hmade]
  refine wpC_bind (wpC_any (wpAny_pure ?_))
  refine wpC_bind (wpC_any (wpAny_pure ?_))
  refine wpC_bind (wpC_holding (wpC_call (codeC_call_builtin ft.plain F.entry_int_new (newCall_int_2 _ _) ?_)))
  exact wpC_intNew_bad hl hx hh h
end Jl
end
section
open PySem PySem.W PySem.Calls PyProof.Rows
namespace Jl
variable {w : World} {p : Program} {loose : List Str} {mean : ExcName → Option Value} {mg mb : Str → Option Value} {dp un : Nat} {gd : Option (List Code)} {cn : Str} {cs : Scope} {a : Addr} {ccd : Value} {cl : List (Str × Addr)} {A₀ : Around} {base h₀ : Heap} {L : Addr} {m : Str → Option Value} {s : Shared} {Q E : Value → Shared → Prop} {news : List (Addr × Obj)}
set_option maxRecDepth 100000 in
set_option maxHeartbeats 8000000 in
theorem delbad_call (rx rd kid : Addr) (es : List DictEntry) (b : Int) (px : PySem.Str) (R : RolesAre w kid b px es) (B : Below A₀ base [] h₀) (XB : (hdJ.heap_39 w.params).In base) (TB : Top p loose mean mg mb base) (F : Fr h₀ L s.heap m) (X : (hdJ.heap_39 w.params).In h₀) (N : News h₀ L s.heap ((rx, instObj 139 rd) :: (rd, dictOf es 7) :: news)) (T : Top p loose mean mg mb h₀) (hk : cs.kind = .function) (hd : dp + 1 < recursionLimit) (hu : un + 8 < cLine)
  (x : PySem.Str) (t1 : Tok) (hb : x.length ≤ 60) (hp : px.length ≤ 10)
  (hst : Txt.startswith x (px ++ Str.ofString "-") = true) (hln : ((Txt.slice x (some ((px.length + (Str.ofString "-").length : Nat) : Int)) none).length : Int) = ((hexS (2 ^ b.toNat - 1) 1).length : Int))
  (hbad : ∃ cs, (Txt.slice x (some ((px.length + (Str.ofString "-").length : Nat) : Int)) none).cps.toList = 103 :: cs ∧ ∀ c ∈ cs, IsHex c)
  (hret : ∀ h' tk', Fr h₀ L h' m → News h₀ L h' ((rx, instObj 139 rd) :: (rd, dictOf es 7) :: news) → Q (.bool false) {s with heap := h', toks := tk'}) :
  wpC (model PySem.Challenge.rw_je0040_01.row.prog w) (ktrTop dp un gd cn cs L a ccd cl []) (call (.ref 136) [.ref rx, .str x t1]) Q E s := by
  k_with_none
  obtain ⟨ur, kk, rfl⟩ := R
  revert X XB
  k_fill
  intro X XB
  refine wpC_call ?_
  refine' codeC_defS0 ?k1 ?k2 ?k3 ?k4 ?k5 ?kA ?kF ?kK ?k6 ?k7 ?k8 ?k9 ?kB ?_ ?c2 ?c3 ?c4 ?c5
  case kA => exact rfl
  case kF => exact rfl
  case kK => assumption
  case k1 => assumption
  case k2 => assumption
  case k3 => assumption
  case k4 => assumption
  case k5 => assumption
  case k6 => k_is
  case k7 => k_is
  case k8 => ktr_room
  case k9 => exact BindsTo.of_eq rfl
  case c5 => decide
  case kB => exact locs rfl
  case c2 => exact rfl
  case c3 => exact rfl
  case c4 => exact rfl
  intro g' L' h' FG' F' N' B' X' T' D'
  (try dsimp only); (try k_lift B'); (try k_fold)
  clear N F
  refine wpC_execs_cons (wpC_any ?_)
  k_steps
  refine wpC_execs_cons (wpC_any ?_)
  k_steps
  (try dsimp only)
  refine wpC_execs_cons (wpC_any ?_)
  k_steps
  (try dsimp only)
  refine wpC_execs_cons (wpC_any ?_)
  k_steps
  · exact absurd hln (by assumption)
  (try dsimp only)
  refine wpC_execs_cons (wpC_Try ?_)
  refine wpC_execs_cons (wpC_Assign_Name (wpC_Call_Name ?_))
  k_steps
  refine wpC_callWith_type ?_
  k_steps
  refine wpC_call_bad ?hl hbad rfl ?_
  case hl =>
    show (Txt.slice x (some ((px.length + (Str.ofString "-").length : Nat) : Int)) none).length ≤ 600
    omega
  intro e h2 tk2 hx
  refine' first_SN ?fB hx ?fF ?fN ?_
  case fB => assumption
  case fF => k_asm
  case fN => k_asm
  intro G h3 FG3 R3 U3
  (try dsimp only at R3 U3 ⊢)
  k_steps
  exact hret _ _ (by assumption) (by assumption)
end Jl
end
section
open PySem PySem.W PySem.Calls PyProof.Rows PySem.Spec
open PyProof.Rows.LCg
open PySem.Sem (wp)
set_option maxRecDepth 100000
namespace Jl
section
variable {prog : Program} {w : World} {A : Around} {s : Shared} {E : Value → Shared → Prop} {env : Env} {h₀ : Heap} {L : Addr} {m : Str → Option Value}
theorem wpC_comp {e : Expr} {scope : Scope} {pos : Pos} {newAcc first : Sem Value} {g : Comprehension} {gs : List Comprehension} {cl : List (Str × Addr)} {Q : Value → Shared → Prop}
    (hcl : clausesOf e = g :: gs) (hs : ∀ x, foldedSetIterable g.iter env x = pure x) (hclos : closureFor scope env = pure cl)
    (hkind : scope.kind = .function) (hnames : ∀ x ∈ scope.names, x.2 = .local → scope.names.lookup x.1 = some .local)
    (h : wpAny (model prog w) A first (fun x s₁ => wpAny (model prog w) A (pyIter x) (fun it s₂ => wpAny (model prog w) A newAcc (fun acc s₃ =>
      wpAny (model prog w) A (newFunctionEnv scope env.globals cl [] env.qual none .none (some env)) (fun cenv s₄ =>
        codeC (model prog w) (A.mark none) (.compStart e 0 it acc { cenv with scope := relabel scope env }) (fun r s' => match r with
          | .ok _ => ∃ m, s'.heap.Ns cenv.locals m ∧ ∀ h', Heap.SameBut cenv.locals s'.heap h' → Q acc { s' with heap := h' }
          | .error _ => False) s₄) (fun _ _ => False) s₃) (fun _ _ => False) s₂) (fun _ _ => False) s₁) (fun _ _ => False) s) :
    wpC (model prog w) A (comprehension e scope env pos newAcc false first) Q E s := by
  refine wpC_quiet ?_
  unfold comprehension
  rw [hclos, hcl]
  refine wpC_bind (wpC_mono (wpC_any h) (fun x s₁ h₁ => wpC_bind (wpC_any (wpAny_standAt (wpC_bind (wpC_any (wpAny_of_eq (hs x) (wpC_bind (wpC_holding (wpC_mono (wpC_any h₁) (fun it s₂ h₂ => ?_)
      fun _ _ h' => h'))))))))) fun _ _ h' => h')
  rw [if_neg (by simp)]
  refine wpC_bind (wpC_mono (wpC_any h₂) (fun acc s₃ h₃ => wpC_bind (wpC_any (wpAny_pure (wpC_bind (wpC_mono (wpC_any h₃) (fun cenv s₄ h₄ => ?_) fun _ _ h' => h'))))) fun _ _ h' => h')
  dsimp only
  have hv : ∀ x ∈ (scope.names.filter fun x => (x.2 == .local || x.2 == .cell) && x.1 != (".0" : Str)).reverse, x.2 = .local →
      Env.kindOf { cenv with scope := relabel scope env } x.1 = some .local := fun x hx hl => lookup_relabel_local (hnames x (List.mem_filter.mp (List.mem_reverse.mp hx)).1 hl)
  refine wpC_holding (wpC_bind (wpC_attempt (wpC_holding (wpC_run (codeC_mono h₄ fun r s' hr => ?_)))))
  cases r with
  | ok f =>
    obtain ⟨m, hn, hr⟩ := hr
    exact wpC_any (wpAny_bind (wpAny_holding (wpAny_comp_letGo (cenv := { cenv with scope := relabel scope env }) hkind _ s' m hv hn fun h' m' _ hs' => wpAny_pure (hr h' hs'))))
  | error x => exact hr.elim
theorem codeC_compStart {elt target iter : Expr} {ifs : List Expr} {rest : List Comprehension} {scope : Scope} {pos : Pos} {it acc : Value} {R : Result → Shared → Prop}
    (h0 : codeC (model prog w) A (.compLoop (.ListComp elt (⟨target, iter, ifs, 0⟩ :: rest) scope pos) 0 it acc env) R s)
    (h : wpAny (model prog w) A (pyIter it) (fun it' s' => codeC (model prog w) A (.compLoop (.ListComp elt (⟨target, iter, ifs, 0⟩ :: rest) scope pos) 0 it' acc env) R s') (fun _ _ => False) s) :
    codeC (model prog w) A (.compStart (.ListComp elt (⟨target, iter, ifs, 0⟩ :: rest) scope pos) 0 it acc env) R s := by
  refine codeC_of_tree ?_
  show wpC _ A ((compStart (.ListComp elt (⟨target, iter, ifs, 0⟩ :: rest) scope pos) 0 it acc env).onRaise (fun x => do noteFrame x env; standAt theWindowsPlace)) _ _ s
  refine wpC_onRaise0 (wpC_any ?_)
  unfold compStart
  show wpAny _ A (ask >>= _) _ _ s
  refine wpAny_bind (wpAny_askSetting (wpAny_ite ?_))
  split
  · first
      | exact wpAny_bind (wpAny_pure (wpAny_pure (And.intro rfl h0)))
      | exact wpAny_pure (And.intro rfl h0)
  · first
      | exact wpAny_bind (wpAny_rule (wpAny_bind (wpAny_standAt (wpAny_bind (wpAny_mono h (fun it' s' h' => wpAny_pure (And.intro rfl h')) fun _ _ x => x)))))
      | (refine wpAny_bind (wpAny_rule ?_); show wpAny _ _ (standAt iter.pos >>= _) _ _ s; exact wpAny_bind (wpAny_standAt (wpAny_bind (wpAny_mono h (fun it' s' h' => wpAny_pure (And.intro rfl h')) fun _ _ x => x))))
theorem codeC_compLoop_none {elt target iter ct : Expr} {scope : Scope} {pos : Pos} {it acc : Value} {R : Result → Shared → Prop} (I : Nat → Shared → Prop)
    (turn : ∀ n s, I n s → wpAny (model prog w) A (pyNext it) (fun r s₁ => match r with
      | none => R (.ok .next) s₁
      | some v => wpAny (model prog w) A (assign target env v) (fun _ s₂ => wpC (model prog w) A (isTrue ct env (eval ct env)) (fun ok s₃ => ok = false ∧ ∃ m, m < n ∧ I m s₃) (fun _ _ => False) s₂) (fun _ _ => False) s₁) (fun _ _ => False) s)
    (n : Nat) (h : I n s) (ht : ∀ v, letOwnedTupleGo target it v = pure () := by intro _; rfl) :
    codeC (model prog w) A (.compLoop (.ListComp elt [⟨target, iter, [ct], 0⟩] scope pos) 0 it acc env) R s := by
  refine codeC_loop' rfl I (fun n s hI => ?_) n h
  show wpC _ A ((compTurn (.ListComp elt [⟨target, iter, [ct], 0⟩] scope pos) 0 it acc env).onRaise (fun x => do noteFrame x env; theTreesLotGoes x)) _ _ s
  refine wpC_onRaise0 ?_
  rw [compTurn_list]
  refine wpC_bind (wpC_any (wpAny_standAt (wpC_bind (wpC_mono (wpC_any (turn n s hI)) (fun r s₁ h₁ => ?_) fun _ _ h' => h'))))
  cases r with
  | none => exact wpC_pure h₁
  | some v =>
    refine wpC_bind (wpC_any (wpAny_of_eq (ht v) ?_))
    refine wpC_bind (wpC_mono (wpC_any h₁) (fun _ s₂ h₂ => ?_) fun _ _ h' => h')
    simp only [List.forIn_cons, List.forIn_nil, if_true]
    refine wpC_bind (wpC_bind (wpC_bind (wpC_mono h₂ (fun b s' hb => ?_) fun _ _ x => x)))
    obtain ⟨rfl, hb⟩ := hb
    refine wpC_pure (wpC_pure ?_)
    simp only [Bool.false_eq_true, if_false]
    exact wpC_pure (.inl ⟨rfl, hb⟩)
/-- a comprehension over a list of the ledger, of which no item passes the test -/
theorem wpC_ListComp_none {ct elt iter : Expr} {x : Str} {px : Pos} {scope : Scope} {cl : List (Str × Addr)} {pos : Pos} {Q : Value → Shared → Prop}
    (hclos : closureFor scope env = pure cl) (hcell : ∀ y ∈ scope.names, y.2 ≠ .cell) (hkind : scope.kind = .function)
    (hnames : ∀ y ∈ scope.names, y.2 = .local → scope.names.lookup y.1 = some .local) (hx : scope.names.lookup x = some .local) (hh : A.handled = none) (hE : (A.mark none) = A)
    (h : wpAny (model prog w) A (eval iter env) (fun xv s₁ => ∃ (ax : Addr) (its : Array Value) (news : List (Addr × Obj)), xv = .ref ax ∧ Fr h₀ L s₁.heap m ∧ News h₀ L s₁.heap news ∧ SrcAt h₀ ax its news ∧ its.size ≤ sizeLine ∧
      (∀ (i : Nat) (v : Value), its[i]? = some v → ∀ (I : Addr) (oI : Obj) (C : Addr) (oC : Obj) (D : Addr) (m₂ : Str → Option Value) (h : Heap) (tk : Nat), NsObj oC m₂ → m₂ x = some v → Fr h₀ L h m → News h₀ L h ((I, oI) :: (C, oC) :: (D, lst []) :: news) → Off3 I C D news → ((@Ne Nat I C) ∧ (@Ne Nat I D) ∧ (@Ne Nat C D)) →
        wpC (model prog w) A (isTrue ct (compEnvC scope cl C env) (eval ct (compEnvC scope cl C env))) (fun ok s' => ok = false ∧ ∃ h' tk', s' = { s₁ with heap := h', toks := tk' } ∧ Fr h₀ L h' m ∧ News h₀ L h' ((I, oI) :: (C, oC) :: (D, lst []) :: news)) (fun _ _ => False) { s₁ with heap := h, toks := tk }) ∧
      (∀ (D : Addr) (h : Heap) (tk : Nat), Fr h₀ L h m → News h₀ L h ((D, lst []) :: news) → Off1 D news → Q (.ref D) { s₁ with heap := h, toks := tk })) (fun _ _ => False) s)
    (hs : ∀ x, foldedSetIterable iter env x = pure x := by intro _; rfl) :
    wpC (model prog w) A (eval (.ListComp elt [⟨.Name x px, iter, [ct], 0⟩] scope pos) env) Q E s := by
  rw [eval_ListComp]
  refine wpC_comp rfl hs hclos hkind hnames (wpAny_mono h (fun xv s₁ h₁ => ?_) fun _ _ e => e)
  obtain ⟨ax, its, news, rfl, F, N, S, hsz, turn, fin⟩ := h₁
  have hl := S.list F.keep N
  have hlt : ax < s₁.heap.objs.size := by obtain ⟨_, e, _⟩ := hl; exact Heap.lt_size e
  refine wpAny_pyIter_list hl ?_
  have up : ∀ b o, s₁.heap.get? b = some o → (s₁.heap.push { cls := .type "list_iterator", data := .fields #[.ref ax, .int 0 0] }).get? b = some o := fun b o e => Heap.get?_push_of_some _ e
  have W := Walks.list (prog := prog) (w := w) hh s₁.heap.objs.size ax (Nat.ne_of_lt hlt) its
  have hst : (s₁.heap.push { cls := .type "list_iterator", data := .fields #[.ref ax, .int 0 0] }).IsListIter s₁.heap.objs.size ax 0 ∧ (s₁.heap.push { cls := .type "list_iterator", data := .fields #[.ref ax, .int 0 0] }).IsList ax its := ⟨⟨_, Heap.get?_push_size _ rfl, rfl, rfl⟩, hl.push _⟩
  have F₂ := F.keeps up
  have N₂ : News h₀ L (s₁.heap.push { cls := .type "list_iterator", data := .fields #[.ref ax, .int 0 0] }) news := N.grown up
  have hIL : L ≠ s₁.heap.objs.size := Nat.ne_of_lt F.ns.lt
  have hI₀ : h₀.get? s₁.heap.objs.size = none := next_is_new F
  have off : ∀ p ∈ news, p.1 ≠ s₁.heap.objs.size := fun p hp => Nat.ne_of_lt (Heap.lt_size (N p hp).1)
  have hsize : (s₁.heap.push { cls := .type "list_iterator", data := .fields #[.ref ax, .int 0 0] }).objs.size = s₁.heap.objs.size + 1 := Heap.size_push ..
  generalize hH : s₁.heap.push { cls := .type "list_iterator", data := .fields #[.ref ax, .int 0 0] } = H at *
  generalize hI : s₁.heap.objs.size = I at *
  have hIH : I < H.objs.size := by omega
  refine wpAny_newObj_type (wpAny_newFunctionEnv hcell (by intro y hy; simp at hy) (fun h₁ hns₁ hsb₁ => ?_) hkind)
  dsimp only at hns₁ hsb₁ ⊢
  generalize hH2 : H.push { cls := .type "list", dict := none, data := .seq ([] : List Value).toArray } = H2 at hns₁ hsb₁ ⊢
  have hC : H2.objs.size = H.objs.size + 1 := by rw [← hH2, Heap.size_push]
  have hDC : H.objs.size ≠ H2.objs.size := by rw [hC]; exact Nat.ne_of_lt (Nat.lt_succ_self _)
  have below : ∀ b, b < H.objs.size → b ≠ H2.objs.size ∧ b ≠ H.objs.size := fun b hb => ⟨by rw [hC]; exact Nat.ne_of_lt (Nat.lt_succ_of_lt hb), Nat.ne_of_lt hb⟩
  have old : ∀ b o, H.get? b = some o → h₁.get? b = some o := fun b o e => hsb₁.extBut b o (below b (Heap.lt_size e)).1 (Heap.get?_push_of_some _ (hH2 ▸ Heap.get?_push_of_some _ e))
  have hacc : h₁.get? H.objs.size = some (lst []) := hsb₁.extBut _ _ hDC (Heap.get?_push_of_some _ (hH2 ▸ Heap.get?_push_size _ rfl))
  have hst₁ : h₁.IsListIter I ax 0 ∧ h₁.IsList ax its := W.frame _ _ _ hst fun b _ o e => old b o e
  have fresh : ∀ a, H.objs.size ≤ a → H.get? a = none := fun a ha => by
    cases e : H.get? a with
    | none => rfl
    | some o' => exact absurd (Heap.lt_size e) (Nat.not_lt.mpr ha)
  have fresh₀ : ∀ a, H.objs.size ≤ a → h₀.get? a = none := fun a ha => by
    cases e : h₀.get? a with
    | none => rfl
    | some o' => have := F₂.keep a o' e; rw [fresh a ha] at this; cases this
  have hD₀ : h₀.get? H.objs.size = none := fresh₀ _ (Nat.le_refl _)
  have hC₀ : h₀.get? H2.objs.size = none := fresh₀ _ (by rw [hC]; exact Nat.le_succ _)
  have hLlt : L < H.objs.size := F₂.ns.lt
  have hDL : H.objs.size ≠ L := Ne.symm (below L hLlt).2
  have hCL : H2.objs.size ≠ L := Ne.symm (below L hLlt).1
  have hCI : I ≠ H2.objs.size := (below I hIH).1
  have hDI : I ≠ H.objs.size := (below I hIH).2
  have off₀ : Off3 I H2.objs.size H.objs.size news := Off3.of fun p hp => ⟨off p hp, (below _ (Heap.lt_size (N₂ p hp).1)).1, (below _ (Heap.lt_size (N₂ p hp).1)).2⟩
  have off3 := off₀.mem
  rw [hE]
  have loop : ∀ s₃ : Shared, s₃ = { s₁ with heap := h₁, toks := s₁.toks + ([] : List (Str × Value)).length } →
      codeC (model prog w) A (.compLoop (.ListComp elt [⟨.Name x px, iter, [ct], 0⟩] scope pos) 0 (.ref I) (.ref H.objs.size) (compEnvC scope cl H2.objs.size env))
        (fun r s' => match r with
          | .ok _ => ∃ m, s'.heap.Ns H2.objs.size m ∧ ∀ h', Heap.SameBut H2.objs.size s'.heap h' → Q (.ref H.objs.size) { s' with heap := h' }
          | .error _ => False) s₃ := by
    rintro s₃ rfl
    refine codeC_compLoop_none
      (fun k s' => ∃ h' tk i m', s' = { s₁ with heap := h', toks := tk } ∧ i ≤ its.size ∧ k = its.size + 1 - i ∧ (h'.IsListIter I ax i ∧ h'.IsList ax its) ∧ Fr h₀ L h' m ∧ h'.Ns H2.objs.size m' ∧ News h₀ L h' ((H.objs.size, lst []) :: news)) ?_ (its.size + 1)
      ⟨h₁, _, 0, _, rfl, Nat.zero_le _, rfl, hst₁, F₂.keeps old, hns₁, fun p hp => ?_⟩
    · rintro k s' ⟨h', tk, i, m', rfl, hi, rfl, hst', F', hn', N'⟩
      by_cases hlt' : i < its.size
      · refine W.item i _ _ _ hlt' hst' fun v h₂ tk₂ hPv hst₂ hk₂ => ?_
        refine wpAny_assign_Name (wpAny_storeName_local (lookup_relabel_local hx) (hn'.at' fun o e => hk₂ _ o (by simpa using Ne.symm hCI) e) (fun h₃ hn₃ hs₃ => ?_) (by simp [compEnvC, relabel, hkind]))
        have hCf : H2.objs.size ∉ [I, ax] := by
          simp only [List.mem_cons, List.not_mem_nil, or_false, not_or]
          refine ⟨Ne.symm hCI, fun q => ?_⟩
          have hax : ax < H2.objs.size := by rw [hC]; exact Nat.lt_succ_of_lt (Nat.lt_trans hlt hIH)
          exact absurd q (Nat.ne_of_gt hax)
        have hst₃ : h₃.IsListIter I ax (i + 1) ∧ h₃.IsList ax its := W.frame _ _ _ hst₂ fun b hb o e => hs₃.extBut b o (fun q => hCf (by have q' : b = H2.objs.size := q; rw [← q']; exact hb)) e
        obtain ⟨oI, heI, _⟩ := id hst₃.1
        obtain ⟨oC, heC, hoC⟩ := ns_obj hn₃
        have F₃ : Fr h₀ L h₃ m := (fr_but F' hk₂ hIL hI₀).change hs₃ hCL hC₀
        have N₂' : News h₀ L h₂ ((H.objs.size, lst []) :: news) := news_but N' hk₂ fun p hp => by
          rcases List.mem_cons.mp hp with rfl | hp
          · exact Ne.symm hDI
          · exact (off3 p hp).1
        have N₃ : News h₀ L h₃ ((I, oI) :: (H2.objs.size, oC) :: (H.objs.size, lst []) :: news) := fun p hp => by
          rcases List.mem_cons.mp hp with rfl | hp
          · exact ⟨heI, Ne.symm hIL, hI₀⟩
          · rcases List.mem_cons.mp hp with rfl | hp
            · exact ⟨heC, hCL, hC₀⟩
            · have z := N₂' p hp
              refine ⟨hs₃.extBut _ _ ?_ z.1, z.2⟩
              rcases List.mem_cons.mp hp with rfl | hp
              · exact hDC
              · exact (off3 p hp).2.1
        refine wpC_mono (turn i v hPv I oI H2.objs.size oC H.objs.size _ h₃ _ hoC (by simp) F₃ N₃ off₀ ⟨hCI, hDI, Ne.symm hDC⟩) (fun ok s₄ h₄ => ?_) fun _ _ e => e
        obtain ⟨rfl, h₄, tk₄, rfl, F₄, N₄⟩ := h₄
        have zI := (N₄ (I, oI) List.mem_cons_self).1
        have zC := (N₄ (H2.objs.size, oC) (List.mem_cons_of_mem _ List.mem_cons_self)).1
        have N₄' : News h₀ L h₄ ((H.objs.size, lst []) :: news) := fun p hp => N₄ p (List.mem_cons_of_mem _ (List.mem_cons_of_mem _ hp))
        have hl4 : h₄.IsList ax its := S.list F₄.keep fun p hp => N₄' p (List.mem_cons_of_mem _ hp)
        have hi4 : h₄.IsListIter I ax (i + 1) := by
          obtain ⟨o', q, r⟩ := hst₃.1
          rw [heI] at q; cases q
          exact ⟨oI, zI, r⟩
        exact ⟨rfl, its.size + 1 - (i + 1), by omega, h₄, tk₄, i + 1, _, rfl, hlt', rfl, ⟨hi4, hl4⟩, F₄, hoC.ns zC, N₄'⟩
      · obtain rfl : i = its.size := Nat.le_antisymm hi (Nat.not_lt.mp hlt')
        refine W.done _ _ _ hst' fun h₂ tk₂ hk₂ => ?_
        have N₂' : News h₀ L h₂ ((H.objs.size, lst []) :: news) := news_but N' hk₂ fun p hp => by
          rcases List.mem_cons.mp hp with rfl | hp
          · exact Ne.symm hDI
          · exact (off3 p hp).1
        refine ⟨_, hn'.at' fun o e => hk₂ _ o (by simpa using Ne.symm hCI) e, fun h'' hs'' => fin _ h'' tk₂ ((fr_but F' hk₂ hIL hI₀).change hs'' hCL hC₀) (fun p hp => ?_) off₀.one⟩
        refine ⟨hs''.extBut _ _ ?_ (N₂' p hp).1, (N₂' p hp).2⟩
        rcases List.mem_cons.mp hp with rfl | hp
        · exact hDC
        · exact (off3 p hp).2.1
    · rcases List.mem_cons.mp hp with rfl | hp
      · exact ⟨hacc, hDL, hD₀⟩
      · exact ⟨old _ _ (N₂ p hp).1, (N₂ p hp).2⟩
  exact codeC_compStart (loop _ rfl) (W.self 0 _ _ _ hst₁ (loop _ rfl))
end
end Jl
end
section
open PySem PySem.W PySem.Spec PySem.Calls PyProof.Rows
open PyProof.Rows.LCg PyProof.Rows.LCt
namespace Jl
variable {w : World} {p : Program} {loose : List Str} {mean : ExcName → Option Value} {mg mb : Str → Option Value} {h₀ : Heap} {L fa : Addr} {cd : Value} {m : Str → Option Value} {s : Shared} {Q : Flow → Shared → Prop} {E : Value → Shared → Prop} {news : List (Addr × Obj)} {ys : List Value}
set_option maxRecDepth 100000 in
set_option maxHeartbeats 8000000 in
theorem turn_none (B : Below callerA h₀ [] h₀) (F : Fr h₀ L s.heap m) (X : (hdJ.heap_39 w.params).In h₀) (T : Top p loose mean mg mb h₀)
  (rx rd kid : Addr) (es : List DictEntry) (o4 : Obj) (b : Int) (px : PySem.Str) (R : RolesAre w kid b px es) (hp : px.length ≤ 10) (h4 : o4.data = Data.cell (some (.ref rx)))
  (D : Addr) (k : Nat) (hm1 : m (Str.ofString "others") = some (.ref D)) (hys : ys.length ≤ 100) (hrf : Refused px b ys)
  (N : News h₀ L s.heap ((rx, instObj 139 rd) :: (rd, dictOf es 7) :: (D, PySem.W.listOf ys.toArray k) :: (L + 1 + 1 + 1 + 1, o4) :: news))
  (hret : ∀ h' tk', Fr h₀ L h' m → News h₀ L h' ((rx, instObj 139 rd) :: (rd, dictOf es 7) :: (D, PySem.W.listOf ys.toArray k) :: (L + 1 + 1 + 1 + 1, o4) :: news) → Q .next {s with heap := h', toks := tk'}) :
  wpC (model PySem.Challenge.rw_je0040_01.row.prog w) (callerA.deeper (lawEnv L fa cd)) (exec (forSt 9) (lawEnv L fa cd)) Q E s := by
  have F0 := fr_in F hm1
  clear F
  have R0 := R
  obtain ⟨ur, kk, hes⟩ := R
  k_with_none
  revert X
  k_fill
  intro X
  unfold lawEnv
  conv => arg 3; arg 1; whnf
  generalize hsc : lawScope = sc
  conv at hsc => lhs; whnf
  subst hsc
  refine wpC_If (wpC_isTrue_Compare1 ?_)
  refine wpC_ListComp_none (h₀ := h₀) (L := L) (m := fun y => if y = Str.ofString "others" then some (.ref D) else m y) (by with_unfolding_all rfl) (by decide) (by rfl) (by decide) (by rfl) (by rfl) (by rfl) ?_
  refine wpAny_mono (Q := fun v s' => Stop (∃ h' tk', s' = { s with heap := h', toks := tk' } ∧ v = .ref D ∧ Fr h₀ L h' (fun y => if y = Str.ofString "others" then some (.ref D) else m y) ∧ News h₀ L h' ((rx, instObj 139 rd) :: (rd, dictOf es 7) :: (D, PySem.W.listOf ys.toArray k) :: (L + 1 + 1 + 1 + 1, o4) :: news))) ?_ (fun v s' h => ?_) (fun _ _ x => x)
  · k_steps
    unfold Stop
    exact ⟨_, _, rfl, rfl, F0, N⟩
  obtain ⟨h3, tk3, rfl, rfl, F3, N3⟩ := h
  clear N F0
  refine ⟨D, ys.toArray, _, rfl, F3, N3, .inr ⟨_, .tail _ (.tail _ (.head _)), rfl, _, rfl⟩, by rw [List.size_toArray, sizeLine_eq]; omega, ?turn, ?fin⟩
  case fin =>
    intro D3 h' tk' F' N' o1
    refine wpC_any ?_
    (try dsimp only); (try k_fold)
    k_steps
    rename_i l5 h5 F5 N5 _
    show wpC _ _ (compareOp .NotEq (.ref D3) (.ref l5)) _ _ _
    refine wpC_any (ne_same (xs := []) (ys := []) (ka := 0) (kb := 0) (ds := []) N5 (.tail _ (.head _)) rfl rfl .nil (.head _) rfl rfl .nil (fun d hd => nomatch hd) (show callerA.units + 3 + 64 < cLine by decide) ?_)
    refine wpC_any ?_
    (try dsimp only); (try k_fold)
    k_steps
    refine wpC_execs_nil ?_
    exact hret h5 _ (fr_out F5 hm1) (fun p hp => N5 p (.tail _ (.tail _ hp)))
  case turn =>
    intro i v hv' I oI C oC D3 m₂ h tk hC hx F4 N4 off ne
    obtain ⟨x, tv, rfl, hx3⟩ : ∃ x t, v = Value.str x t ∧ (NotName px b x ∨ BadName px b x) := hrf v (by
      have := List.mem_of_getElem? (l := ys) (i := i) (a := v) (by rw [← hv']; exact (List.getElem?_toArray).symm)
      exact this)
    have off0 := off
    (try simp only [LCg.Off3] at off)
    rw [hes] at N4
    refine wpC_isTrue_Compare1 ?_
    refine wpC_MethodCall ?_
    (try dsimp only); (try k_fold)
    k_steps
    (try dsimp only); (try k_fold)
    refine wpC_callWith_K (K := hdJ.heap_39 w.params) (by k_is) ?_
    k_steps
    have N40 := N4
    rw [← hes] at N40
    have N5 : News h₀ L h ((rx, instObj 139 rd) :: (rd, dictOf es 7) :: (I, oI) :: (C, oC) :: (D3, lst []) :: (D, PySem.W.listOf ys.toArray k) :: (L + 1 + 1 + 1 + 1, o4) :: news) := news_swap [(I, oI), (C, oC), (D3, lst [])] [(rx, instObj 139 rd), (rd, dictOf es 7)] _ N40
    clear N4 N40
    rcases hx3 with ⟨hl, hrd, hdel⟩ | ⟨hl, hst, hln, hbad⟩
    · refine wpC_any (del_call rx rd kid es b px R0 B F4 X N5 T rfl (by decide) (by decide) x _ hl hp hrd ?_)
      intro h6 tk6 F6 N6
      rw [hdel]
      have N7 : News h₀ L h6 ((I, oI) :: (C, oC) :: (D3, lst []) :: (rx, instObj 139 rd) :: (rd, dictOf es 7) :: (D, PySem.W.listOf ys.toArray k) :: (L + 1 + 1 + 1 + 1, o4) :: news) := news_swap [(rx, instObj 139 rd), (rd, dictOf es 7)] [(I, oI), (C, oC), (D3, lst [])] _ N6
      clear N5 N6
      refine wpC_any ?_
      (try dsimp only); (try k_fold)
      k_steps
      (try dsimp only); (try k_fold)
      refine wpC_any ?_
      k_steps
      (try dsimp only); (try k_fold)
      refine wpC_any ?_
      k_steps
      all_goals assumption
    · refine delbad_call rx rd kid es b px R0 B X T F4 X N5 T rfl (by decide) (by decide) x _ hl hp hst hln hbad ?_
      intro h6 tk6 F6 N6
      skip
      have N7 : News h₀ L h6 ((I, oI) :: (C, oC) :: (D3, lst []) :: (rx, instObj 139 rd) :: (rd, dictOf es 7) :: (D, PySem.W.listOf ys.toArray k) :: (L + 1 + 1 + 1 + 1, o4) :: news) := news_swap [(rx, instObj 139 rd), (rd, dictOf es 7)] [(I, oI), (C, oC), (D3, lst [])] _ N6
      clear N5 N6
      refine wpC_any ?_
      (try dsimp only); (try k_fold)
      k_steps
      (try dsimp only); (try k_fold)
      refine wpC_any ?_
      k_steps
      (try dsimp only); (try k_fold)
      refine wpC_any ?_
      k_steps
      all_goals assumption
theorem turn_more8_shape : ∃ pos, forSt 8 = .If (testOf (forSt 8)) [forIf 8 0] [] pos := ⟨_, by with_unfolding_all rfl⟩
theorem turn_more8 (B : Below callerA h₀ [] h₀) (F : Fr h₀ L s.heap m) (X : (hdJ.heap_39 w.params).In h₀) (T : Top p loose mean mg mb h₀)
  (b : Int) (tb tp : Tok) (px : PySem.Str) (suf : PySem.Str) (ts : Tok) (d r D : Addr) (od o1 o2 o3 : Obj) (vs : List Value) (n : Nat) (ns : List Int) (at0 : Int) (hds : (d == sysModules) = false) (hI : IntsAre vs ns) (hlen : ns.length ≤ 72) (h1 : o1.data = Data.cell (some (.ref d)))
  (DW : WD w r od at0) (ha0 : 0 ≤ at0) (ha1 : at0 ≤ 900) (hne : ∀ q ∈ (r, PySem.W.listOf vs.toArray n) :: (D, PySem.W.listOf ys.toArray 0) :: (L + 1 + 1 + 1, o3) :: (L + 1 + 1, o2) :: (L + 1, o1) :: news, q.1 ≠ d)
  (hDd : d ≠ D) (hDr : r ≠ D) (hDn : ∀ q ∈ (L + 1 + 1 + 1, o3) :: (L + 1 + 1, o2) :: (L + 1, o1) :: news, q.1 ≠ D) (hys : ys.length ≤ 6) (hrf : Refused px b ys) (hsl : suf.length = sufL b)
  (h2 : o2.data = Data.cell (some (.int b tb))) (h3 : o3.data = Data.cell (some (.str px tp))) (hb1 : 1 ≤ b) (hb32 : b ≤ 32) (hp : px.length ≤ 10)
  (hm1 : m (Str.ofString "suffix") = some (.str suf ts)) (hm2 : m (Str.ofString "others") = some (.ref D))
  (N : News h₀ L s.heap ((d, od) :: (r, PySem.W.listOf vs.toArray n) :: (D, PySem.W.listOf ys.toArray 0) :: (L + 1 + 1 + 1, o3) :: (L + 1 + 1, o2) :: (L + 1, o1) :: news))
  (hret : ∀ ys' k od' at' h' tk', Fr h₀ L h' m → News h₀ L h' ((d, od') :: (r, PySem.W.listOf vs.toArray n) :: (D, PySem.W.listOf ys'.toArray k) :: (L + 1 + 1 + 1, o3) :: (L + 1 + 1, o2) :: (L + 1, o1) :: news) → WD w r od' at' → at0 ≤ at' → at' ≤ at0 + 1 → ys'.length ≤ 7 → Refused px b ys' → Q .next {s with heap := h', toks := tk'}) :
  wpAny (model PySem.Challenge.rw_je0040_01.row.prog w) (callerA.deeper (lawEnv L fa cd)) (exec (forSt 8) (lawEnv L fa cd)) Q E s := by
  have hs8' := sufL_small hb1 hb32
  obtain ⟨pos, e⟩ := turn_more8_shape
  rw [e]
  refine wpAny_If ?_
  refine turn_more8_t F X T o2 b tb h2 hb1 hb32 suf ts hm1 (by omega) (by omega) (news := (d, od) :: (r, PySem.W.listOf vs.toArray n) :: (D, PySem.W.listOf ys.toArray 0) :: (L + 1 + 1 + 1, o3) :: (L + 1, o1) :: news) (by have N' := news_pickT [4, 0, 1, 2, 3, 5] 6 N; exact N') fun h1' tk1 F1 N1 => ?_
  replace N1 : News h₀ L h1' ((d, od) :: (r, PySem.W.listOf vs.toArray n) :: (D, PySem.W.listOf ys.toArray 0) :: (L + 1 + 1 + 1, o3) :: (L + 1 + 1, o2) :: (L + 1, o1) :: news) := (by have N' := news_pickT [1, 2, 3, 4, 0, 5] 6 N1; exact N')
  by_cases hlt : (2 : Int) ^ b.toNat < 16 ^ suf.length
  · rw [decide_eq_true hlt, if_pos rfl]
    refine wpAny_execs_cons ?_
    refine turn_more8_a B F1 X T b tb tp px suf ts d r D od o1 o2 o3 vs n ns at0 hds hI hlen h1 DW ha0 ha1 hne hDd hDr hDn (by omega) hrf hsl h2 h3 hb1 hb32 hp hm1 hm2 (by omega) (by omega) hlt N1 fun ys' k od' h2' tk2 F2 N2 D2 hy2 hr2 => ?_
    refine wpAny_execs_nil ?_
    exact hret ys' k od' (at0 + 1) h2' tk2 F2 N2 D2 (by omega) (by omega) (by omega) hr2
  · rw [decide_eq_false hlt, if_neg (by decide)]
    refine wpAny_execs_nil ?_
    exact hret ys 0 od at0 h1' tk1 F1 N1 DW (by omega) (by omega) (by omega) hrf
end Jl
end
section
open PySem PySem.W PySem.Spec PySem.Calls PyProof.Rows
open PyProof.Rows.LCg PyProof.Rows.LCt
namespace Jl
theorem upd_is (m : Str → Option Value) (a : Str) (v : Value) : ∃ m' : Str → Option Value, m' = (fun y => if y = a then some v else m y) ∧ m' a = some v ∧ ∀ y, y ≠ a → m' y = m y := ⟨_, rfl, if_pos rfl, fun _ h => if_neg h⟩
/-- what the law's statements 0 to 4 have made, and what of it stays -/
structure Ctx (w : World) (L fx fd fkid rx rd kid d r : Addr) (fes es : List DictEntry) (o1 o2 o3 o4 : Obj) (b : Int) (tb : Tok) (px : PySem.Str) (tp : Tok) (vs : List Value) (ns : List Int) : Prop where
  R : RolesAre w kid b px es
  Rf : RolesAre w fkid (if b + 1 < 32 then b + 1 else 32) px fes
  hb1 : 1 ≤ b
  hb32 : b ≤ 32
  hp : px.length ≤ 10
  hpx : ∀ c ∈ px.cps.toList, c < 128
  hpx0 : ∃ c r, px.cps.toList ++ [45] = c :: r ∧ 120 ≠ c
  h1 : o1.data = Data.cell (some (.ref d))
  h2 : o2.data = Data.cell (some (.int b tb))
  h3 : o3.data = Data.cell (some (.str px tp))
  h4 : o4.data = Data.cell (some (.ref rx))
  hds : (d == sysModules) = false
  hI : IntsAre vs ns
  hlen : ns.length ≤ 72
  a1 : @LT.lt Nat _ (L + 1 + 1 + 1 + 1) r
  a2 : @LT.lt Nat _ r d
  a3 : @LT.lt Nat _ d rd
  a4 : @LT.lt Nat _ rd rx
  a5 : @LT.lt Nat _ rx fd
  a6 : @LT.lt Nat _ fd fx
variable {w : World} {p : Program} {loose : List Str} {mean : ExcName → Option Value} {mg mb : Str → Option Value} {h₀ : Heap} {L fa : Addr} {cd : Value} {m : Str → Option Value} {s : Shared} {Q : Flow → Shared → Prop} {E : Value → Shared → Prop}
variable {fx fd fkid rx rd kid d r : Addr} {fes es : List DictEntry} {od o1 o2 o3 o4 : Obj} {b : Int} {tb : Tok} {px : PySem.Str} {tp : Tok} {vs : List Value} {n : Nat} {ns : List Int} {at0 : Int}
theorem turn_shape : bodyOfFor (lawSt 7) = [forSt 0, forSt 1, forSt 2, forSt 3, forSt 4, forSt 5, forSt 6, forSt 7, forSt 8, forSt 9] := by with_unfolding_all rfl
set_option maxRecDepth 100000 in
set_option maxHeartbeats 8000000 in
theorem turn_all (C : Ctx w L fx fd fkid rx rd kid d r fes es o1 o2 o3 o4 b tb px tp vs ns) (B : Below callerA h₀ [] h₀) (X : (hdJ.heap_39 w.params).In h₀) (T : Top p loose mean mg mb h₀)
  (I : Addr) (oI : Obj) (a7 : @LT.lt Nat _ fx I) (F : Fr h₀ L s.heap m) (hmf : m (Str.ofString "finer") = some (.ref fx)) (N : News h₀ L s.heap ((fx, instObj 139 fd) :: (fd, dictOf fes 7) :: (rx, instObj 139 rd) :: (rd, dictOf es 7) :: (d, od) :: (r, PySem.W.listOf vs.toArray n) :: (L + 1 + 1 + 1 + 1, o4) :: (L + 1 + 1 + 1, o3) :: (L + 1 + 1, o2) :: (L + 1, o1) :: (I, oI) :: [])) (DW : WD w r od at0) (ha0 : 0 ≤ at0) (ha1 : at0 ≤ 800)
  (hret : ∀ (m' : Str → Option Value) od' at' h' tk', Fr h₀ L h' m' → m' (Str.ofString "finer") = some (.ref fx) → News h₀ L h' ((fx, instObj 139 fd) :: (fd, dictOf fes 7) :: (rx, instObj 139 rd) :: (rd, dictOf es 7) :: (d, od') :: (r, PySem.W.listOf vs.toArray n) :: (L + 1 + 1 + 1 + 1, o4) :: (L + 1 + 1 + 1, o3) :: (L + 1 + 1, o2) :: (L + 1, o1) :: (I, oI) :: []) → WD w r od' at' → at0 ≤ at' → at' ≤ at0 + 10 → Q .next {s with heap := h', toks := tk'}) :
  wpC (model PySem.Challenge.rw_je0040_01.row.prog w) (callerA.deeper (lawEnv L fa cd)) (execs (bodyOfFor (lawSt 7)) (lawEnv L fa cd)) Q E s := by
  obtain ⟨R, Rf, hb1, hb32, hp, hpx, hpx0, c1, c2, c3, c4, hds, hI, hlen, a1, a2, a3, a4, a5, a6⟩ := C
  have b1 : @LT.lt Nat _ d rx := Nat.lt_trans a3 a4
  have b2 : @LT.lt Nat _ d fd := Nat.lt_trans b1 a5
  have b3 : @LT.lt Nat _ d fx := Nat.lt_trans b2 a6
  have b4 : @LT.lt Nat _ d I := Nat.lt_trans b3 a7
  have c4d : @LT.lt Nat _ (L + 1 + 1 + 1 + 1) d := Nat.lt_trans a1 a2
  have c3d : @LT.lt Nat _ (L + 1 + 1 + 1) d := Nat.lt_of_succ_lt c4d
  have c2d : @LT.lt Nat _ (L + 1 + 1) d := Nat.lt_of_succ_lt c3d
  have c1d : @LT.lt Nat _ (L + 1) d := Nat.lt_of_succ_lt c2d
  have h64 : (4294967291 : Int) < 4294967296 := by decide
  rw [turn_shape]
  refine wpC_execs_cons (wpC_any ?_)
  refine turn_path B F X T d r od o1 vs n ns at0 hds hI hlen c1 DW ha0 (Int.le_trans ha1 (by decide)) (Nat.ne_of_lt a2) (Nat.ne_of_lt c1d) (news := [(fx, instObj 139 fd), (fd, dictOf fes 7), (rx, instObj 139 rd), (rd, dictOf es 7), (L + 1 + 1 + 1 + 1, o4), (L + 1 + 1 + 1, o3), (L + 1 + 1, o2), (I, oI)]) (off_cons (Nat.ne_of_gt b3) (off_cons (Nat.ne_of_gt b2) (off_cons (Nat.ne_of_gt b1) (off_cons (Nat.ne_of_gt a3) (off_cons (Nat.ne_of_lt c4d) (off_cons (Nat.ne_of_lt c3d) (off_cons (Nat.ne_of_lt c2d) (off_cons (Nat.ne_of_gt b4) off_nil)))))))) (by have N' := news_pick [4, 5, 9, 0, 1, 2, 3, 6, 7, 8, 10] N; exact N') fun x tx od1 at1 h1 tk1 F1 N1 DW1 hl1 hg1 hxl hxa => ?_
  obtain ⟨m1, e1, p1, q1⟩ := upd_is m (Str.ofString "path") (.str x tx)
  rw [← e1] at F1
  refine wpC_execs_cons (wpC_any ?_)
  refine turn_first B F1 X T x tx p1 hxl hxa N1 fun l bs k h2 tk2 F2 N2 lt2 hd0 hd1 hbs => ?_
  obtain ⟨m2, e2, p2, q2⟩ := upd_is m1 (Str.ofString "first") (.ref l)
  rw [← e2] at F2
  have hbits := bitsL_length (sufG (digF (bytesOf x)) 8).cps.toList
  rw [sufG_list_len] at hbits
  have h01 := bitsL_01 (sufG_hex (digF (bytesOf x)) 8)
  refine wpC_execs_cons (wpC_any ?_)
  refine turn_number B F2 X T l bs k (bitsL (sufG (digF (bytesOf x)) 8).cps.toList) p2 hbs hbits h01 o2 b tb c2 hb1 hb32 (news := [(fx, instObj 139 fd), (fd, dictOf fes 7), (rx, instObj 139 rd), (rd, dictOf es 7), (d, od1), (r, PySem.W.listOf vs.toArray n), (L + 1 + 1 + 1 + 1, o4), (L + 1 + 1 + 1, o3), (L + 1, o1), (I, oI)]) (by have N' := news_pick [0, 10, 4, 5, 6, 7, 1, 2, 8, 9, 3, 11] N2; exact N') fun tn h3 tk3 F3 N3 => ?_
  rw [numS_take hd0 hd1 (by omega) hb32] at F3
  have hn0 := (bin_bnd (b := b) hd0 hd1).1
  have hn9 := (bin_bnd (b := b) hd0 hd1).2
  have hn1 := bin_lt hb1 hb32 hd0 (Int.lt_trans hd1 h64)
  obtain ⟨m3, e3, p3, q3⟩ := upd_is m2 (Str.ofString "number") (.int ((digF (bytesOf x)).fdiv (2 ^ (32 - b).toNat)) tn)
  rw [← e3] at F3
  have p3a : m3 (Str.ofString "path") = some (.str x tx) := (q3 _ (by decide +kernel)).trans ((q2 _ (by decide +kernel)).trans p1)
  refine wpC_execs_cons (wpC_any ?_)
  refine turn_name B F3 X T rx rd kid es o4 b px R hp hb1 hb32 c4 x tx p3a hxl hxa (news := [(fx, instObj 139 fd), (fd, dictOf fes 7), (l, PySem.W.listOf bs.toArray k), (d, od1), (r, PySem.W.listOf vs.toArray n), (L + 1 + 1 + 1, o3), (L + 1 + 1, o2), (L + 1, o1), (I, oI)]) (by have N' := news_pick [4, 5, 8, 2, 3, 0, 6, 7, 9, 1, 10, 11] N3; exact N') fun tm h4 tk4 F4 N4 => ?_
  obtain ⟨m4, e4, p4, q4⟩ := upd_is m3 (Str.ofString "name") (.str (roleV px b (digF (bytesOf x))) tm)
  rw [← e4] at F4
  have p4a : m4 (Str.ofString "number") = some (.int ((digF (bytesOf x)).fdiv (2 ^ (32 - b).toNat)) tn) := (q4 _ (by decide +kernel)).trans p3
  refine wpC_execs_cons (wpC_any ?_)
  refine turn_check B F4 X T rx rd kid es o2 o3 o4 b tb tp px R hp hb1 hb32 c2 c3 c4 ((digF (bytesOf x)).fdiv (2 ^ (32 - b).toNat)) tn tm p4a p4 hn0 hn1 (news := [(fx, instObj 139 fd), (fd, dictOf fes 7), (l, PySem.W.listOf bs.toArray k), (d, od1), (r, PySem.W.listOf vs.toArray n), (L + 1, o1), (I, oI)]) (by have N' := news_pick [0, 1, 2, 8, 9, 3, 4, 5, 6, 7, 10, 11] N4; exact N') fun h5 tk5 F5 N5 => ?_
  have p5a : m4 (Str.ofString "path") = some (.str x tx) := (q4 _ (by decide +kernel)).trans p3a
  have p5b : m4 (Str.ofString "first") = some (.ref l) := (q4 _ (by decide +kernel)).trans ((q3 _ (by decide +kernel)).trans p2)
  have p5c : m4 (Str.ofString "finer") = some (.ref fx) := (q4 _ (by decide +kernel)).trans ((q3 _ (by decide +kernel)).trans ((q2 _ (by decide +kernel)).trans ((q1 _ (by decide +kernel)).trans hmf)))
  refine wpC_execs_cons (wpC_any ?_)
  refine turn_more B F5 X T l fx fd fkid fes bs k o2 o3 b tb tp px Rf hp hb1 hb32 c2 c3 x tx tn p5a p5b p4a p5c hxl hxa hd0 hd1 hbs (news := [(rx, instObj 139 rd), (rd, dictOf es 7), (d, od1), (r, PySem.W.listOf vs.toArray n), (L + 1 + 1 + 1 + 1, o4), (L + 1, o1), (I, oI)]) (by have N' := news_pick [5, 6, 7, 3, 4, 0, 1, 8, 9, 2, 10, 11] N5; exact N') fun m6 h6 tk6 F6 q6 N6 => ?_
  have p6a : m6 (Str.ofString "number") = some (.int ((digF (bytesOf x)).fdiv (2 ^ (32 - b).toNat)) tn) := (q6 _ (by decide +kernel)).trans p4a
  have p6c : m6 (Str.ofString "finer") = some (.ref fx) := (q6 _ (by decide +kernel)).trans p5c
  refine wpC_execs_cons (wpC_any ?_)
  refine turn_suffix B F6 X T o2 b tb c2 hb1 hb32 ((digF (bytesOf x)).fdiv (2 ^ (32 - b).toNat)) tn p6a hn0 hn9 (news := [(fx, instObj 139 fd), (fd, dictOf fes 7), (rx, instObj 139 rd), (rd, dictOf es 7), (d, od1), (r, PySem.W.listOf vs.toArray n), (L + 1 + 1 + 1 + 1, o4), (L + 1 + 1 + 1, o3), (L + 1, o1), (I, oI)]) (by have N' := news_pick [4, 0, 1, 5, 6, 7, 8, 9, 3, 10, 11] N6; exact N') fun ts h7 tk7 F7 N7 => ?_
  obtain ⟨m7, e7, p7, q7⟩ := upd_is m6 (Str.ofString "suffix") (.str (sufG ((digF (bytesOf x)).fdiv (2 ^ (32 - b).toNat)) (sufL b)) ts)
  rw [← e7] at F7
  have hsl := sufG_length ((digF (bytesOf x)).fdiv (2 ^ (32 - b).toNat)) (sufL b)
  have hs8 := sufL_small hb1 hb32
  have hsx := sufG_hex ((digF (bytesOf x)).fdiv (2 ^ (32 - b).toNat)) (sufL b)
  refine wpC_execs_cons (wpC_any ?_)
  refine turn_others B F7 X T o3 px tp c3 hp (sufG ((digF (bytesOf x)).fdiv (2 ^ (32 - b).toNat)) (sufL b)) ts p7 (by omega) (by omega) b hb1 hb32 hpx0 hsl hsx (news := [(fx, instObj 139 fd), (fd, dictOf fes 7), (rx, instObj 139 rd), (rd, dictOf es 7), (d, od1), (r, PySem.W.listOf vs.toArray n), (L + 1 + 1 + 1 + 1, o4), (L + 1 + 1, o2), (L + 1, o1), (I, oI)]) (by have N' := news_pick [8, 1, 2, 3, 4, 5, 6, 7, 0, 9, 10] N7; exact N') fun D ys h8 tk8 F8 N8 lt8 hy8 rf8 => ?_
  have hdD : @LT.lt Nat _ d D := lt8.2.2.2.2.2.1
  have hrD : @LT.lt Nat _ r D := lt8.2.2.2.2.2.2.1
  obtain ⟨m8, e8, p8, q8⟩ := upd_is m7 (Str.ofString "others") (.ref D)
  rw [← e8] at F8
  have p8a : m8 (Str.ofString "suffix") = some (.str (sufG ((digF (bytesOf x)).fdiv (2 ^ (32 - b).toNat)) (sufL b)) ts) := (q8 _ (by decide +kernel)).trans p7
  refine wpC_execs_cons (wpC_any ?_)
  refine turn_more8 B F8 X T b tb tp px (sufG ((digF (bytesOf x)).fdiv (2 ^ (32 - b).toNat)) (sufL b)) ts d r D od1 o1 o2 o3 vs n ns at1 hds hI hlen c1 DW1 (by omega) (by omega) (off_cons (Nat.ne_of_lt a2) (off_cons (Nat.ne_of_gt hdD) (off_cons (Nat.ne_of_lt c3d) (off_cons (Nat.ne_of_lt c2d) (off_cons (Nat.ne_of_lt c1d) (off_cons (Nat.ne_of_gt b3) (off_cons (Nat.ne_of_gt b2) (off_cons (Nat.ne_of_gt b1) (off_cons (Nat.ne_of_gt a3) (off_cons (Nat.ne_of_lt c4d) (off_cons (Nat.ne_of_gt b4) off_nil))))))))))) (Nat.ne_of_lt hdD) (Nat.ne_of_lt hrD) (fun q hq => allLt_ne (show AllLt D [(L + 1 + 1 + 1, o3), (fx, instObj 139 fd), (fd, dictOf fes 7), (rx, instObj 139 rd), (rd, dictOf es 7), (d, od1), (r, PySem.W.listOf vs.toArray n), (L + 1 + 1 + 1 + 1, o4), (L + 1 + 1, o2), (L + 1, o1), (I, oI)] from lt8) q (pick_mem (is := [0, 8, 9, 1, 2, 3, 4, 7, 10]) hq)) (by omega) rf8 hsl c2 c3 hb1 hb32 hp p8a p8 (news := [(fx, instObj 139 fd), (fd, dictOf fes 7), (rx, instObj 139 rd), (rd, dictOf es 7), (L + 1 + 1 + 1 + 1, o4), (I, oI)]) (by have N' := news_pick [6, 7, 0, 1, 9, 10, 2, 3, 4, 5, 8, 11] N8; exact N') fun ys9 k9 od9 at9 h9 tk9 F9 N9 DW9 hl9 hg9 hy9 rf9 => ?_
  refine wpC_execs_cons ?_
  refine turn_none B F9 X T rx rd kid es o4 b px R hp c4 D k9 p8 (by omega) rf9 (news := [(fx, instObj 139 fd), (fd, dictOf fes 7), (d, od9), (r, PySem.W.listOf vs.toArray n), (L + 1 + 1 + 1, o3), (L + 1 + 1, o2), (L + 1, o1), (I, oI)]) (by have N' := news_pick [8, 9, 2, 10, 6, 7, 0, 1, 3, 4, 5, 11] N9; exact N') fun h10 tk10 F10 N10 => ?_
  refine wpC_execs_nil ?_
  exact hret m8 od9 at9 h10 tk10 F10 ((q8 _ (by decide +kernel)).trans ((q7 _ (by decide +kernel)).trans p6c)) (by have N' := news_pick [4, 5, 0, 1, 6, 7, 3, 8, 9, 10, 11] N10; exact N') DW9 (by omega) (by omega)
end Jl
end
section
open PySem PySem.W PySem.Spec PySem.Calls PyProof.Rows
namespace Jl
noncomputable def iterOf : Stmt → Expr
  | .For _ i _ _ _ => i
  | _ => .Constant .none 0 default
noncomputable def targetOf : Stmt → Expr
  | .For t _ _ _ _ => t
  | _ => .Constant .none 0 default
variable {w : World} {p : Program} {loose : List Str} {mean : ExcName → Option Value} {mg mb : Str → Option Value} {h₀ : Heap} {L fa : Addr} {cd : Value} {m : Str → Option Value} {s : Shared} {E : Value → Shared → Prop} {news : List (Addr × Obj)}
set_option maxRecDepth 100000 in
set_option maxHeartbeats 8000000 in
theorem law_s7i (F : Fr h₀ L s.heap m) (X : (hdJ.heap_39 w.params).In h₀) (T : Top p loose mean mg mb h₀) (N : News h₀ L s.heap news) :
  wpAny (model PySem.Challenge.rw_je0040_01.row.prog w) (callerA.deeper (lawEnv L fa cd)) (eval (iterOf (lawSt 7)) (lawEnv L fa cd)) (fun v s₁ => ∃ h rg t u v' tk, s₁ = { s with heap := h, toks := tk } ∧ v = .ref rg ∧ IsRange h rg 0 (0 + ((4 : Nat) : Int)) 1 t u v' ∧ Fr h₀ L h m ∧ News h₀ L h news) E s := by
  k_with_none
  revert X
  k_fill
  intro X
  refine wpAny_mono (Q := fun v s₁ => Stop (∃ h rg t u v' tk, s₁ = { s with heap := h, toks := tk } ∧ v = Value.ref rg ∧ IsRange h rg 0 4 1 t u v' ∧ Fr h₀ L h m ∧ News h₀ L h news)) ?_ (fun v s' h => by unfold Stop at h; exact h) (fun _ _ x => x)
  generalize hte : iterOf (lawSt 7) = te
  conv at hte => lhs; whnf
  subst hte
  unfold lawEnv
  generalize hsc : lawScope = sc
  conv at hsc => lhs; whnf
  subst hsc
  k_steps
  unfold Stop
  exact ⟨_, _, _, _, _, _, rfl, rfl, by assumption, by assumption, by assumption⟩
set_option maxRecDepth 100000 in
set_option maxHeartbeats 8000000 in
theorem law_s7a {Q : Unit → Shared → Prop} {v : Value} (F : Fr h₀ L s.heap m) (X : (hdJ.heap_39 w.params).In h₀) (T : Top p loose mean mg mb h₀) (N : News h₀ L s.heap news)
  (hret : ∀ h' tk', Fr h₀ L h' (fun y => if y = Str.ofString "turn" then some v else m y) → News h₀ L h' news → Q () { s with heap := h', toks := tk' }) :
  wpAny (model PySem.Challenge.rw_je0040_01.row.prog w) (callerA.deeper (lawEnv L fa cd)) (assign (targetOf (lawSt 7)) (lawEnv L fa cd) v) Q E s := by
  k_with_none
  revert X
  k_fill
  intro X
  generalize hte : targetOf (lawSt 7) = te
  conv at hte => lhs; whnf
  subst hte
  unfold lawEnv
  generalize hsc : lawScope = sc
  conv at hsc => lhs; whnf
  subst hsc
  refine wpAny_assign_Name ?_
  k_steps
  rename_i h9 F9 N9
  exact hret h9 _ F9 N9
set_option maxRecDepth 100000 in
set_option maxHeartbeats 8000000 in
theorem law_s8i (F : Fr h₀ L s.heap m) (X : (hdJ.heap_39 w.params).In h₀) (T : Top p loose mean mg mb h₀) (N : News h₀ L s.heap news) :
  wpAny (model PySem.Challenge.rw_je0040_01.row.prog w) (callerA.deeper (lawEnv L fa cd)) (eval (iterOf (lawSt 8)) (lawEnv L fa cd)) (fun v s₁ => ∃ h rg t u v' tk, s₁ = { s with heap := h, toks := tk } ∧ v = .ref rg ∧ IsRange h rg (-2) (-2 + ((38 : Nat) : Int)) 1 t u v' ∧ Fr h₀ L h m ∧ News h₀ L h news) E s := by
  k_with_none
  revert X
  k_fill
  intro X
  refine wpAny_mono (Q := fun v s₁ => Stop (∃ h rg t u v' tk, s₁ = { s with heap := h, toks := tk } ∧ v = Value.ref rg ∧ IsRange h rg (-2) 36 1 t u v' ∧ Fr h₀ L h m ∧ News h₀ L h news)) ?_ (fun v s' h => by unfold Stop at h; exact h) (fun _ _ x => x)
  generalize hte : iterOf (lawSt 8) = te
  conv at hte => lhs; whnf
  subst hte
  unfold lawEnv
  generalize hsc : lawScope = sc
  conv at hsc => lhs; whnf
  subst hsc
  k_steps
  unfold Stop
  exact ⟨_, _, _, _, _, _, rfl, rfl, by assumption, by assumption, by assumption⟩
set_option maxRecDepth 100000 in
set_option maxHeartbeats 8000000 in
theorem law_s8a {Q : Unit → Shared → Prop} {v : Value} {o2 : Obj} {v2 : Option Value} (F : Fr h₀ L s.heap m) (X : (hdJ.heap_39 w.params).In h₀) (T : Top p loose mean mg mb h₀) (h2 : o2.data = Data.cell v2) (I : Addr) (oI : Obj) (hI : @LT.lt Nat _ (L + 1 + 1) I) (N : News h₀ L s.heap ((L + 1 + 1, o2) :: (I, oI) :: []))
  (hret : ∀ h' o2' tk', o2'.data = Data.cell (some v) → Fr h₀ L h' m → News h₀ L h' ((L + 1 + 1, o2') :: (I, oI) :: []) → Q () { s with heap := h', toks := tk' }) :
  wpAny (model PySem.Challenge.rw_je0040_01.row.prog w) (callerA.deeper (lawEnv L fa cd)) (assign (targetOf (lawSt 8)) (lawEnv L fa cd) v) Q E s := by
  k_with_none
  revert X
  k_fill
  intro X
  generalize hte : targetOf (lawSt 8) = te
  conv at hte => lhs; whnf
  subst hte
  unfold lawEnv
  generalize hsc : lawScope = sc
  conv at hsc => lhs; whnf
  subst hsc
  refine wpAny_assign_Name ?_
  k_steps
  rename_i h9 o9 F9 N9 d9
  exact hret h9 o9 _ d9 F9 N9
end Jl
end
section
open PySem PySem.W PySem.Calls PyProof.Rows PySem.Spec
open PyProof.Rows.LCg
open PySem.Sem (wp)
set_option maxRecDepth 100000
namespace Jl
section
variable {prog : Program} {w : World} {A : Around} {s : Shared} {E : Value → Shared → Prop} {env : Env} {h₀ : Heap} {L : Addr}
/-- a for over a range in the logic C, by an invariant over the frame's names and the ledger -/
theorem wpC_For_range {target iter : Expr} {body : List Stmt} {pos : Pos} {Q : Flow → Shared → Prop} (P : Nat → (Str → Option Value) → List (Addr × Obj) → Prop) (m₀ : Str → Option Value) (nx₀ : List (Addr × Obj)) (a : Int) (n : Nat) (hh : A.handled = none) (hE : A.mark none = A)
    (hsm : Builtin.Range.small a (a + (n : Int)) 1 = true) (hn : Builtin.Range.rangeSize a (a + (n : Int)) 1 = ((n : Nat) : Int)) (hP : P 0 m₀ nx₀)
    (hiter : wpAny (model prog w) A (eval iter env) (fun v s₁ => ∃ h rg t u v' tk, s₁ = { s with heap := h, toks := tk } ∧ v = .ref rg ∧ IsRange h rg a (a + (n : Int)) 1 t u v' ∧ Fr h₀ L h m₀ ∧ News h₀ L h nx₀) (fun _ _ => False) s)
    (turn : ∀ (i : Nat) (m : Str → Option Value) (nx : List (Addr × Obj)) (I : Addr) (oI : Obj) (h : Heap) (tk : Nat) (t : Tok), i < n → P i m nx → (∀ p ∈ nx₀, @LT.lt Nat _ p.1 I) → Fr h₀ L h m → News h₀ L h ((I, oI) :: nx) → (∀ p ∈ nx, p.1 ≠ I) →
      wpAny (model prog w) A (assign target env (.int (a + (i : Int)) t)) (fun _ s₂ => wpC (model prog w) A (execs body env) (fun f s₃ => f = .next ∧ ∃ h' tk' m' nx', s₃ = { s with heap := h', toks := tk' } ∧ Fr h₀ L h' m' ∧ News h₀ L h' ((I, oI) :: nx') ∧ (∀ p ∈ nx', p.1 ≠ I) ∧ P (i + 1) m' nx') (fun _ _ => False) s₂) (fun _ _ => False) { s with heap := h, toks := tk })
    (fin : ∀ m nx h tk, P n m nx → Fr h₀ L h m → News h₀ L h nx → Q .next { s with heap := h, toks := tk })
    (hs : ∀ x, foldedSetIterable iter env x = pure x := by intro _; rfl) (ht : ∀ v I, letOwnedTupleGo target (.ref I) v = pure () := by intro _ _; rfl) :
    wpC (model prog w) A (exec (.For target iter body [] pos) env) Q E s := by
  refine wpC_For ?_ hs
  refine wpAny_mono hiter (fun v s₁ h₁ => ?_) fun _ _ e => e
  obtain ⟨h, rg, t, u, v', tk, rfl, rfl, hr, F, N⟩ := h₁
  refine wpAny_pyIter_range hr hsm ?_
  have W := range_walks (prog := prog) (w := w) (I := h.objs.size) hh a n
  have hIL : L ≠ h.objs.size := Nat.ne_of_lt F.ns.lt
  have hI₀ : h₀.get? h.objs.size = none := next_is_new F
  have hlt : ∀ p ∈ nx₀, @LT.lt Nat _ p.1 h.objs.size := fun p hp => Heap.lt_size (N p hp).1
  rw [hE]
  refine codeC_forLoop (fun k s' => ∃ h' tk i m nx, s' = { s with heap := h', toks := tk } ∧ i ≤ n ∧ k = n + 1 - i ∧ IsRangeIter h' h.objs.size (a + (i : Nat) * 1) ((n : Int) - (i : Nat)) 1 ∧ Fr h₀ L h' m ∧ News h₀ L h' nx ∧ (∀ p ∈ nx, p.1 ≠ h.objs.size) ∧ P i m nx) ?_ (n + 1)
    ⟨_, _, 0, m₀, nx₀, rfl, Nat.zero_le _, rfl, by show IsRangeIter _ _ _ _ _; rw [hn]; simpa using Heap.get?_push_size _ rfl, F.keeps fun _ _ e => Heap.get?_push_of_some _ e, N.grown fun _ _ e => Heap.get?_push_of_some _ e, fun p hp => Nat.ne_of_lt (hlt p hp), hP⟩ (fun v => ht v _)
  generalize h.objs.size = I at *
  rintro k s' ⟨h', tk', i, m, nx, rfl, hi, rfl, hst, F', N', off, hP'⟩
  by_cases hlti : i < n
  · refine W.item i _ _ _ hlti hst fun v h₂ tk₂ hPv hst₂ hk₂ => ?_
    obtain ⟨tv, rfl⟩ := hPv
    have F₂ := fr_but F' hk₂ hIL hI₀
    have N₂ := news_but N' hk₂ off
    have hst' : h₂.get? I = some _ := hst₂
    have N₃ : News h₀ L h₂ ((I, _) :: nx) := fun p hp => by
      rcases List.mem_cons.mp hp with rfl | hp
      · exact ⟨hst', Ne.symm hIL, hI₀⟩
      · exact N₂ p hp
    refine wpAny_mono (turn i m nx I _ h₂ tk₂ tv hlti hP' hlt F₂ N₃ off) (fun _ s₂ h2 => ?_) fun _ _ e => e
    refine wpC_mono h2 (fun f s₃ h3 => ?_) fun _ _ e => e
    obtain ⟨rfl, h4, tk4, m', nx', rfl, F4, N4, off4, P4⟩ := h3
    exact ⟨n + 1 - (i + 1), by omega, h4, tk4, i + 1, m', nx', rfl, hlti, rfl, (N4 _ (.head _)).1, F4, fun p hp => N4 p (.tail _ hp), off4, P4⟩
  · obtain rfl : i = n := Nat.le_antisymm hi (Nat.not_lt.mp hlti)
    refine W.done _ _ _ hst fun h₂ tk₂ hk₂ => ?_
    exact fin m nx h₂ tk₂ hP' (fr_but F' hk₂ hIL hI₀) (news_but N' hk₂ off)
end
end Jl
end
section
open PySem PySem.W PySem.Spec PySem.Calls PyProof.Rows
open PyProof.Rows.LCg PyProof.Rows.LCt
namespace Jl
variable {w : World} {p : Program} {loose : List Str} {mean : ExcName → Option Value} {mg mb : Str → Option Value} {h₀ : Heap} {L fa : Addr} {cd : Value} {m : Str → Option Value} {s : Shared} {Q : Flow → Shared → Prop} {E : Value → Shared → Prop}
variable {fx fd fkid rx rd kid d r : Addr} {fes es : List DictEntry} {od o1 o2 o3 o4 : Obj} {b : Int} {tb : Tok} {px : PySem.Str} {tp : Tok} {vs : List Value} {n : Nat} {ns : List Int} {at0 : Int}
theorem law_s7_shape : ∃ pos, lawSt 7 = .For (targetOf (lawSt 7)) (iterOf (lawSt 7)) (bodyOfFor (lawSt 7)) [] pos := ⟨_, by with_unfolding_all rfl⟩
theorem law_s8_shape : ∃ pos, lawSt 8 = .For (targetOf (lawSt 8)) (iterOf (lawSt 8)) [for8St 0] [] pos := ⟨_, by with_unfolding_all rfl⟩
set_option maxRecDepth 100000 in
set_option maxHeartbeats 8000000 in
theorem law_s7 (C : Ctx w L fx fd fkid rx rd kid d r fes es o1 o2 o3 o4 b tb px tp vs ns) (B : Below callerA h₀ [] h₀) (X : (hdJ.heap_39 w.params).In h₀) (T : Top p loose mean mg mb h₀)
  (F : Fr h₀ L s.heap m) (hmf : m (Str.ofString "finer") = some (.ref fx)) (N : News h₀ L s.heap ((fx, instObj 139 fd) :: (fd, dictOf fes 7) :: (rx, instObj 139 rd) :: (rd, dictOf es 7) :: (d, od) :: (r, PySem.W.listOf vs.toArray n) :: (L + 1 + 1 + 1 + 1, o4) :: (L + 1 + 1 + 1, o3) :: (L + 1 + 1, o2) :: (L + 1, o1) :: [])) (DW : WD w r od at0) (ha0 : 0 ≤ at0) (ha1 : at0 ≤ 700)
  (hret : ∀ (m' : Str → Option Value) h' tk', Fr h₀ L h' m' → News h₀ L h' ((L + 1 + 1, o2) :: []) → Q .next {s with heap := h', toks := tk'}) :
  wpC (model PySem.Challenge.rw_je0040_01.row.prog w) (callerA.deeper (lawEnv L fa cd)) (exec (lawSt 7) (lawEnv L fa cd)) Q E s := by
  have C0 := C
  obtain ⟨R, Rf, hb1, hb32, hp, hpx, hpx0, c1, c2, c3, c4, hds, hI, hlen, a1, a2, a3, a4, a5, a6⟩ := C
  obtain ⟨pos, e⟩ := law_s7_shape
  rw [e]
  refine wpC_For_range (h₀ := h₀) (L := L) (fun i m nx => m (Str.ofString "finer") = some (.ref fx) ∧ ∃ od at', nx = (fx, instObj 139 fd) :: (fd, dictOf fes 7) :: (rx, instObj 139 rd) :: (rd, dictOf es 7) :: (d, od) :: (r, PySem.W.listOf vs.toArray n) :: (L + 1 + 1 + 1 + 1, o4) :: (L + 1 + 1 + 1, o3) :: (L + 1 + 1, o2) :: (L + 1, o1) :: [] ∧ WD w r od at' ∧ 0 ≤ at' ∧ at' ≤ at0 + 10 * (i : Int)) m ((fx, instObj 139 fd) :: (fd, dictOf fes 7) :: (rx, instObj 139 rd) :: (rd, dictOf es 7) :: (d, od) :: (r, PySem.W.listOf vs.toArray n) :: (L + 1 + 1 + 1 + 1, o4) :: (L + 1 + 1 + 1, o3) :: (L + 1 + 1, o2) :: (L + 1, o1) :: []) 0 4 rfl rfl (by decide +kernel) (by decide +kernel) ⟨hmf, od, at0, rfl, DW, ha0, by omega⟩ (law_s7i F X T N) ?turn ?fin (by intro _; with_unfolding_all rfl) (by intro _ _; with_unfolding_all rfl)
  case fin =>
    rintro m' nx h tk ⟨_, od', at', rfl, _⟩ F' N'
    exact hret m' h tk F' (by have N' := news_pick [8] N'; exact N')
  case turn =>
    rintro i m' nx I oI h tk t hi ⟨hmf', od', at', rfl, DW', h0', h1'⟩ hlt F' N' off
    have a7 : @LT.lt Nat _ fx I := hlt (fx, instObj 139 fd) (.head _)
    refine law_s7a F' X T N' fun h2 tk2 F2 N2 => ?_
    refine turn_all (n := n) C0 B X T I oI a7 F2 ((if_neg (by decide +kernel)).trans hmf') (by have N' := news_pick [1, 2, 3, 4, 5, 6, 7, 8, 9, 10, 0] N2; exact N') DW' h0' (by omega) fun m3 od3 at3 h3 tk3 F3 q3 N3 DW3 hl3 hg3 => ?_
    exact ⟨rfl, h3, tk3, m3, (fx, instObj 139 fd) :: (fd, dictOf fes 7) :: (rx, instObj 139 rd) :: (rd, dictOf es 7) :: (d, od3) :: (r, PySem.W.listOf vs.toArray n) :: (L + 1 + 1 + 1 + 1, o4) :: (L + 1 + 1 + 1, o3) :: (L + 1 + 1, o2) :: (L + 1, o1) :: [], rfl, F3, (by have N' := news_pick [10, 0, 1, 2, 3, 4, 5, 6, 7, 8, 9] N3; exact N'), off_same off rfl, q3, od3, at3, rfl, DW3, by omega, by omega⟩
set_option maxRecDepth 100000 in
set_option maxHeartbeats 8000000 in
theorem for8_turn (B : Below callerA h₀ [] h₀) (X : (hdJ.heap_39 w.params).In h₀) (T : Top p loose mean mg mb h₀)
  (F : Fr h₀ L s.heap m) (I : Addr) (oI : Obj) (b : Int) (h2 : o2.data = Data.cell (some (.int b tb))) (hb0 : -10 ≤ b) (hb1 : b ≤ 40) (N : News h₀ L s.heap ((L + 1 + 1, o2) :: (I, oI) :: []))
  (hret : ∀ h' tk', Fr h₀ L h' m → News h₀ L h' ((L + 1 + 1, o2) :: (I, oI) :: []) → Q .next {s with heap := h', toks := tk'}) :
  wpC (model PySem.Challenge.rw_je0040_01.row.prog w) (callerA.deeper (lawEnv L fa cd)) (exec (for8St 0) (lawEnv L fa cd)) Q E s := by
  k_with_none
  revert X
  k_fill
  intro X
  unfold lawEnv
  conv => arg 3; arg 1; whnf
  generalize hsc : lawScope = sc
  conv at hsc => lhs; whnf
  subst hsc
  refine wpC_If (wpC_isTrue_Compare1 (wpC_Call_Name ?_))
  k_steps
  (try dsimp only); (try k_fold)
  refine wpC_callWith_K (K := hdJ.heap_39 w.params) (by k_is) ?_
  k_steps
  (try dsimp only); (try k_fold)
  refine refused_call B X T F X N T rfl (by decide) (by decide) b _ hb0 hb1 ?_
  intro h6 tk6 F6 N6
  clear F N
  refine wpC_any ?_
  (try dsimp only); (try k_fold)
  k_steps
  · rename_i hb
    rw [decide_eq_true (Or.inl hb : b < 1 ∨ 32 < b), decide_eq_true hb]
    refine wpC_any ?_
    (try dsimp only); (try k_fold)
    k_steps
    (try dsimp only); (try k_fold)
    refine wpC_any ?_
    k_steps
    refine wpC_execs_nil ?_
    exact hret h6 _ F6 N6
  · have e : decide (b < 1 ∨ 32 < b) = decide (32 < b) := decide_eq_decide.mpr ⟨fun h => by omega, fun h => .inr h⟩
    rw [e]
    generalize decide (32 < b) = q
    cases q
    · refine wpC_any ?_
      (try dsimp only); (try k_fold)
      k_steps
      (try dsimp only); (try k_fold)
      refine wpC_any ?_
      k_steps
      refine wpC_execs_nil ?_
      exact hret h6 _ F6 N6
    · refine wpC_any ?_
      (try dsimp only); (try k_fold)
      k_steps
      (try dsimp only); (try k_fold)
      refine wpC_any ?_
      k_steps
      refine wpC_execs_nil ?_
      exact hret h6 _ F6 N6
theorem law_s8 (B : Below callerA h₀ [] h₀) (X : (hdJ.heap_39 w.params).In h₀) (T : Top p loose mean mg mb h₀)
  (F : Fr h₀ L s.heap m) (b : Int) (h2 : o2.data = Data.cell (some (.int b tb))) (N : News h₀ L s.heap ((L + 1 + 1, o2) :: []))
  (hret : ∀ (m' : Str → Option Value) h' tk' nx, Fr h₀ L h' m' → News h₀ L h' nx → Q .next {s with heap := h', toks := tk'}) :
  wpC (model PySem.Challenge.rw_je0040_01.row.prog w) (callerA.deeper (lawEnv L fa cd)) (exec (lawSt 8) (lawEnv L fa cd)) Q E s := by
  obtain ⟨pos, e⟩ := law_s8_shape
  rw [e]
  refine wpC_For_range (h₀ := h₀) (L := L) (fun i m nx => ∃ o2 v2, nx = (L + 1 + 1, o2) :: [] ∧ o2.data = Data.cell v2) m ((L + 1 + 1, o2) :: []) (-2) 38 rfl rfl (by decide +kernel) (by decide +kernel) ⟨o2, _, rfl, h2⟩ (law_s8i F X T N) ?turn ?fin (by intro _; with_unfolding_all rfl) (by intro _ _; with_unfolding_all rfl)
  case fin =>
    rintro m' nx h tk _ F' N'
    exact hret m' h tk nx F' N'
  case turn =>
    rintro i m' nx I oI h tk t hi ⟨o3, v2, rfl, h2'⟩ hlt F' N' off
    have a7 : @LT.lt Nat _ (L + 1 + 1) I := hlt (L + 1 + 1, o2) (.head _)
    refine law_s8a (o2 := o3) F' X T h2' I oI a7 (by have N' := news_pick [1, 0] N'; exact N') fun h3 o4 tk3 d4 F3 N3 => ?_
    refine wpC_execs_cons ?_
    refine for8_turn B X T F3 I oI (-2 + (i : Int)) d4 (by omega) (by omega) N3 fun h4 tk4 F4 N4 => ?_
    refine wpC_execs_nil ?_
    exact ⟨rfl, h4, tk4, m', _, rfl, F4, (by have N' := news_pick [1, 0] N4; exact N'), (fun p hp => by rw [List.mem_singleton.mp hp]; exact Nat.ne_of_lt a7), o4, _, rfl, d4⟩
end Jl
end
section
open PySem PySem.W PySem.Spec PySem.Calls PyProof.Rows
namespace Jl
theorem law_shape : lawBody = [lawSt 0, lawSt 1, lawSt 2, lawSt 3, lawSt 4, lawSt 5, lawSt 6, lawSt 7, lawSt 8, lawSt 9] := by with_unfolding_all rfl
theorem px_facts {px : PySem.Str} (h : px = Str.ofString "bin" ∨ px = Str.ofString "" ∨ px = Str.ofString "a-b" ∨ px = Str.ofString "f") : px.length ≤ 10 ∧ (∀ c ∈ px.cps.toList, c < 128) ∧ ∃ c r, px.cps.toList ++ [45] = c :: r ∧ 120 ≠ c := by
  rcases h with rfl | rfl | rfl | rfl
  · exact ⟨by decide, by decide +kernel, 98, [105, 110, 45], by decide +kernel, by decide⟩
  · exact ⟨by decide, by decide +kernel, 45, [], by decide +kernel, by decide⟩
  · exact ⟨by decide, by decide +kernel, 97, [45, 98, 45], by decide +kernel, by decide⟩
  · exact ⟨by decide, by decide +kernel, 102, [45], by decide +kernel, by decide⟩
variable {w : World} {p : Program} {loose : List Str} {mean : ExcName → Option Value} {mg mb : Str → Option Value} {h₀ : Heap} {L fa : Addr} {cd : Value} {m : Str → Option Value} {s : Shared} {Q : Flow → Shared → Prop} {E : Value → Shared → Prop} {news : List (Addr × Obj)}
set_option maxRecDepth 100000 in
set_option maxHeartbeats 8000000 in
theorem law_s9 (F : Fr h₀ L s.heap m) (X : (hdJ.heap_39 w.params).In h₀) (T : Top p loose mean mg mb h₀) (N : News h₀ L s.heap news)
  (hret : ∀ h' tk', Fr h₀ L h' m → News h₀ L h' news → Q (.ret (.bool true)) {s with heap := h', toks := tk'}) :
  wpAny (model PySem.Challenge.rw_je0040_01.row.prog w) (callerA.deeper (lawEnv L fa cd)) (exec (lawSt 9) (lawEnv L fa cd)) Q E s := by
  k_with_none
  revert X
  k_fill
  intro X
  unfold lawEnv
  conv => arg 3; arg 1; whnf
  generalize hsc : lawScope = sc
  conv at hsc => lhs; whnf
  subst hsc
  k_steps
  exact hret _ _ F N
set_option maxRecDepth 100000 in
set_option maxHeartbeats 8000000 in
theorem law_body (l : Addr) (B : Below callerA h₀ [] h₀) (X : (hdJ.heap_39 w.params).In h₀) (T : Top p loose mean mg mb h₀)
  (hm : m (Str.ofString "script") = some (.ref l)) (F : Fr h₀ L s.heap m) (vs : List Value) (ns : List Int) (o1 o2 o3 o4 : Obj) (v1 v2 v3 v4 : Option Value) (hl : h₀.IsList l vs.toArray) (hI : IntsAre vs ns) (hlen : ns.length ≤ 63)
  (h1 : o1.data = Data.cell v1) (h2 : o2.data = Data.cell v2) (h3 : o3.data = Data.cell v3) (h4 : o4.data = Data.cell v4)
  (N : News h₀ L s.heap ((L + 1 + 1 + 1 + 1, o4) :: (L + 1 + 1 + 1, o3) :: (L + 1 + 1, o2) :: (L + 1, o1) :: [])) (hbare : ∀ y ∈ s.gens, y.bare = true)
  (hret : ∀ (m' : Str → Option Value) h' g' tk', Fr h₀ L h' m' → (∀ y ∈ g', y.bare = true) → Q (.ret (.bool true)) {s with heap := h', gens := g', toks := tk'}) :
  wpC (model PySem.Challenge.rw_je0040_01.row.prog w) (callerA.deeper (lawEnv L fa cd)) (execs lawBody (lawEnv L fa cd)) Q E s := by
  rw [law_shape]
  refine wpC_execs_cons (wpC_any ?_)
  refine law_s0 l B (fr_in F hm) X T vs ns o1 o2 o3 o4 v1 hl hI hlen h1 N fun d r od0 vs' n ns' o1' ha tka Fa Na hLr hrd hds D0 hI' hlen' h1' => ?_
  refine wpC_execs_cons (wpC_any ?_)
  refine law_s1 B Fa X T d r od0 vs' n ns' o1' o2 o3 o4 v2 hLr hrd hds D0 hI' hlen' h1' h2 Na fun od1 o2' b tb hb tkb Fb Nb D1 hb1 hb32 h2' => ?_
  refine wpC_execs_cons (wpC_any ?_)
  refine law_s2 B Fb X T d r od1 vs' n ns' o1' o2' o3 o4 v3 hLr hrd hds D1 hI' hlen' h1' h3 Nb fun od2 o3' px tp hc tkc Fc Nc D2 hpx h3' => ?_
  obtain ⟨hp10, hpa, hp0⟩ := px_facts hpx
  refine wpC_execs_cons (wpC_any ?_)
  refine law_s3 B Fc X T d r od2 _ o1' o2' o3' o4 v4 hLr hrd b tb px tp hb1 hb32 h2' h3' h4 Nc fun o4' rx rd kid es hd tkd Fd Nd Rr hdr hrr h4' => ?_
  refine wpC_execs_cons (wpC_any ?_)
  refine law_s4 B Fd X T d r rx rd od2 _ _ _ o1' o2' o3' o4' hLr hrd hdr hrr b tb px tp hb1 hb32 h2' h3' Nd fun fx fd fkid fes he tke Fe Ne Rf hrf hff => ?_
  refine wpC_execs_cons (wpC_any ?_)
  refine law_s5 B Fe X T rx rd kid es b px o2' o4' tb Rr hb1 hb32 (news := [(fx, instObj 139 fd), (fd, dictOf fes 7), (d, od2), (r, PySem.W.listOf vs'.toArray n), (L + 1 + 1 + 1, o3'), (L + 1, o1')]) (by have N' := news_pick [2, 3, 6, 8, 0, 1, 4, 5, 7, 9] Ne; exact N') h2' h4' fun hf tkf Ff Nf => ?_
  refine wpC_execs_cons (wpC_any ?_)
  refine law_s6 B X T rx rd kid fx es o2' o3' o4' b tb tp px Rr hb1 hp10 hpa h2' h3' h4' Ff (news := [(fx, instObj 139 fd), (fd, dictOf fes 7), (d, od2), (r, PySem.W.listOf vs'.toArray n), (L + 1, o1')]) (by have N' := news_pick [0, 1, 2, 8, 3, 4, 5, 6, 7, 9] Nf; exact N') hbare fun mg hg gg tkg Fg Ng hgb => ?_
  have C : Ctx w L fx fd fkid rx rd kid d r fes es o1' o2' o3' o4' b tb px tp vs' ns' := ⟨Rr, Rf, hb1, hb32, hp10, hpa, hp0, h1', h2', h3', h4', hds, hI', hlen', hLr, hrd, hdr, hrr, hrf, hff⟩
  refine wpC_execs_cons ?_
  refine law_s7 (n := n) C B X T Fg (if_pos rfl) (by have N' := news_pick [5, 6, 0, 1, 7, 8, 2, 3, 4, 9] Ng; exact N') D2 (by decide) (by decide) fun mh hh tkh Fh Nh => ?_
  refine wpC_execs_cons ?_
  refine law_s8 B X T Fh b h2' Nh fun mi hi tki nxi Fi Ni => ?_
  refine wpC_execs_cons (wpC_any ?_)
  refine law_s9 Fi X T Ni fun hj tkj Fj Nj => ?_
  exact hret _ hj gg tkj Fj hgb
end Jl
end
section
open PySem PySem.W PyProof.Rows
namespace Jl
set_option maxRecDepth 100000 in
set_option maxHeartbeats 8000000 in
theorem law_walk : PySem.Challenge.rw_je0040_01.Holds := by
  refine hdJ ⟨left_ok, ?_⟩
  k_fill
  intro w s₀ s₁ mg mb G Y fa o pm cd doc dV kV ho hd hcd hD hmg hg args vals as hpre hlay hrd hwl hlo
  have KX := kIn_of Y
  have X := (Ground.X G).1
  have V := (Ground.X G).2
  refine Ground.open G ?_
  intro T B D TE TW
  obtain ⟨_, _, M⟩ := bmod_of_top T
  obtain ⟨_, _, he, B0⟩ := based_of_top T rfl hmg ho hd
  have he' : cd = _ := he; subst he'; clear he
  clear hmg
  wrow_args hpre hlay hrd hwl hlo
  w_top on
  have K0 := below_caller (Top.heap T)
  have he := Dflts.none hD rfl; subst he; have he := Dflts.noKw hD; subst he
  refine call_cellsC (by decide) ho (fd_plain hd) (Top.nolimit T) hcd rfl (kinds_of (by kinds_ok)) (by decide) fun h₁ tk₁ cells F N0 X0 => ?_
  cells_open X0
  clear hd
  k_drop
  clear X0 hD
  try k_fold
  rename_i oD oC oB oA e4 e3 e2 e1
  refine law_body _ K0 KX T ?hm F _ _ oA oB oC oD _ _ _ _ (by assumption) (by assumption) ?hlen e1 e2 e3 e4 N0 ?bare ?ret
  case hm => rfl
  case hlen => omega
  case bare =>
    intro y hy
    rw [show _ = s₁.gens from rfl, hg] at hy
    exact absurd hy (Array.not_mem_empty y)
  case ret =>
    intro m' h' g' tk' F' hb
    exact ⟨.inl ⟨_, _, [], rfl, fun _ => rfl, ReadsW.bool true, (by first | rfl | wrow_post), fun _ => ⟨List.nodup_nil, fun _ hm => nomatch hm⟩⟩, .of_keep F'.keep, rfl, hb⟩
end Jl
end
end
open PySem PySem.W PyProof.Rows
set_option maxRecDepth 100000 in
set_option maxHeartbeats 8000000 in
theorem PySem.Challenge.cw_je0040_01_holds : PySem.Challenge.rw_je0040_01.Holds := by
  exact Jl.law_walk
