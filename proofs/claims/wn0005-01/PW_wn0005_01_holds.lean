import PyProof.Rows.All
import Wide.All
import OpenK.AllK
import Wide.FinOn
import PySem.Challenge.RW_wn0005_01
set_option Elab.async false
section
open PySem PySem.W PyProof.Rows
namespace Mine
set_option maxRecDepth 100000 in
set_option maxHeartbeats 8000000 in
open_top hd for PySem.Challenge.rw_wn0005_01
end Mine
end
section
open PySem PySem.W PyProof.Rows
namespace Mine
abbrev CTok := Tok
abbrev Claim (prog : Program) (w : World) (K : Frag) (p : Program) (loose : List Str) (mean : ExcName → Option Value) (mg mb : Str → Option Value) (d u : Nat) (f : Addr) (vs : List Value) (R : Value → Prop) : Prop :=
  ∀ (dp un : Nat) (gd : Option (List Code)) (cn : Str) (cs : Scope) (a : Addr) (ccd : Value) (cl : List (Str × Addr)) (outer : List Env) (A₀ : Around) (base h₀ : Heap) (L : Addr) (m : Str → Option Value) (news : List (Addr × Obj)) (s : Shared) (Q E : Value → Shared → Prop),
    Below A₀ base outer h₀ → Fr h₀ L s.heap m → K.In h₀ → News h₀ L s.heap news → Top p loose mean mg mb h₀ → cs.kind = .function → dp + d < recursionLimit → un + u < cLine →
    (∀ (v : Value) (h' : Heap) (tk' : Nat), R v → Fr h₀ L h' m → News h₀ L h' news → Q v { s with heap := h', toks := tk' }) →
    wpAny (model prog w) (ktrTop dp un gd cn cs L a ccd cl outer) (call (.ref f) vs) Q E s
abbrev IsI (x : Int) (v : Value) : Prop := ∃ t, v = .int x t
abbrev IsS (x : Str) (v : Value) : Prop := ∃ t, v = .str x t
abbrev IsB (x : List Int) (v : Value) : Prop := ∃ b t, v = .bytes b t ∧ KBw.bInts b = x
section
variable {h₀ h' : Heap} {L : Addr} {m : Str → Option Value} {news : List (Addr × Obj)} {s : Shared} {Q : Value → Shared → Prop} {R : Value → Prop} {v : Value} {tk' : Nat}
theorem ret_ (hret : ∀ (v : Value) (h' : Heap) (tk' : Nat), R v → Fr h₀ L h' m → News h₀ L h' news → Q v { s with heap := h', toks := tk' }) (e : R v) (F : Fr h₀ L h' m) (N : News h₀ L h' news) : Q v { s with heap := h', toks := tk' } := hret v h' tk' e F N
end
end Mine
namespace Mine
open PySem PySem.W PyProof.Rows
end Mine
namespace Mine
end Mine
namespace Mine
end Mine
namespace Mine
open PySem PySem.W PyProof.Rows
abbrev ClaimL (prog : Program) (w : World) (K : Frag) (p : Program) (loose : List Str) (mean : ExcName → Option Value) (mg mb : Str → Option Value) (d u : Nat) (f : Addr) (vs : List Value) (zs : List Int) : Prop :=
  ∀ (dp un : Nat) (gd : Option (List Code)) (cn : Str) (cs : Scope) (a : Addr) (ccd : Value) (cl : List (Str × Addr)) (outer : List Env) (A₀ : Around) (base h₀ : Heap) (L : Addr) (m : Str → Option Value) (news : List (Addr × Obj)) (s : Shared) (Q E : Value → Shared → Prop),
    Below A₀ base outer h₀ → Fr h₀ L s.heap m → K.In h₀ → News h₀ L s.heap news → Top p loose mean mg mb h₀ → cs.kind = .function → dp + d < recursionLimit → un + u < cLine →
    (∀ (l : Addr) (us : List Value) (n : Nat) (h' : Heap) (tk' : Nat), IntsAre us zs → Fr h₀ L h' m → News h₀ L h' ((l, listOf us.toArray n) :: news) → (∀ p ∈ news, p.1 < l) → Q (.ref l) { s with heap := h', toks := tk' }) →
    wpAny (model prog w) (ktrTop dp un gd cn cs L a ccd cl outer) (call (.ref f) vs) Q E s
end Mine
namespace Mine
open PySem PySem.W PyProof.Rows
end Mine
namespace Mine
open PySem PySem.W PyProof.Rows
end Mine
namespace Mine
open PySem PySem.W PyProof.Rows
end Mine
end
section
open PySem PySem.W PyProof.Rows PySem.Calls
namespace Mine
set_option maxRecDepth 100000
set_option maxHeartbeats 8000000 in
theorem coll_claim (w : World) (p : Program) (loose : List Str) (mean : ExcName → Option Value) (mg mb : Str → Option Value) (x y : Str) (t u : CTok) :
   Claim PySem.Challenge.rw_wn0005_01.prog w (Mine.hd.heap_39 w.params) p loose mean mg mb 1 8 38 [.str x t, .str y u] (IsI (b2i (decide (y.cps.toList < x.cps.toList)) - b2i (decide (x.cps.toList < y.cps.toList)))) := by
  k_with_none
  w_top off
  intro dp un gd cn cs a ccd cl outer A₀ base h₀ L m news s Q E B F X N T hk hd hu hret
  refine wpAny_call ?_
  k_dflt cell_enter
  k_with_none
  (repeat' (first | (k_unfold; (try dsimp only)) | (k_end; (( (fail_if_success (with_reducible show wpAny _ _ (PySem.exec (Stmt.While _ _ _ _) _) _ _ _)); (fail_if_success (with_reducible show wpAny _ _ (PySem.exec (Stmt.For _ _ _ _ _) _) _ _ _)); (fail_if_success (with_reducible show wpAny _ _ (PySem.call (Value.ref _) _ _) _ _ _)); (fail_if_success (with_reducible show wpAny _ _ (PySem.pyIter _) _ _ _)); (fail_if_success (with_reducible show KswEnd _ _ _ _ _ _ _ _ _ _ _ _)); (fail_if_success (with_reducible show InvEndN _ _ _ _ _ _ _)))); wrow_close) | ((( (fail_if_success (with_reducible show wpAny _ _ (PySem.exec (Stmt.While _ _ _ _) _) _ _ _)); (fail_if_success (with_reducible show wpAny _ _ (PySem.exec (Stmt.For _ _ _ _ _) _) _ _ _)); (fail_if_success (with_reducible show wpAny _ _ (PySem.call (Value.ref _) _ _) _ _ _)); (fail_if_success (with_reducible show wpAny _ _ (PySem.pyIter _) _ _ _)); (fail_if_success (with_reducible show KswEnd _ _ _ _ _ _ _ _ _ _ _ _)); (fail_if_success (with_reducible show InvEndN _ _ _ _ _ _ _)))); walk1) | ((( (fail_if_success (with_reducible show wpAny _ _ (PySem.exec (Stmt.While _ _ _ _) _) _ _ _)); (fail_if_success (with_reducible show wpAny _ _ (PySem.exec (Stmt.For _ _ _ _ _) _) _ _ _)); (fail_if_success (with_reducible show wpAny _ _ (PySem.call (Value.ref _) _ _) _ _ _)); (fail_if_success (with_reducible show wpAny _ _ (PySem.pyIter _) _ _ _)); (fail_if_success (with_reducible show KswEnd _ _ _ _ _ _ _ _ _ _ _ _)); (fail_if_success (with_reducible show InvEndN _ _ _ _ _ _ _)))); dsimp only; (( (fail_if_success (with_reducible show wpAny _ _ (PySem.exec (Stmt.While _ _ _ _) _) _ _ _)); (fail_if_success (with_reducible show wpAny _ _ (PySem.exec (Stmt.For _ _ _ _ _) _) _ _ _)); (fail_if_success (with_reducible show wpAny _ _ (PySem.call (Value.ref _) _ _) _ _ _)); (fail_if_success (with_reducible show wpAny _ _ (PySem.pyIter _) _ _ _)); (fail_if_success (with_reducible show KswEnd _ _ _ _ _ _ _ _ _ _ _ _)); (fail_if_success (with_reducible show InvEndN _ _ _ _ _ _ _)))); walk1) | ((( (fail_if_success (with_reducible show wpAny _ _ (PySem.exec (Stmt.While _ _ _ _) _) _ _ _)); (fail_if_success (with_reducible show wpAny _ _ (PySem.exec (Stmt.For _ _ _ _ _) _) _ _ _)); (fail_if_success (with_reducible show wpAny _ _ (PySem.call (Value.ref _) _ _) _ _ _)); (fail_if_success (with_reducible show wpAny _ _ (PySem.pyIter _) _ _ _)); (fail_if_success (with_reducible show KswEnd _ _ _ _ _ _ _ _ _ _ _ _)); (fail_if_success (with_reducible show InvEndN _ _ _ _ _ _ _)))); leave1; walk_say "STEP leave1"; try dsimp only) | fail "no step"))
  exact ret_ hret ⟨_, rfl⟩ (by k_asm) (by k_asm)
end Mine
end
section
open PySem PySem.W PyProof.Rows PySem.Calls
namespace Mine
set_option maxRecDepth 100000
def bLoop : Nat → Int → Int → Option Int
  | 0, _, _ => none
  | n + 1, d, m => if d < 256 then bLoop n (d * 2) (m + 256) else some (m - d)
def baredF (x : Int) : Option Int := if 0 ≤ x then some x else bLoop 20 (-x) 256
theorem bLoop_go {n : Nat} {d m r : Int} (h : bLoop n d m = some r) (hd : d < 256) : n - 1 < n ∧ bLoop (n - 1) (d * 2) (m + 256) = some r := by
  cases n with
  | zero => cases h
  | succ n => unfold bLoop at h; rw [if_pos hd] at h; exact ⟨by omega, h⟩
theorem bLoop_end {n : Nat} {d m r : Int} (h : bLoop n d m = some r) (hd : ¬ d < 256) : r = m - d := by
  cases n with
  | zero => cases h
  | succ n => unfold bLoop at h; rw [if_neg hd] at h; exact (Option.some.inj h).symm
set_option maxHeartbeats 8000000 in
theorem bared_claim (w : World) (p : Program) (loose : List Str) (mean : ExcName → Option Value) (mg mb : Str → Option Value) (x r : Int) (t : CTok) (hx : baredF x = some r)  :
   Claim PySem.Challenge.rw_wn0005_01.prog w (Mine.hd.heap_39 w.params) p loose mean mg mb 1 8 97 [.int x t] (IsI r) := by
  k_with_none
  w_top off
  intro dp un gd cn cs a ccd cl outer A₀ base h₀ L m news s Q E B F X N T hk hd hu hret
  refine wpAny_call ?_
  k_dflt cell_enter
  k_with_none
  k_with "exec While Compare cons nil" =>
    (rename Fr _ _ _ _ => lF')
    (rename News _ _ _ _ => lN')
    (have hx' : bLoop 20 (-x) 256 = some r := by (unfold baredF at hx; rw [if_neg (by assumption)] at hx; exact hx))
    (with_unfolding_all refine' ksw_while (σ := Nat × Int × CTok × Int × CTok) (fun _ => news) (fun c => [(Str.ofString "doubled", .int c.2.1 c.2.2.1), (Str.ofString "more", .int c.2.2.2.1 c.2.2.2.2)]) (fun _ => True) [] (fun c => bLoop c.1 c.2.1 c.2.2.2.1 = some r) (fun c => c.1) (20, -x, _, 256, _) lF' lN' trivial ?hk hx' ?turn)
    (case hk => kst_all)
    (clear lF' lN' hx')
    (rintro ⟨n, d, t1, mo, t2⟩ u h tk - hp lF lN)
    (dsimp only [kstB] at lF hp lN)
  k_steps
  · exact ret_ hret ⟨_, by (unfold baredF at hx; rw [if_pos (by assumption)] at hx; rw [Option.some.inj hx])⟩ (by k_asm) (by k_asm)
  · have hg := bLoop_go (by assumption) (by assumption)
    exact ksw_end (_, _, _, _, _) (by k_asm) (by k_asm) (fun _ h => h) trivial (by kst_all) (by ksw_same) hg.2 hg.1
  · exact ret_ hret ⟨_, by rw [bLoop_end hp (by omega)]⟩ (by k_asm) (by k_asm)
end Mine
end
section
open PySem PySem.W PyProof.Rows PySem.Calls
namespace Mine
set_option maxRecDepth 100000
def apl : List Int := [65, 66, 67, 68, 69, 70, 71, 72, 73, 74, 75, 76, 77, 78, 79, 80]
def apDig (d : Int) : List Int := (apl.drop (clipAt 16 (d.fmod 16))).take (clipAt 16 (d.fmod 16 + 1) - clipAt 16 (d.fmod 16))
def apLoop : Nat → Int → List Int → Option (List Int)
  | 0, _, _ => none
  | n + 1, d, ks => if d ≠ 0 then apLoop n (d.fdiv 16) (apDig d ++ ks) else some ks
theorem apLoop_go {n : Nat} {d : Int} {ks r : List Int} (h : apLoop n d ks = some r) (hd : d ≠ 0) (hn : 16 * n + ks.length ≤ 320) : n - 1 < n ∧ 16 * (n - 1) + (apDig d ++ ks).length ≤ 320 ∧ apLoop (n - 1) (d.fdiv 16) (apDig d ++ ks) = some r := by
  cases n with
  | zero => cases h
  | succ n =>
    unfold apLoop at h
    rw [if_pos hd] at h
    refine ⟨by omega, ?_, h⟩
    have : (apDig d).length ≤ 16 := by
      unfold apDig
      rw [List.length_take, List.length_drop]
      have : apl.length = 16 := rfl
      omega
    rw [List.length_append]
    omega
theorem apLoop_end {n : Nat} {d : Int} {ks r : List Int} (h : apLoop n d ks = some r) (hd : ¬ d ≠ 0) : ks = r := by
  cases n with
  | zero => cases h
  | succ n => unfold apLoop at h; rw [if_neg hd] at h; exact Option.some.inj h
set_option maxHeartbeats 8000000 in
theorem ap_claim (w : World) (p : Program) (loose : List Str) (mean : ExcName → Option Value) (mg mb : Str → Option Value) (x : Int) (r : List Int) (t : CTok) (hx : apLoop 20 (if x < 0 then -x else x) [] = some r) :
   Claim PySem.Challenge.rw_wn0005_01.prog w (Mine.hd.heap_39 w.params) p loose mean mg mb 1 8 52 [.int x t] (IsB r) := by
  k_with_none
  w_top off
  intro dp un gd cn cs a ccd cl outer A₀ base h₀ L m news s Q E B F X N T hk hd hu hret
  have hAP : KBw.bInts #[65, 66, 67, 68, 69, 70, 71, 72, 73, 74, 75, 76, 77, 78, 79, 80] = [65, 66, 67, 68, 69, 70, 71, 72, 73, 74, 75, 76, 77, 78, 79, 80] := rfl
  refine wpAny_call ?_
  k_dflt cell_enter
  k_with_none
  (repeat' (first | (k_unfold; (try dsimp only)) | (k_end; (( (fail_if_success (with_reducible show wpAny _ _ (PySem.exec (Stmt.While _ _ _ _) _) _ _ _)); (fail_if_success (with_reducible show wpAny _ _ (PySem.exec (Stmt.For _ _ _ _ _) _) _ _ _)); (fail_if_success (with_reducible show wpAny _ _ (PySem.call (Value.ref _) _ _) _ _ _)); (fail_if_success (with_reducible show wpAny _ _ (PySem.pyIter _) _ _ _)); (fail_if_success (with_reducible show KswEnd _ _ _ _ _ _ _ _ _ _ _ _)); (fail_if_success (with_reducible show InvEndN _ _ _ _ _ _ _)))); wrow_close) | ((( (fail_if_success (with_reducible show wpAny _ _ (PySem.exec (Stmt.While _ _ _ _) _) _ _ _)); (fail_if_success (with_reducible show wpAny _ _ (PySem.exec (Stmt.For _ _ _ _ _) _) _ _ _)); (fail_if_success (with_reducible show wpAny _ _ (PySem.call (Value.ref _) _ _) _ _ _)); (fail_if_success (with_reducible show wpAny _ _ (PySem.pyIter _) _ _ _)); (fail_if_success (with_reducible show KswEnd _ _ _ _ _ _ _ _ _ _ _ _)); (fail_if_success (with_reducible show InvEndN _ _ _ _ _ _ _)))); walk1) | ((( (fail_if_success (with_reducible show wpAny _ _ (PySem.exec (Stmt.While _ _ _ _) _) _ _ _)); (fail_if_success (with_reducible show wpAny _ _ (PySem.exec (Stmt.For _ _ _ _ _) _) _ _ _)); (fail_if_success (with_reducible show wpAny _ _ (PySem.call (Value.ref _) _ _) _ _ _)); (fail_if_success (with_reducible show wpAny _ _ (PySem.pyIter _) _ _ _)); (fail_if_success (with_reducible show KswEnd _ _ _ _ _ _ _ _ _ _ _ _)); (fail_if_success (with_reducible show InvEndN _ _ _ _ _ _ _)))); dsimp only; (( (fail_if_success (with_reducible show wpAny _ _ (PySem.exec (Stmt.While _ _ _ _) _) _ _ _)); (fail_if_success (with_reducible show wpAny _ _ (PySem.exec (Stmt.For _ _ _ _ _) _) _ _ _)); (fail_if_success (with_reducible show wpAny _ _ (PySem.call (Value.ref _) _ _) _ _ _)); (fail_if_success (with_reducible show wpAny _ _ (PySem.pyIter _) _ _ _)); (fail_if_success (with_reducible show KswEnd _ _ _ _ _ _ _ _ _ _ _ _)); (fail_if_success (with_reducible show InvEndN _ _ _ _ _ _ _)))); walk1) | ((( (fail_if_success (with_reducible show wpAny _ _ (PySem.exec (Stmt.While _ _ _ _) _) _ _ _)); (fail_if_success (with_reducible show wpAny _ _ (PySem.exec (Stmt.For _ _ _ _ _) _) _ _ _)); (fail_if_success (with_reducible show wpAny _ _ (PySem.call (Value.ref _) _ _) _ _ _)); (fail_if_success (with_reducible show wpAny _ _ (PySem.pyIter _) _ _ _)); (fail_if_success (with_reducible show KswEnd _ _ _ _ _ _ _ _ _ _ _ _)); (fail_if_success (with_reducible show InvEndN _ _ _ _ _ _ _)))); leave1; walk_say "STEP leave1"; try dsimp only) | fail "no step"))
  · (rename Fr _ _ _ _ => lF')
    (rename News _ _ _ _ => lN')
    (with_unfolding_all refine' ksw_while (σ := Nat × Int × CTok × Array UInt8 × CTok × List Int) (fun _ => news) (fun c => [(Str.ofString "num", .int c.2.1 c.2.2.1), (Str.ofString "val", .bytes c.2.2.2.1 c.2.2.2.2.1)]) (fun _ => True) [Str.ofString "mod"] (fun c => apLoop c.1 c.2.1 c.2.2.2.2.2 = some r ∧ KBw.bInts c.2.2.2.1 = c.2.2.2.2.2 ∧ 16 * c.1 + c.2.2.2.2.2.length ≤ 320) (fun c => c.1) (20, (if x < 0 then -x else x), _, #[], _, []) lF' lN' trivial ?hk ⟨hx, rfl, Nat.le_refl 320⟩ ?turn)
    (case hk => kst_all)
    (clear lF' lN')
    (rintro ⟨n, d, t1, mo, t2, ks⟩ u h tk - hp lF lN)
    (obtain ⟨hp1, hp2, hp3⟩ := hp)
    (dsimp only [kstB] at lF hp1 hp2 hp3 lN)
    (repeat' (first | (k_unfold; (try dsimp only)) | (k_end; (( (fail_if_success (with_reducible show wpAny _ _ (PySem.exec (Stmt.While _ _ _ _) _) _ _ _)); (fail_if_success (with_reducible show wpAny _ _ (PySem.exec (Stmt.For _ _ _ _ _) _) _ _ _)); (fail_if_success (with_reducible show wpAny _ _ (PySem.call (Value.ref _) _ _) _ _ _)); (fail_if_success (with_reducible show wpAny _ _ (PySem.pyIter _) _ _ _)); (fail_if_success (with_reducible show KswEnd _ _ _ _ _ _ _ _ _ _ _ _)); (fail_if_success (with_reducible show InvEndN _ _ _ _ _ _ _)))); wrow_close) | ((( (fail_if_success (with_reducible show wpAny _ _ (PySem.exec (Stmt.While _ _ _ _) _) _ _ _)); (fail_if_success (with_reducible show wpAny _ _ (PySem.exec (Stmt.For _ _ _ _ _) _) _ _ _)); (fail_if_success (with_reducible show wpAny _ _ (PySem.call (Value.ref _) _ _) _ _ _)); (fail_if_success (with_reducible show wpAny _ _ (PySem.pyIter _) _ _ _)); (fail_if_success (with_reducible show KswEnd _ _ _ _ _ _ _ _ _ _ _ _)); (fail_if_success (with_reducible show InvEndN _ _ _ _ _ _ _)))); walk1) | ((( (fail_if_success (with_reducible show wpAny _ _ (PySem.exec (Stmt.While _ _ _ _) _) _ _ _)); (fail_if_success (with_reducible show wpAny _ _ (PySem.exec (Stmt.For _ _ _ _ _) _) _ _ _)); (fail_if_success (with_reducible show wpAny _ _ (PySem.call (Value.ref _) _ _) _ _ _)); (fail_if_success (with_reducible show wpAny _ _ (PySem.pyIter _) _ _ _)); (fail_if_success (with_reducible show KswEnd _ _ _ _ _ _ _ _ _ _ _ _)); (fail_if_success (with_reducible show InvEndN _ _ _ _ _ _ _)))); dsimp only; (( (fail_if_success (with_reducible show wpAny _ _ (PySem.exec (Stmt.While _ _ _ _) _) _ _ _)); (fail_if_success (with_reducible show wpAny _ _ (PySem.exec (Stmt.For _ _ _ _ _) _) _ _ _)); (fail_if_success (with_reducible show wpAny _ _ (PySem.call (Value.ref _) _ _) _ _ _)); (fail_if_success (with_reducible show wpAny _ _ (PySem.pyIter _) _ _ _)); (fail_if_success (with_reducible show KswEnd _ _ _ _ _ _ _ _ _ _ _ _)); (fail_if_success (with_reducible show InvEndN _ _ _ _ _ _ _)))); walk1) | ((( (fail_if_success (with_reducible show wpAny _ _ (PySem.exec (Stmt.While _ _ _ _) _) _ _ _)); (fail_if_success (with_reducible show wpAny _ _ (PySem.exec (Stmt.For _ _ _ _ _) _) _ _ _)); (fail_if_success (with_reducible show wpAny _ _ (PySem.call (Value.ref _) _ _) _ _ _)); (fail_if_success (with_reducible show wpAny _ _ (PySem.pyIter _) _ _ _)); (fail_if_success (with_reducible show KswEnd _ _ _ _ _ _ _ _ _ _ _ _)); (fail_if_success (with_reducible show InvEndN _ _ _ _ _ _ _)))); leave1; walk_say "STEP leave1"; try dsimp only) | fail "no step"))
    · have hg := apLoop_go hp1 (by assumption) hp3
      exact ksw_end (_, _, _, _, _, _) (by k_asm) (by k_asm) (fun _ h => .tail _ h) trivial (by kst_all) (by ksw_same) ⟨hg.2.2, by assumption, hg.2.1⟩ hg.1
    · exact ret_ hret ⟨_, _, rfl, hp2.trans (apLoop_end hp1 (by omega))⟩ (by k_asm) (by k_asm)
end Mine
end
section
open PySem PySem.W PyProof.Rows PySem.Calls
namespace Mine
set_option maxRecDepth 100000
theorem bad_A {b : Array UInt8} {ks : List Int} (hb : KBw.bInts b = ks.take (clipAt ks.length 1)) (h : (b.toList == #[65].toList) = true) (h0 : ks.head? ≠ some 65) : False := by
  have e : b.toList = [65] := by simpa using h
  have e2 : KBw.bInts b = [65] := by show b.toList.map _ = _; rw [e]; rfl
  rw [e2] at hb
  cases ks with
  | nil => simp at hb
  | cons k r =>
    have hc : clipAt (k :: r).length 1 = 1 := by
      show clipAt (k :: r).length ((1 : Nat) : Int) = 1
      rw [clipAt_nat]; simp
    rw [hc] at hb
    simp at hb
    exact h0 (by rw [← hb]; rfl)
def numF (ks : List Int) : Int := ks.foldl (fun n l => 16 * n + l - 65) 0
def rLoop (own other : Str) : Nat → Int → Str → Option Str
  | 0, _, _ => none
  | n + 1, part, row => if part ≠ 256 then rLoop own other n (part.fmod 256 * 2) (row ++ (if 256 < part then own else other)) else some row
def rTail (own other both : Str) (n : Int) : Option Str :=
  if 0 < 2 * n.fmod 256 then rLoop own other 30 (2 * n.fmod 256) (Txt.mul own (n.fdiv 256) ++ both) else some (Txt.mul own (n.fdiv 256))
def rowF (x : Int) (ks : List Int) : Option Str := if x < 0 then rTail (Str.ofString " ") (Str.ofString ".") (Str.ofString " .") (numF ks) else rTail (Str.ofString ".") (Str.ofString " ") (Str.ofString ". ") (numF ks)
theorem rLoop_go1 {own other : Str} {n : Nat} {part : Int} {row r : Str} (h : rLoop own other n part row = some r) (hd : part ≠ 256) (hp : 256 < part) (hl : own.length = 1) (hn : row.length + n ≤ 200) :
    n - 1 < n ∧ (row ++ own).length + (n - 1) ≤ 200 ∧ rLoop own other (n - 1) (part.fmod 256 * 2) (row ++ own) = some r := by
  cases n with
  | zero => cases h
  | succ n =>
    unfold rLoop at h
    rw [if_pos hd, if_pos hp] at h
    refine ⟨by omega, ?_, h⟩
    rw [Str.length_append]
    omega
theorem rLoop_go2 {own other : Str} {n : Nat} {part : Int} {row r : Str} (h : rLoop own other n part row = some r) (hd : part ≠ 256) (hp : ¬ 256 < part) (hl : other.length = 1) (hn : row.length + n ≤ 200) :
    n - 1 < n ∧ (row ++ other).length + (n - 1) ≤ 200 ∧ rLoop own other (n - 1) (part.fmod 256 * 2) (row ++ other) = some r := by
  cases n with
  | zero => cases h
  | succ n =>
    unfold rLoop at h
    rw [if_pos hd, if_neg hp] at h
    refine ⟨by omega, ?_, h⟩
    rw [Str.length_append]
    omega
theorem rLoop_end {own other : Str} {n : Nat} {part : Int} {row r : Str} (h : rLoop own other n part row = some r) (hd : ¬ part ≠ 256) : row = r := by
  cases n with
  | zero => cases h
  | succ n => unfold rLoop at h; rw [if_neg hd] at h; exact Option.some.inj h
theorem mulLen {own : Str} {n : Int} (ho : own.length = 1) (h0 : 0 ≤ n) (h1 : n < 4096) : (Txt.mul own (n.fdiv 256)).length ≤ 16 := by
  have h := len_mul_k1 (n := n.fdiv 256) ho
  have e : n.fdiv 256 = n / 256 := Int.fdiv_eq_ediv_of_nonneg _ (by decide)
  have : n.fdiv 256 ≤ 15 := by rw [e]; omega
  have : 0 ≤ n.fdiv 256 := by rw [e]; omega
  rw [if_neg (by omega)] at h
  omega
set_option maxHeartbeats 8000000 in
theorem row_claim (w : World) (p : Program) (loose : List Str) (mean : ExcName → Option Value) (mg mb : Str → Option Value) (x : Int) (ks : List Int) (r : Str) (t : CTok)
   (hx : rowF x ks = some r) (hz : ks.length ≤ 320) (h0 : ks.head? ≠ some 65) (hn : 0 ≤ numF ks ∧ numF ks < 4096) (hap : ∀ t, Claim PySem.Challenge.rw_wn0005_01.prog w (Mine.hd.heap_39 w.params) p loose mean mg mb 1 8 52 [.int x t] (IsB ks)) :
   Claim PySem.Challenge.rw_wn0005_01.prog w (Mine.hd.heap_39 w.params) p loose mean mg mb 2 16 90 [.int x t] (IsS r) := by
  k_with_none
  w_top off
  intro dp un gd cn cs a ccd cl outer A₀ base h₀ L m news s Q E B F X N T hk hd hu hret
  refine wpAny_call ?_
  k_dflt cell_enter
  k_with_none
  (repeat' (first | (k_unfold; (try dsimp only)) | (k_end; (( (fail_if_success (with_reducible show wpAny _ _ (PySem.exec (Stmt.While _ _ _ _) _) _ _ _)); (fail_if_success (with_reducible show wpAny _ _ (PySem.exec (Stmt.For _ _ _ _ _) _) _ _ _)); (fail_if_success (with_reducible show wpAny _ _ (PySem.call (Value.ref _) _ _) _ _ _)); (fail_if_success (with_reducible show wpAny _ _ (PySem.pyIter _) _ _ _)); (fail_if_success (with_reducible show KswEnd _ _ _ _ _ _ _ _ _ _ _ _)); (fail_if_success (with_reducible show InvEndN _ _ _ _ _ _ _)))); wrow_close) | ((( (fail_if_success (with_reducible show wpAny _ _ (PySem.exec (Stmt.While _ _ _ _) _) _ _ _)); (fail_if_success (with_reducible show wpAny _ _ (PySem.exec (Stmt.For _ _ _ _ _) _) _ _ _)); (fail_if_success (with_reducible show wpAny _ _ (PySem.call (Value.ref _) _ _) _ _ _)); (fail_if_success (with_reducible show wpAny _ _ (PySem.pyIter _) _ _ _)); (fail_if_success (with_reducible show KswEnd _ _ _ _ _ _ _ _ _ _ _ _)); (fail_if_success (with_reducible show InvEndN _ _ _ _ _ _ _)))); walk1) | ((( (fail_if_success (with_reducible show wpAny _ _ (PySem.exec (Stmt.While _ _ _ _) _) _ _ _)); (fail_if_success (with_reducible show wpAny _ _ (PySem.exec (Stmt.For _ _ _ _ _) _) _ _ _)); (fail_if_success (with_reducible show wpAny _ _ (PySem.call (Value.ref _) _ _) _ _ _)); (fail_if_success (with_reducible show wpAny _ _ (PySem.pyIter _) _ _ _)); (fail_if_success (with_reducible show KswEnd _ _ _ _ _ _ _ _ _ _ _ _)); (fail_if_success (with_reducible show InvEndN _ _ _ _ _ _ _)))); dsimp only; (( (fail_if_success (with_reducible show wpAny _ _ (PySem.exec (Stmt.While _ _ _ _) _) _ _ _)); (fail_if_success (with_reducible show wpAny _ _ (PySem.exec (Stmt.For _ _ _ _ _) _) _ _ _)); (fail_if_success (with_reducible show wpAny _ _ (PySem.call (Value.ref _) _ _) _ _ _)); (fail_if_success (with_reducible show wpAny _ _ (PySem.pyIter _) _ _ _)); (fail_if_success (with_reducible show KswEnd _ _ _ _ _ _ _ _ _ _ _ _)); (fail_if_success (with_reducible show InvEndN _ _ _ _ _ _ _)))); walk1) | ((( (fail_if_success (with_reducible show wpAny _ _ (PySem.exec (Stmt.While _ _ _ _) _) _ _ _)); (fail_if_success (with_reducible show wpAny _ _ (PySem.exec (Stmt.For _ _ _ _ _) _) _ _ _)); (fail_if_success (with_reducible show wpAny _ _ (PySem.call (Value.ref _) _ _) _ _ _)); (fail_if_success (with_reducible show wpAny _ _ (PySem.pyIter _) _ _ _)); (fail_if_success (with_reducible show KswEnd _ _ _ _ _ _ _ _ _ _ _ _)); (fail_if_success (with_reducible show InvEndN _ _ _ _ _ _ _)))); leave1; walk_say "STEP leave1"; try dsimp only) | fail "no step"))
  (( k_dflt (refine' (hap t) _ _ _ _ _ _ _ _ _ _ _ _ _ _ _ _ _ _ ?k1u19 ?k2u19 ?k3u19 ?k4u19 ?k5u19 ?k6u19 ?k7u19 ?k8u19 ?k9u19); (case k1u19 => k_asm); (case k2u19 => k_asm); (case k3u19 => k_asm); (case k4u19 => k_asm); (case k5u19 => k_asm); (case k6u19 => first | exact rfl | assumption); (case k7u19 => ktr_room); (case k8u19 => ktr_units)))
  rintro _ h1 tk1 ⟨b, t1, rfl, hb⟩ F1 N1
  (repeat' (first | (k_unfold; (try dsimp only)) | (k_end; (( (fail_if_success (with_reducible show wpAny _ _ (PySem.exec (Stmt.While _ _ _ _) _) _ _ _)); (fail_if_success (with_reducible show wpAny _ _ (PySem.exec (Stmt.For _ _ _ _ _) _) _ _ _)); (fail_if_success (with_reducible show wpAny _ _ (PySem.call (Value.ref _) _ _) _ _ _)); (fail_if_success (with_reducible show wpAny _ _ (PySem.pyIter _) _ _ _)); (fail_if_success (with_reducible show KswEnd _ _ _ _ _ _ _ _ _ _ _ _)); (fail_if_success (with_reducible show InvEndN _ _ _ _ _ _ _)))); wrow_close) | ((( (fail_if_success (with_reducible show wpAny _ _ (PySem.exec (Stmt.While _ _ _ _) _) _ _ _)); (fail_if_success (with_reducible show wpAny _ _ (PySem.exec (Stmt.For _ _ _ _ _) _) _ _ _)); (fail_if_success (with_reducible show wpAny _ _ (PySem.call (Value.ref _) _ _) _ _ _)); (fail_if_success (with_reducible show wpAny _ _ (PySem.pyIter _) _ _ _)); (fail_if_success (with_reducible show KswEnd _ _ _ _ _ _ _ _ _ _ _ _)); (fail_if_success (with_reducible show InvEndN _ _ _ _ _ _ _)))); walk1) | ((( (fail_if_success (with_reducible show wpAny _ _ (PySem.exec (Stmt.While _ _ _ _) _) _ _ _)); (fail_if_success (with_reducible show wpAny _ _ (PySem.exec (Stmt.For _ _ _ _ _) _) _ _ _)); (fail_if_success (with_reducible show wpAny _ _ (PySem.call (Value.ref _) _ _) _ _ _)); (fail_if_success (with_reducible show wpAny _ _ (PySem.pyIter _) _ _ _)); (fail_if_success (with_reducible show KswEnd _ _ _ _ _ _ _ _ _ _ _ _)); (fail_if_success (with_reducible show InvEndN _ _ _ _ _ _ _)))); dsimp only; (( (fail_if_success (with_reducible show wpAny _ _ (PySem.exec (Stmt.While _ _ _ _) _) _ _ _)); (fail_if_success (with_reducible show wpAny _ _ (PySem.exec (Stmt.For _ _ _ _ _) _) _ _ _)); (fail_if_success (with_reducible show wpAny _ _ (PySem.call (Value.ref _) _ _) _ _ _)); (fail_if_success (with_reducible show wpAny _ _ (PySem.pyIter _) _ _ _)); (fail_if_success (with_reducible show KswEnd _ _ _ _ _ _ _ _ _ _ _ _)); (fail_if_success (with_reducible show InvEndN _ _ _ _ _ _ _)))); walk1) | ((( (fail_if_success (with_reducible show wpAny _ _ (PySem.exec (Stmt.While _ _ _ _) _) _ _ _)); (fail_if_success (with_reducible show wpAny _ _ (PySem.exec (Stmt.For _ _ _ _ _) _) _ _ _)); (fail_if_success (with_reducible show wpAny _ _ (PySem.call (Value.ref _) _ _) _ _ _)); (fail_if_success (with_reducible show wpAny _ _ (PySem.pyIter _) _ _ _)); (fail_if_success (with_reducible show KswEnd _ _ _ _ _ _ _ _ _ _ _ _)); (fail_if_success (with_reducible show InvEndN _ _ _ _ _ _ _)))); leave1; walk_say "STEP leave1"; try dsimp only) | fail "no step"))
  · exact (bad_A (by assumption) (by assumption) h0).elim
  (( (rename Fr _ _ _ _ => lF'); (with_unfolding_all refine' For_invVF lF' ?k1u27 ?k2u27 ?_); (case k1u27 => exact rfl); (case k2u27 => exact rfl)))
  (repeat' (first | (k_unfold; (try dsimp only)) | (k_end; (( (fail_if_success (with_reducible show wpAny _ _ (PySem.exec (Stmt.While _ _ _ _) _) _ _ _)); (fail_if_success (with_reducible show wpAny _ _ (PySem.exec (Stmt.For _ _ _ _ _) _) _ _ _)); (fail_if_success (with_reducible show wpAny _ _ (PySem.call (Value.ref _) _ _) _ _ _)); (fail_if_success (with_reducible show wpAny _ _ (PySem.pyIter _) _ _ _)); (fail_if_success (with_reducible show KswEnd _ _ _ _ _ _ _ _ _ _ _ _)); (fail_if_success (with_reducible show InvEndN _ _ _ _ _ _ _)))); wrow_close) | ((( (fail_if_success (with_reducible show wpAny _ _ (PySem.exec (Stmt.While _ _ _ _) _) _ _ _)); (fail_if_success (with_reducible show wpAny _ _ (PySem.exec (Stmt.For _ _ _ _ _) _) _ _ _)); (fail_if_success (with_reducible show wpAny _ _ (PySem.call (Value.ref _) _ _) _ _ _)); (fail_if_success (with_reducible show wpAny _ _ (PySem.pyIter _) _ _ _)); (fail_if_success (with_reducible show KswEnd _ _ _ _ _ _ _ _ _ _ _ _)); (fail_if_success (with_reducible show InvEndN _ _ _ _ _ _ _)))); walk1) | ((( (fail_if_success (with_reducible show wpAny _ _ (PySem.exec (Stmt.While _ _ _ _) _) _ _ _)); (fail_if_success (with_reducible show wpAny _ _ (PySem.exec (Stmt.For _ _ _ _ _) _) _ _ _)); (fail_if_success (with_reducible show wpAny _ _ (PySem.call (Value.ref _) _ _) _ _ _)); (fail_if_success (with_reducible show wpAny _ _ (PySem.pyIter _) _ _ _)); (fail_if_success (with_reducible show KswEnd _ _ _ _ _ _ _ _ _ _ _ _)); (fail_if_success (with_reducible show InvEndN _ _ _ _ _ _ _)))); dsimp only; (( (fail_if_success (with_reducible show wpAny _ _ (PySem.exec (Stmt.While _ _ _ _) _) _ _ _)); (fail_if_success (with_reducible show wpAny _ _ (PySem.exec (Stmt.For _ _ _ _ _) _) _ _ _)); (fail_if_success (with_reducible show wpAny _ _ (PySem.call (Value.ref _) _ _) _ _ _)); (fail_if_success (with_reducible show wpAny _ _ (PySem.pyIter _) _ _ _)); (fail_if_success (with_reducible show KswEnd _ _ _ _ _ _ _ _ _ _ _ _)); (fail_if_success (with_reducible show InvEndN _ _ _ _ _ _ _)))); walk1) | ((( (fail_if_success (with_reducible show wpAny _ _ (PySem.exec (Stmt.While _ _ _ _) _) _ _ _)); (fail_if_success (with_reducible show wpAny _ _ (PySem.exec (Stmt.For _ _ _ _ _) _) _ _ _)); (fail_if_success (with_reducible show wpAny _ _ (PySem.call (Value.ref _) _ _) _ _ _)); (fail_if_success (with_reducible show wpAny _ _ (PySem.pyIter _) _ _ _)); (fail_if_success (with_reducible show KswEnd _ _ _ _ _ _ _ _ _ _ _ _)); (fail_if_success (with_reducible show InvEndN _ _ _ _ _ _ _)))); leave1; walk_say "STEP leave1"; try dsimp only) | fail "no step"))
  (rename Fr _ _ _ _ => lF')
  (rename News _ _ _ _ => lN')
  (with_unfolding_all refine' KStb.kst_bytes (σ := Int × CTok) (fun _ => news) (fun c => [(Str.ofString "number", .int c.1 c.2)]) (fun _ => True) [] (fun pre c => c.1 = numF pre) (0, _) hb rfl ?hh lF' lN' trivial ?hk rfl ?turn ?done)
  case hh => with_unfolding_all rfl
  case hk => kst_all
  case turn =>
    clear lF' lN'
    rintro ⟨n, t1⟩ pre post k t2 u h tk own hks hlt hk0 hk1 hoff - hp lF lN
    dsimp only [kstB] at lF hp lN
    (repeat' (first | (k_unfold; (try dsimp only)) | (k_end; (( (fail_if_success (with_reducible show wpAny _ _ (PySem.exec (Stmt.While _ _ _ _) _) _ _ _)); (fail_if_success (with_reducible show wpAny _ _ (PySem.exec (Stmt.For _ _ _ _ _) _) _ _ _)); (fail_if_success (with_reducible show wpAny _ _ (PySem.call (Value.ref _) _ _) _ _ _)); (fail_if_success (with_reducible show wpAny _ _ (PySem.pyIter _) _ _ _)); (fail_if_success (with_reducible show KswEnd _ _ _ _ _ _ _ _ _ _ _ _)); (fail_if_success (with_reducible show InvEndN _ _ _ _ _ _ _)))); wrow_close) | ((( (fail_if_success (with_reducible show wpAny _ _ (PySem.exec (Stmt.While _ _ _ _) _) _ _ _)); (fail_if_success (with_reducible show wpAny _ _ (PySem.exec (Stmt.For _ _ _ _ _) _) _ _ _)); (fail_if_success (with_reducible show wpAny _ _ (PySem.call (Value.ref _) _ _) _ _ _)); (fail_if_success (with_reducible show wpAny _ _ (PySem.pyIter _) _ _ _)); (fail_if_success (with_reducible show KswEnd _ _ _ _ _ _ _ _ _ _ _ _)); (fail_if_success (with_reducible show InvEndN _ _ _ _ _ _ _)))); walk1) | ((( (fail_if_success (with_reducible show wpAny _ _ (PySem.exec (Stmt.While _ _ _ _) _) _ _ _)); (fail_if_success (with_reducible show wpAny _ _ (PySem.exec (Stmt.For _ _ _ _ _) _) _ _ _)); (fail_if_success (with_reducible show wpAny _ _ (PySem.call (Value.ref _) _ _) _ _ _)); (fail_if_success (with_reducible show wpAny _ _ (PySem.pyIter _) _ _ _)); (fail_if_success (with_reducible show KswEnd _ _ _ _ _ _ _ _ _ _ _ _)); (fail_if_success (with_reducible show InvEndN _ _ _ _ _ _ _)))); dsimp only; (( (fail_if_success (with_reducible show wpAny _ _ (PySem.exec (Stmt.While _ _ _ _) _) _ _ _)); (fail_if_success (with_reducible show wpAny _ _ (PySem.exec (Stmt.For _ _ _ _ _) _) _ _ _)); (fail_if_success (with_reducible show wpAny _ _ (PySem.call (Value.ref _) _ _) _ _ _)); (fail_if_success (with_reducible show wpAny _ _ (PySem.pyIter _) _ _ _)); (fail_if_success (with_reducible show KswEnd _ _ _ _ _ _ _ _ _ _ _ _)); (fail_if_success (with_reducible show InvEndN _ _ _ _ _ _ _)))); walk1) | ((( (fail_if_success (with_reducible show wpAny _ _ (PySem.exec (Stmt.While _ _ _ _) _) _ _ _)); (fail_if_success (with_reducible show wpAny _ _ (PySem.exec (Stmt.For _ _ _ _ _) _) _ _ _)); (fail_if_success (with_reducible show wpAny _ _ (PySem.call (Value.ref _) _ _) _ _ _)); (fail_if_success (with_reducible show wpAny _ _ (PySem.pyIter _) _ _ _)); (fail_if_success (with_reducible show KswEnd _ _ _ _ _ _ _ _ _ _ _ _)); (fail_if_success (with_reducible show InvEndN _ _ _ _ _ _ _)))); leave1; walk_say "STEP leave1"; try dsimp only) | fail "no step"))
    have hq : 16 * n + k - 65 = numF (pre ++ [k]) := by
      unfold numF at hp ⊢
      rw [List.foldl_append, ← hp]; rfl
    exact kst_end (_, _) (by k_asm) (by k_asm) (fun p hp => List.mem_append_left _ hp) (fun p hp => List.mem_append_right _ hp) rfl trivial (by kst_all) (by kst_same) hq
  case done =>
    clear lF' lN'
    rintro ⟨n, t1⟩ u h tk hlen - hp lF lN
    dsimp only [kstB] at lF hp lN
    have hn0 : 0 ≤ n := by rw [hp]; exact hn.1
    have hn1 : n < 4096 := by rw [hp]; exact hn.2
    have hl1 : (Txt.mul (Str.ofString " ") (n.fdiv 256)).length ≤ 16 := mulLen (by decide +kernel) hn0 hn1
    have hl2 : (Txt.mul (Str.ofString ".") (n.fdiv 256)).length ≤ 16 := mulLen (by decide +kernel) hn0 hn1
    have hc1 : (Str.ofString " ").length = 1 := by decide +kernel
    have hc2 : (Str.ofString ".").length = 1 := by decide +kernel
    unfold rowF rTail at hx
    rw [← hp] at hx
    (repeat' (first | (k_unfold; (try dsimp only)) | (k_end; (( (fail_if_success (with_reducible show wpAny _ _ (PySem.exec (Stmt.While _ _ _ _) _) _ _ _)); (fail_if_success (with_reducible show wpAny _ _ (PySem.exec (Stmt.For _ _ _ _ _) _) _ _ _)); (fail_if_success (with_reducible show wpAny _ _ (PySem.call (Value.ref _) _ _) _ _ _)); (fail_if_success (with_reducible show wpAny _ _ (PySem.pyIter _) _ _ _)); (fail_if_success (with_reducible show KswEnd _ _ _ _ _ _ _ _ _ _ _ _)); (fail_if_success (with_reducible show InvEndN _ _ _ _ _ _ _)))); wrow_close) | ((( (fail_if_success (with_reducible show wpAny _ _ (PySem.exec (Stmt.While _ _ _ _) _) _ _ _)); (fail_if_success (with_reducible show wpAny _ _ (PySem.exec (Stmt.For _ _ _ _ _) _) _ _ _)); (fail_if_success (with_reducible show wpAny _ _ (PySem.call (Value.ref _) _ _) _ _ _)); (fail_if_success (with_reducible show wpAny _ _ (PySem.pyIter _) _ _ _)); (fail_if_success (with_reducible show KswEnd _ _ _ _ _ _ _ _ _ _ _ _)); (fail_if_success (with_reducible show InvEndN _ _ _ _ _ _ _)))); walk1) | ((( (fail_if_success (with_reducible show wpAny _ _ (PySem.exec (Stmt.While _ _ _ _) _) _ _ _)); (fail_if_success (with_reducible show wpAny _ _ (PySem.exec (Stmt.For _ _ _ _ _) _) _ _ _)); (fail_if_success (with_reducible show wpAny _ _ (PySem.call (Value.ref _) _ _) _ _ _)); (fail_if_success (with_reducible show wpAny _ _ (PySem.pyIter _) _ _ _)); (fail_if_success (with_reducible show KswEnd _ _ _ _ _ _ _ _ _ _ _ _)); (fail_if_success (with_reducible show InvEndN _ _ _ _ _ _ _)))); dsimp only; (( (fail_if_success (with_reducible show wpAny _ _ (PySem.exec (Stmt.While _ _ _ _) _) _ _ _)); (fail_if_success (with_reducible show wpAny _ _ (PySem.exec (Stmt.For _ _ _ _ _) _) _ _ _)); (fail_if_success (with_reducible show wpAny _ _ (PySem.call (Value.ref _) _ _) _ _ _)); (fail_if_success (with_reducible show wpAny _ _ (PySem.pyIter _) _ _ _)); (fail_if_success (with_reducible show KswEnd _ _ _ _ _ _ _ _ _ _ _ _)); (fail_if_success (with_reducible show InvEndN _ _ _ _ _ _ _)))); walk1) | ((( (fail_if_success (with_reducible show wpAny _ _ (PySem.exec (Stmt.While _ _ _ _) _) _ _ _)); (fail_if_success (with_reducible show wpAny _ _ (PySem.exec (Stmt.For _ _ _ _ _) _) _ _ _)); (fail_if_success (with_reducible show wpAny _ _ (PySem.call (Value.ref _) _ _) _ _ _)); (fail_if_success (with_reducible show wpAny _ _ (PySem.pyIter _) _ _ _)); (fail_if_success (with_reducible show KswEnd _ _ _ _ _ _ _ _ _ _ _ _)); (fail_if_success (with_reducible show InvEndN _ _ _ _ _ _ _)))); leave1; walk_say "STEP leave1"; try dsimp only) | fail "no step"))
    · (rename Fr _ _ _ _ => lF')
      (rename News _ _ _ _ => lN')
      have hx' : rLoop (Str.ofString " ") (Str.ofString ".") 30 (2 * n.fmod 256) (Txt.mul (Str.ofString " ") (n.fdiv 256) ++ Str.ofString " .") = some r := by
        rw [if_pos (by assumption)] at hx
        rw [if_pos (by assumption)] at hx
        exact hx
      have hl' : (Txt.mul (Str.ofString " ") (n.fdiv 256) ++ Str.ofString " .").length + 30 ≤ 200 := by
        rw [Str.length_append]
        have : (Str.ofString " .").length = 2 := by decide +kernel
        omega
      (with_unfolding_all refine' ksw_while (σ := Nat × Int × CTok × Str × CTok) (fun _ => news) (fun c => [(Str.ofString "part", .int c.2.1 c.2.2.1), (Str.ofString "row", .str c.2.2.2.1 c.2.2.2.2)]) (fun _ => True) [] (fun c => rLoop (Str.ofString " ") (Str.ofString ".") c.1 c.2.1 c.2.2.2.1 = some r ∧ c.2.2.2.1.length + c.1 ≤ 200) (fun c => c.1) (30, 2 * n.fmod 256, _, Txt.mul (Str.ofString " ") (n.fdiv 256) ++ Str.ofString " .", _) lF' lN' trivial ?hkA ⟨hx', hl'⟩ ?turnA)
      (case hkA => kst_all)
      (clear lF' lN')
      (rintro ⟨fu, pt, t3, rw3, t4⟩ u h tk - hp lF lN)
      (obtain ⟨hp1, hp2⟩ := hp)
      (dsimp only [kstB] at lF hp1 hp2 lN)
      (repeat' (first | (k_unfold; (try dsimp only)) | (k_end; (( (fail_if_success (with_reducible show wpAny _ _ (PySem.exec (Stmt.While _ _ _ _) _) _ _ _)); (fail_if_success (with_reducible show wpAny _ _ (PySem.exec (Stmt.For _ _ _ _ _) _) _ _ _)); (fail_if_success (with_reducible show wpAny _ _ (PySem.call (Value.ref _) _ _) _ _ _)); (fail_if_success (with_reducible show wpAny _ _ (PySem.pyIter _) _ _ _)); (fail_if_success (with_reducible show KswEnd _ _ _ _ _ _ _ _ _ _ _ _)); (fail_if_success (with_reducible show InvEndN _ _ _ _ _ _ _)))); wrow_close) | ((( (fail_if_success (with_reducible show wpAny _ _ (PySem.exec (Stmt.While _ _ _ _) _) _ _ _)); (fail_if_success (with_reducible show wpAny _ _ (PySem.exec (Stmt.For _ _ _ _ _) _) _ _ _)); (fail_if_success (with_reducible show wpAny _ _ (PySem.call (Value.ref _) _ _) _ _ _)); (fail_if_success (with_reducible show wpAny _ _ (PySem.pyIter _) _ _ _)); (fail_if_success (with_reducible show KswEnd _ _ _ _ _ _ _ _ _ _ _ _)); (fail_if_success (with_reducible show InvEndN _ _ _ _ _ _ _)))); walk1) | ((( (fail_if_success (with_reducible show wpAny _ _ (PySem.exec (Stmt.While _ _ _ _) _) _ _ _)); (fail_if_success (with_reducible show wpAny _ _ (PySem.exec (Stmt.For _ _ _ _ _) _) _ _ _)); (fail_if_success (with_reducible show wpAny _ _ (PySem.call (Value.ref _) _ _) _ _ _)); (fail_if_success (with_reducible show wpAny _ _ (PySem.pyIter _) _ _ _)); (fail_if_success (with_reducible show KswEnd _ _ _ _ _ _ _ _ _ _ _ _)); (fail_if_success (with_reducible show InvEndN _ _ _ _ _ _ _)))); dsimp only; (( (fail_if_success (with_reducible show wpAny _ _ (PySem.exec (Stmt.While _ _ _ _) _) _ _ _)); (fail_if_success (with_reducible show wpAny _ _ (PySem.exec (Stmt.For _ _ _ _ _) _) _ _ _)); (fail_if_success (with_reducible show wpAny _ _ (PySem.call (Value.ref _) _ _) _ _ _)); (fail_if_success (with_reducible show wpAny _ _ (PySem.pyIter _) _ _ _)); (fail_if_success (with_reducible show KswEnd _ _ _ _ _ _ _ _ _ _ _ _)); (fail_if_success (with_reducible show InvEndN _ _ _ _ _ _ _)))); walk1) | ((( (fail_if_success (with_reducible show wpAny _ _ (PySem.exec (Stmt.While _ _ _ _) _) _ _ _)); (fail_if_success (with_reducible show wpAny _ _ (PySem.exec (Stmt.For _ _ _ _ _) _) _ _ _)); (fail_if_success (with_reducible show wpAny _ _ (PySem.call (Value.ref _) _ _) _ _ _)); (fail_if_success (with_reducible show wpAny _ _ (PySem.pyIter _) _ _ _)); (fail_if_success (with_reducible show KswEnd _ _ _ _ _ _ _ _ _ _ _ _)); (fail_if_success (with_reducible show InvEndN _ _ _ _ _ _ _)))); leave1; walk_say "STEP leave1"; try dsimp only) | fail "no step"))
      · have hg := rLoop_go1 hp1 (by assumption) (by assumption) hc1 hp2
        exact ksw_end (_, _, _, _, _) (by k_asm) (by k_asm) (fun _ h => h) trivial (by kst_all) (by ksw_same) ⟨hg.2.2, hg.2.1⟩ hg.1
      · have hg := rLoop_go2 hp1 (by assumption) (by assumption) hc2 hp2
        exact ksw_end (_, _, _, _, _) (by k_asm) (by k_asm) (fun _ h => h) trivial (by kst_all) (by ksw_same) ⟨hg.2.2, hg.2.1⟩ hg.1
      · have he := rLoop_end hp1 (by omega)
        subst he
        exact ret_ hret ⟨_, rfl⟩ (by k_asm) (by k_asm)
    · rw [if_pos (by assumption)] at hx
      rw [if_neg (by assumption)] at hx
      have he := Option.some.inj hx
      subst he
      exact ret_ hret ⟨_, rfl⟩ (by k_asm) (by k_asm)
    · (rename Fr _ _ _ _ => lF')
      (rename News _ _ _ _ => lN')
      have hx' : rLoop (Str.ofString ".") (Str.ofString " ") 30 (2 * n.fmod 256) (Txt.mul (Str.ofString ".") (n.fdiv 256) ++ Str.ofString ". ") = some r := by
        rw [if_neg (by assumption)] at hx
        rw [if_pos (by assumption)] at hx
        exact hx
      have hl' : (Txt.mul (Str.ofString ".") (n.fdiv 256) ++ Str.ofString ". ").length + 30 ≤ 200 := by
        rw [Str.length_append]
        have : (Str.ofString ". ").length = 2 := by decide +kernel
        omega
      (with_unfolding_all refine' ksw_while (σ := Nat × Int × CTok × Str × CTok) (fun _ => news) (fun c => [(Str.ofString "part", .int c.2.1 c.2.2.1), (Str.ofString "row", .str c.2.2.2.1 c.2.2.2.2)]) (fun _ => True) [] (fun c => rLoop (Str.ofString ".") (Str.ofString " ") c.1 c.2.1 c.2.2.2.1 = some r ∧ c.2.2.2.1.length + c.1 ≤ 200) (fun c => c.1) (30, 2 * n.fmod 256, _, Txt.mul (Str.ofString ".") (n.fdiv 256) ++ Str.ofString ". ", _) lF' lN' trivial ?hkB ⟨hx', hl'⟩ ?turnB)
      (case hkB => kst_all)
      (clear lF' lN')
      (rintro ⟨fu, pt, t3, rw3, t4⟩ u h tk - hp lF lN)
      (obtain ⟨hp1, hp2⟩ := hp)
      (dsimp only [kstB] at lF hp1 hp2 lN)
      (repeat' (first | (k_unfold; (try dsimp only)) | (k_end; (( (fail_if_success (with_reducible show wpAny _ _ (PySem.exec (Stmt.While _ _ _ _) _) _ _ _)); (fail_if_success (with_reducible show wpAny _ _ (PySem.exec (Stmt.For _ _ _ _ _) _) _ _ _)); (fail_if_success (with_reducible show wpAny _ _ (PySem.call (Value.ref _) _ _) _ _ _)); (fail_if_success (with_reducible show wpAny _ _ (PySem.pyIter _) _ _ _)); (fail_if_success (with_reducible show KswEnd _ _ _ _ _ _ _ _ _ _ _ _)); (fail_if_success (with_reducible show InvEndN _ _ _ _ _ _ _)))); wrow_close) | ((( (fail_if_success (with_reducible show wpAny _ _ (PySem.exec (Stmt.While _ _ _ _) _) _ _ _)); (fail_if_success (with_reducible show wpAny _ _ (PySem.exec (Stmt.For _ _ _ _ _) _) _ _ _)); (fail_if_success (with_reducible show wpAny _ _ (PySem.call (Value.ref _) _ _) _ _ _)); (fail_if_success (with_reducible show wpAny _ _ (PySem.pyIter _) _ _ _)); (fail_if_success (with_reducible show KswEnd _ _ _ _ _ _ _ _ _ _ _ _)); (fail_if_success (with_reducible show InvEndN _ _ _ _ _ _ _)))); walk1) | ((( (fail_if_success (with_reducible show wpAny _ _ (PySem.exec (Stmt.While _ _ _ _) _) _ _ _)); (fail_if_success (with_reducible show wpAny _ _ (PySem.exec (Stmt.For _ _ _ _ _) _) _ _ _)); (fail_if_success (with_reducible show wpAny _ _ (PySem.call (Value.ref _) _ _) _ _ _)); (fail_if_success (with_reducible show wpAny _ _ (PySem.pyIter _) _ _ _)); (fail_if_success (with_reducible show KswEnd _ _ _ _ _ _ _ _ _ _ _ _)); (fail_if_success (with_reducible show InvEndN _ _ _ _ _ _ _)))); dsimp only; (( (fail_if_success (with_reducible show wpAny _ _ (PySem.exec (Stmt.While _ _ _ _) _) _ _ _)); (fail_if_success (with_reducible show wpAny _ _ (PySem.exec (Stmt.For _ _ _ _ _) _) _ _ _)); (fail_if_success (with_reducible show wpAny _ _ (PySem.call (Value.ref _) _ _) _ _ _)); (fail_if_success (with_reducible show wpAny _ _ (PySem.pyIter _) _ _ _)); (fail_if_success (with_reducible show KswEnd _ _ _ _ _ _ _ _ _ _ _ _)); (fail_if_success (with_reducible show InvEndN _ _ _ _ _ _ _)))); walk1) | ((( (fail_if_success (with_reducible show wpAny _ _ (PySem.exec (Stmt.While _ _ _ _) _) _ _ _)); (fail_if_success (with_reducible show wpAny _ _ (PySem.exec (Stmt.For _ _ _ _ _) _) _ _ _)); (fail_if_success (with_reducible show wpAny _ _ (PySem.call (Value.ref _) _ _) _ _ _)); (fail_if_success (with_reducible show wpAny _ _ (PySem.pyIter _) _ _ _)); (fail_if_success (with_reducible show KswEnd _ _ _ _ _ _ _ _ _ _ _ _)); (fail_if_success (with_reducible show InvEndN _ _ _ _ _ _ _)))); leave1; walk_say "STEP leave1"; try dsimp only) | fail "no step"))
      · have hg := rLoop_go1 hp1 (by assumption) (by assumption) hc2 hp2
        exact ksw_end (_, _, _, _, _) (by k_asm) (by k_asm) (fun _ h => h) trivial (by kst_all) (by ksw_same) ⟨hg.2.2, hg.2.1⟩ hg.1
      · have hg := rLoop_go2 hp1 (by assumption) (by assumption) hc1 hp2
        exact ksw_end (_, _, _, _, _) (by k_asm) (by k_asm) (fun _ h => h) trivial (by kst_all) (by ksw_same) ⟨hg.2.2, hg.2.1⟩ hg.1
      · have he := rLoop_end hp1 (by omega)
        subst he
        exact ret_ hret ⟨_, rfl⟩ (by k_asm) (by k_asm)
    · rw [if_neg (by assumption)] at hx
      rw [if_neg (by assumption)] at hx
      have he := Option.some.inj hx
      subst he
      exact ret_ hret ⟨_, rfl⟩ (by k_asm) (by k_asm)
end Mine
end
section
open PySem PySem.W PyProof.Rows PySem.Calls
namespace Mine
set_option maxRecDepth 100000
def dLoop : Nat → Int → Str → Option Str
  | 0, _, _ => none
  | n + 1, d, sg => if 1 < d then dLoop n (d.fdiv 2) (sg ++ Txt.item (Str.ofString ". ") (d.fmod 2)) else some sg
def drawnF (x : Int) : Option Str := dLoop 30 (x.fmod 31 + 1) (Str.ofString "")
theorem dLoop_go {n : Nat} {d : Int} {sg r : Str} (h : dLoop n d sg = some r) (hd : 1 < d) (hl : (Txt.item (Str.ofString ". ") (d.fmod 2)).length = 1) (hn : sg.length + n ≤ 200) :
    n - 1 < n ∧ (sg ++ Txt.item (Str.ofString ". ") (d.fmod 2)).length + (n - 1) ≤ 200 ∧ dLoop (n - 1) (d.fdiv 2) (sg ++ Txt.item (Str.ofString ". ") (d.fmod 2)) = some r := by
  cases n with
  | zero => cases h
  | succ n =>
    unfold dLoop at h
    rw [if_pos hd] at h
    refine ⟨by omega, ?_, h⟩
    rw [Str.length_append]
    omega
theorem dLoop_end {n : Nat} {d : Int} {sg r : Str} (h : dLoop n d sg = some r) (hd : ¬ 1 < d) : sg = r := by
  cases n with
  | zero => cases h
  | succ n => unfold dLoop at h; rw [if_neg hd] at h; exact Option.some.inj h
set_option maxHeartbeats 8000000 in
theorem drawn_claim (w : World) (p : Program) (loose : List Str) (mean : ExcName → Option Value) (mg mb : Str → Option Value) (x : Int) (r : Str) (t : CTok) (hx : drawnF x = some r) :
   Claim PySem.Challenge.rw_wn0005_01.prog w (Mine.hd.heap_39 w.params) p loose mean mg mb 1 8 76 [.int x t] (IsS r) := by
  k_with_none
  w_top off
  intro dp un gd cn cs a ccd cl outer A₀ base h₀ L m news s Q E B F X N T hk hd hu hret
  have hl0 : (Str.ofString "").length + 30 ≤ 200 := by decide +kernel
  refine wpAny_call ?_
  k_dflt cell_enter
  k_with_none
  (repeat' (first | (k_unfold; (try dsimp only)) | (k_end; (( (fail_if_success (with_reducible show wpAny _ _ (PySem.exec (Stmt.While _ _ _ _) _) _ _ _)); (fail_if_success (with_reducible show wpAny _ _ (PySem.exec (Stmt.For _ _ _ _ _) _) _ _ _)); (fail_if_success (with_reducible show wpAny _ _ (PySem.call (Value.ref _) _ _) _ _ _)); (fail_if_success (with_reducible show wpAny _ _ (PySem.pyIter _) _ _ _)); (fail_if_success (with_reducible show KswEnd _ _ _ _ _ _ _ _ _ _ _ _)); (fail_if_success (with_reducible show InvEndN _ _ _ _ _ _ _)))); wrow_close) | ((( (fail_if_success (with_reducible show wpAny _ _ (PySem.exec (Stmt.While _ _ _ _) _) _ _ _)); (fail_if_success (with_reducible show wpAny _ _ (PySem.exec (Stmt.For _ _ _ _ _) _) _ _ _)); (fail_if_success (with_reducible show wpAny _ _ (PySem.call (Value.ref _) _ _) _ _ _)); (fail_if_success (with_reducible show wpAny _ _ (PySem.pyIter _) _ _ _)); (fail_if_success (with_reducible show KswEnd _ _ _ _ _ _ _ _ _ _ _ _)); (fail_if_success (with_reducible show InvEndN _ _ _ _ _ _ _)))); walk1) | ((( (fail_if_success (with_reducible show wpAny _ _ (PySem.exec (Stmt.While _ _ _ _) _) _ _ _)); (fail_if_success (with_reducible show wpAny _ _ (PySem.exec (Stmt.For _ _ _ _ _) _) _ _ _)); (fail_if_success (with_reducible show wpAny _ _ (PySem.call (Value.ref _) _ _) _ _ _)); (fail_if_success (with_reducible show wpAny _ _ (PySem.pyIter _) _ _ _)); (fail_if_success (with_reducible show KswEnd _ _ _ _ _ _ _ _ _ _ _ _)); (fail_if_success (with_reducible show InvEndN _ _ _ _ _ _ _)))); dsimp only; (( (fail_if_success (with_reducible show wpAny _ _ (PySem.exec (Stmt.While _ _ _ _) _) _ _ _)); (fail_if_success (with_reducible show wpAny _ _ (PySem.exec (Stmt.For _ _ _ _ _) _) _ _ _)); (fail_if_success (with_reducible show wpAny _ _ (PySem.call (Value.ref _) _ _) _ _ _)); (fail_if_success (with_reducible show wpAny _ _ (PySem.pyIter _) _ _ _)); (fail_if_success (with_reducible show KswEnd _ _ _ _ _ _ _ _ _ _ _ _)); (fail_if_success (with_reducible show InvEndN _ _ _ _ _ _ _)))); walk1) | ((( (fail_if_success (with_reducible show wpAny _ _ (PySem.exec (Stmt.While _ _ _ _) _) _ _ _)); (fail_if_success (with_reducible show wpAny _ _ (PySem.exec (Stmt.For _ _ _ _ _) _) _ _ _)); (fail_if_success (with_reducible show wpAny _ _ (PySem.call (Value.ref _) _ _) _ _ _)); (fail_if_success (with_reducible show wpAny _ _ (PySem.pyIter _) _ _ _)); (fail_if_success (with_reducible show KswEnd _ _ _ _ _ _ _ _ _ _ _ _)); (fail_if_success (with_reducible show InvEndN _ _ _ _ _ _ _)))); leave1; walk_say "STEP leave1"; try dsimp only) | fail "no step"))
  (rename Fr _ _ _ _ => lF')
  (rename News _ _ _ _ => lN')
  (with_unfolding_all refine' ksw_while (σ := Nat × Int × CTok × Str × CTok) (fun _ => news) (fun c => [(Str.ofString "left", .int c.2.1 c.2.2.1), (Str.ofString "signs", .str c.2.2.2.1 c.2.2.2.2)]) (fun _ => True) [] (fun c => dLoop c.1 c.2.1 c.2.2.2.1 = some r ∧ c.2.2.2.1.length + c.1 ≤ 200) (fun c => c.1) (30, _, _, _, _) lF' lN' trivial ?hk ⟨hx, hl0⟩ ?turn)
  (case hk => kst_all)
  (clear lF' lN')
  (rintro ⟨fu, lt, t3, sg, t4⟩ u h tk - hp lF lN)
  (obtain ⟨hp1, hp2⟩ := hp)
  (dsimp only [kstB] at lF hp1 hp2 lN)
  (repeat' (first | (k_unfold; (try dsimp only)) | (k_end; (( (fail_if_success (with_reducible show wpAny _ _ (PySem.exec (Stmt.While _ _ _ _) _) _ _ _)); (fail_if_success (with_reducible show wpAny _ _ (PySem.exec (Stmt.For _ _ _ _ _) _) _ _ _)); (fail_if_success (with_reducible show wpAny _ _ (PySem.call (Value.ref _) _ _) _ _ _)); (fail_if_success (with_reducible show wpAny _ _ (PySem.pyIter _) _ _ _)); (fail_if_success (with_reducible show KswEnd _ _ _ _ _ _ _ _ _ _ _ _)); (fail_if_success (with_reducible show InvEndN _ _ _ _ _ _ _)))); wrow_close) | ((( (fail_if_success (with_reducible show wpAny _ _ (PySem.exec (Stmt.While _ _ _ _) _) _ _ _)); (fail_if_success (with_reducible show wpAny _ _ (PySem.exec (Stmt.For _ _ _ _ _) _) _ _ _)); (fail_if_success (with_reducible show wpAny _ _ (PySem.call (Value.ref _) _ _) _ _ _)); (fail_if_success (with_reducible show wpAny _ _ (PySem.pyIter _) _ _ _)); (fail_if_success (with_reducible show KswEnd _ _ _ _ _ _ _ _ _ _ _ _)); (fail_if_success (with_reducible show InvEndN _ _ _ _ _ _ _)))); walk1) | ((( (fail_if_success (with_reducible show wpAny _ _ (PySem.exec (Stmt.While _ _ _ _) _) _ _ _)); (fail_if_success (with_reducible show wpAny _ _ (PySem.exec (Stmt.For _ _ _ _ _) _) _ _ _)); (fail_if_success (with_reducible show wpAny _ _ (PySem.call (Value.ref _) _ _) _ _ _)); (fail_if_success (with_reducible show wpAny _ _ (PySem.pyIter _) _ _ _)); (fail_if_success (with_reducible show KswEnd _ _ _ _ _ _ _ _ _ _ _ _)); (fail_if_success (with_reducible show InvEndN _ _ _ _ _ _ _)))); dsimp only; (( (fail_if_success (with_reducible show wpAny _ _ (PySem.exec (Stmt.While _ _ _ _) _) _ _ _)); (fail_if_success (with_reducible show wpAny _ _ (PySem.exec (Stmt.For _ _ _ _ _) _) _ _ _)); (fail_if_success (with_reducible show wpAny _ _ (PySem.call (Value.ref _) _ _) _ _ _)); (fail_if_success (with_reducible show wpAny _ _ (PySem.pyIter _) _ _ _)); (fail_if_success (with_reducible show KswEnd _ _ _ _ _ _ _ _ _ _ _ _)); (fail_if_success (with_reducible show InvEndN _ _ _ _ _ _ _)))); walk1) | ((( (fail_if_success (with_reducible show wpAny _ _ (PySem.exec (Stmt.While _ _ _ _) _) _ _ _)); (fail_if_success (with_reducible show wpAny _ _ (PySem.exec (Stmt.For _ _ _ _ _) _) _ _ _)); (fail_if_success (with_reducible show wpAny _ _ (PySem.call (Value.ref _) _ _) _ _ _)); (fail_if_success (with_reducible show wpAny _ _ (PySem.pyIter _) _ _ _)); (fail_if_success (with_reducible show KswEnd _ _ _ _ _ _ _ _ _ _ _ _)); (fail_if_success (with_reducible show InvEndN _ _ _ _ _ _ _)))); leave1; walk_say "STEP leave1"; try dsimp only) | fail "no step"))
  · have hg := dLoop_go hp1 (by assumption) (by assumption) hp2
    exact ksw_end (_, _, _, _, _) (by k_asm) (by k_asm) (fun _ h => h) trivial (by kst_all) (by ksw_same) ⟨hg.2.2, hg.2.1⟩ hg.1
  · have he := dLoop_end hp1 (by assumption)
    subst he
    exact ret_ hret ⟨_, rfl⟩ (by k_asm) (by k_asm)
end Mine
end
section
open PySem PySem.W PyProof.Rows PySem.Calls
namespace Mine
set_option maxRecDepth 100000
def sLoop (x : Str) : Nat → Int → Int → Option Int
  | 0, _, _ => none
  | n + 1, lp, am => if 0 ≤ lp ∧ lp < x.length then (if am ≠ 0 then (if (Txt.item x lp == Str.ofString " ") = true then sLoop x n (lp + 1) (am - 1) else some lp) else some lp) else none
theorem sLoop_in {x : Str} {n : Nat} {lp am q : Int} (h : sLoop x n lp am = some q) : 0 ≤ lp ∧ lp < x.length := by
  cases n with
  | zero => cases h
  | succ n =>
    unfold sLoop at h
    by_cases hb : 0 ≤ lp ∧ lp < x.length
    · exact hb
    · rw [if_neg hb] at h; cases h
theorem sLoop_go {x : Str} {n : Nat} {lp am q : Int} (h : sLoop x n lp am = some q) (ha : am ≠ 0) (hi : (Txt.item x lp == Str.ofString " ") = true) : n - 1 < n ∧ sLoop x (n - 1) (lp + 1) (am - 1) = some q := by
  have hb := sLoop_in h
  cases n with
  | zero => cases h
  | succ n =>
    unfold sLoop at h
    rw [if_pos hb, if_pos ha, if_pos hi] at h
    exact ⟨by omega, h⟩
theorem sLoop_end1 {x : Str} {n : Nat} {lp am q : Int} (h : sLoop x n lp am = some q) (ha : am ≠ 0) (hi : (Txt.item x lp == Str.ofString " ") = false) : lp = q := by
  have hb := sLoop_in h
  cases n with
  | zero => cases h
  | succ n =>
    unfold sLoop at h
    rw [if_pos hb, if_pos ha, if_neg (by rw [hi]; exact Bool.false_ne_true)] at h
    exact Option.some.inj h
theorem sLoop_end2 {x : Str} {n : Nat} {lp am q : Int} (h : sLoop x n lp am = some q) (ha : am = 0) : lp = q := by
  have hb := sLoop_in h
  cases n with
  | zero => cases h
  | succ n =>
    unfold sLoop at h
    rw [if_pos hb, if_neg (by omega)] at h
    exact Option.some.inj h
set_option maxHeartbeats 8000000 in
theorem strip_claim (w : World) (p : Program) (loose : List Str) (mean : ExcName → Option Value) (mg mb : Str → Option Value) (x : Str) (k q : Int) (t t2 : CTok) (hz : 0 < x.length ∧ x.length ≤ 100)
   (hx : sLoop x 30 0 k = some q) (hlast : (Txt.item x (x.length - 1) == Str.ofString " ") = false) :
   Claim PySem.Challenge.rw_wn0005_01.prog w (Mine.hd.heap_39 w.params) p loose mean mg mb 1 8 45 [.str x t, .int k t2] (IsS (Txt.slice x (some q) (some ((x.length : Int) - 1 + 1)))) := by
  k_with_none
  w_top off
  intro dp un gd cn cs a ccd cl outer A₀ base h₀ L m news s Q E B F X N T hk hd hu hret
  have hz1 := hz.1
  have hz2 := hz.2
  refine wpAny_call ?_
  k_dflt cell_enter
  k_with_none
  (repeat' (first | (k_unfold; (try dsimp only)) | (k_end; (( (fail_if_success (with_reducible show wpAny _ _ (PySem.exec (Stmt.While _ _ _ _) _) _ _ _)); (fail_if_success (with_reducible show wpAny _ _ (PySem.exec (Stmt.For _ _ _ _ _) _) _ _ _)); (fail_if_success (with_reducible show wpAny _ _ (PySem.call (Value.ref _) _ _) _ _ _)); (fail_if_success (with_reducible show wpAny _ _ (PySem.pyIter _) _ _ _)); (fail_if_success (with_reducible show KswEnd _ _ _ _ _ _ _ _ _ _ _ _)); (fail_if_success (with_reducible show InvEndN _ _ _ _ _ _ _)))); wrow_close) | ((( (fail_if_success (with_reducible show wpAny _ _ (PySem.exec (Stmt.While _ _ _ _) _) _ _ _)); (fail_if_success (with_reducible show wpAny _ _ (PySem.exec (Stmt.For _ _ _ _ _) _) _ _ _)); (fail_if_success (with_reducible show wpAny _ _ (PySem.call (Value.ref _) _ _) _ _ _)); (fail_if_success (with_reducible show wpAny _ _ (PySem.pyIter _) _ _ _)); (fail_if_success (with_reducible show KswEnd _ _ _ _ _ _ _ _ _ _ _ _)); (fail_if_success (with_reducible show InvEndN _ _ _ _ _ _ _)))); walk1) | ((( (fail_if_success (with_reducible show wpAny _ _ (PySem.exec (Stmt.While _ _ _ _) _) _ _ _)); (fail_if_success (with_reducible show wpAny _ _ (PySem.exec (Stmt.For _ _ _ _ _) _) _ _ _)); (fail_if_success (with_reducible show wpAny _ _ (PySem.call (Value.ref _) _ _) _ _ _)); (fail_if_success (with_reducible show wpAny _ _ (PySem.pyIter _) _ _ _)); (fail_if_success (with_reducible show KswEnd _ _ _ _ _ _ _ _ _ _ _ _)); (fail_if_success (with_reducible show InvEndN _ _ _ _ _ _ _)))); dsimp only; (( (fail_if_success (with_reducible show wpAny _ _ (PySem.exec (Stmt.While _ _ _ _) _) _ _ _)); (fail_if_success (with_reducible show wpAny _ _ (PySem.exec (Stmt.For _ _ _ _ _) _) _ _ _)); (fail_if_success (with_reducible show wpAny _ _ (PySem.call (Value.ref _) _ _) _ _ _)); (fail_if_success (with_reducible show wpAny _ _ (PySem.pyIter _) _ _ _)); (fail_if_success (with_reducible show KswEnd _ _ _ _ _ _ _ _ _ _ _ _)); (fail_if_success (with_reducible show InvEndN _ _ _ _ _ _ _)))); walk1) | ((( (fail_if_success (with_reducible show wpAny _ _ (PySem.exec (Stmt.While _ _ _ _) _) _ _ _)); (fail_if_success (with_reducible show wpAny _ _ (PySem.exec (Stmt.For _ _ _ _ _) _) _ _ _)); (fail_if_success (with_reducible show wpAny _ _ (PySem.call (Value.ref _) _ _) _ _ _)); (fail_if_success (with_reducible show wpAny _ _ (PySem.pyIter _) _ _ _)); (fail_if_success (with_reducible show KswEnd _ _ _ _ _ _ _ _ _ _ _ _)); (fail_if_success (with_reducible show InvEndN _ _ _ _ _ _ _)))); leave1; walk_say "STEP leave1"; try dsimp only) | fail "no step"))
  (rename Fr _ _ _ _ => lF')
  (rename News _ _ _ _ => lN')
  (with_unfolding_all refine' ksw_while (σ := Nat × Int × CTok × Int × CTok) (fun _ => news) (fun c => [(Str.ofString "lpos", .int c.2.1 c.2.2.1), (Str.ofString "amount", .int c.2.2.2.1 c.2.2.2.2)]) (fun _ => True) [] (fun c => sLoop x c.1 c.2.1 c.2.2.2.1 = some q) (fun c => c.1) (30, _, _, _, _) lF' lN' trivial ?hk hx ?turn)
  (case hk => kst_all)
  (clear lF' lN')
  (rintro ⟨fu, lp, t3, am, t4⟩ u h tk - hp lF lN)
  (dsimp only [kstB] at lF hp lN)
  (obtain ⟨hp1, hp2⟩ := sLoop_in hp)
  (repeat' (first | (k_unfold; (try dsimp only)) | (k_end; (( (fail_if_success (with_reducible show wpAny _ _ (PySem.exec (Stmt.While _ _ _ _) _) _ _ _)); (fail_if_success (with_reducible show wpAny _ _ (PySem.exec (Stmt.For _ _ _ _ _) _) _ _ _)); (fail_if_success (with_reducible show wpAny _ _ (PySem.call (Value.ref _) _ _) _ _ _)); (fail_if_success (with_reducible show wpAny _ _ (PySem.pyIter _) _ _ _)); (fail_if_success (with_reducible show KswEnd _ _ _ _ _ _ _ _ _ _ _ _)); (fail_if_success (with_reducible show InvEndN _ _ _ _ _ _ _)))); wrow_close) | ((( (fail_if_success (with_reducible show wpAny _ _ (PySem.exec (Stmt.While _ _ _ _) _) _ _ _)); (fail_if_success (with_reducible show wpAny _ _ (PySem.exec (Stmt.For _ _ _ _ _) _) _ _ _)); (fail_if_success (with_reducible show wpAny _ _ (PySem.call (Value.ref _) _ _) _ _ _)); (fail_if_success (with_reducible show wpAny _ _ (PySem.pyIter _) _ _ _)); (fail_if_success (with_reducible show KswEnd _ _ _ _ _ _ _ _ _ _ _ _)); (fail_if_success (with_reducible show InvEndN _ _ _ _ _ _ _)))); walk1) | ((( (fail_if_success (with_reducible show wpAny _ _ (PySem.exec (Stmt.While _ _ _ _) _) _ _ _)); (fail_if_success (with_reducible show wpAny _ _ (PySem.exec (Stmt.For _ _ _ _ _) _) _ _ _)); (fail_if_success (with_reducible show wpAny _ _ (PySem.call (Value.ref _) _ _) _ _ _)); (fail_if_success (with_reducible show wpAny _ _ (PySem.pyIter _) _ _ _)); (fail_if_success (with_reducible show KswEnd _ _ _ _ _ _ _ _ _ _ _ _)); (fail_if_success (with_reducible show InvEndN _ _ _ _ _ _ _)))); dsimp only; (( (fail_if_success (with_reducible show wpAny _ _ (PySem.exec (Stmt.While _ _ _ _) _) _ _ _)); (fail_if_success (with_reducible show wpAny _ _ (PySem.exec (Stmt.For _ _ _ _ _) _) _ _ _)); (fail_if_success (with_reducible show wpAny _ _ (PySem.call (Value.ref _) _ _) _ _ _)); (fail_if_success (with_reducible show wpAny _ _ (PySem.pyIter _) _ _ _)); (fail_if_success (with_reducible show KswEnd _ _ _ _ _ _ _ _ _ _ _ _)); (fail_if_success (with_reducible show InvEndN _ _ _ _ _ _ _)))); walk1) | ((( (fail_if_success (with_reducible show wpAny _ _ (PySem.exec (Stmt.While _ _ _ _) _) _ _ _)); (fail_if_success (with_reducible show wpAny _ _ (PySem.exec (Stmt.For _ _ _ _ _) _) _ _ _)); (fail_if_success (with_reducible show wpAny _ _ (PySem.call (Value.ref _) _ _) _ _ _)); (fail_if_success (with_reducible show wpAny _ _ (PySem.pyIter _) _ _ _)); (fail_if_success (with_reducible show KswEnd _ _ _ _ _ _ _ _ _ _ _ _)); (fail_if_success (with_reducible show InvEndN _ _ _ _ _ _ _)))); leave1; walk_say "STEP leave1"; try dsimp only) | fail "no step"))
  · have hg := sLoop_go hp (by assumption) (by assumption)
    exact ksw_end (_, _, _, _, _) (by k_asm) (by k_asm) (fun _ h => h) trivial (by kst_all) (by ksw_same) hg.2 hg.1
  · have he := sLoop_end1 hp (by assumption) (by assumption)
    subst he
    (rename Fr _ _ _ _ => lF')
    (rename News _ _ _ _ => lN')
    (with_unfolding_all refine' ksw_while (σ := Unit) (fun _ => news) (fun c => []) (fun _ => True) [] (fun c => True) (fun c => 0) () lF' lN' trivial ?hk2 trivial ?turn2)
    (case hk2 => kst_all)
    (clear lF' lN')
    (rintro ⟨⟩ u2 h2 tk2 - - lF lN)
    (dsimp only [kstB] at lF lN)
    (repeat' (first | (k_unfold; (try dsimp only)) | (k_end; (( (fail_if_success (with_reducible show wpAny _ _ (PySem.exec (Stmt.While _ _ _ _) _) _ _ _)); (fail_if_success (with_reducible show wpAny _ _ (PySem.exec (Stmt.For _ _ _ _ _) _) _ _ _)); (fail_if_success (with_reducible show wpAny _ _ (PySem.call (Value.ref _) _ _) _ _ _)); (fail_if_success (with_reducible show wpAny _ _ (PySem.pyIter _) _ _ _)); (fail_if_success (with_reducible show KswEnd _ _ _ _ _ _ _ _ _ _ _ _)); (fail_if_success (with_reducible show InvEndN _ _ _ _ _ _ _)))); wrow_close) | ((( (fail_if_success (with_reducible show wpAny _ _ (PySem.exec (Stmt.While _ _ _ _) _) _ _ _)); (fail_if_success (with_reducible show wpAny _ _ (PySem.exec (Stmt.For _ _ _ _ _) _) _ _ _)); (fail_if_success (with_reducible show wpAny _ _ (PySem.call (Value.ref _) _ _) _ _ _)); (fail_if_success (with_reducible show wpAny _ _ (PySem.pyIter _) _ _ _)); (fail_if_success (with_reducible show KswEnd _ _ _ _ _ _ _ _ _ _ _ _)); (fail_if_success (with_reducible show InvEndN _ _ _ _ _ _ _)))); walk1) | ((( (fail_if_success (with_reducible show wpAny _ _ (PySem.exec (Stmt.While _ _ _ _) _) _ _ _)); (fail_if_success (with_reducible show wpAny _ _ (PySem.exec (Stmt.For _ _ _ _ _) _) _ _ _)); (fail_if_success (with_reducible show wpAny _ _ (PySem.call (Value.ref _) _ _) _ _ _)); (fail_if_success (with_reducible show wpAny _ _ (PySem.pyIter _) _ _ _)); (fail_if_success (with_reducible show KswEnd _ _ _ _ _ _ _ _ _ _ _ _)); (fail_if_success (with_reducible show InvEndN _ _ _ _ _ _ _)))); dsimp only; (( (fail_if_success (with_reducible show wpAny _ _ (PySem.exec (Stmt.While _ _ _ _) _) _ _ _)); (fail_if_success (with_reducible show wpAny _ _ (PySem.exec (Stmt.For _ _ _ _ _) _) _ _ _)); (fail_if_success (with_reducible show wpAny _ _ (PySem.call (Value.ref _) _ _) _ _ _)); (fail_if_success (with_reducible show wpAny _ _ (PySem.pyIter _) _ _ _)); (fail_if_success (with_reducible show KswEnd _ _ _ _ _ _ _ _ _ _ _ _)); (fail_if_success (with_reducible show InvEndN _ _ _ _ _ _ _)))); walk1) | ((( (fail_if_success (with_reducible show wpAny _ _ (PySem.exec (Stmt.While _ _ _ _) _) _ _ _)); (fail_if_success (with_reducible show wpAny _ _ (PySem.exec (Stmt.For _ _ _ _ _) _) _ _ _)); (fail_if_success (with_reducible show wpAny _ _ (PySem.call (Value.ref _) _ _) _ _ _)); (fail_if_success (with_reducible show wpAny _ _ (PySem.pyIter _) _ _ _)); (fail_if_success (with_reducible show KswEnd _ _ _ _ _ _ _ _ _ _ _ _)); (fail_if_success (with_reducible show InvEndN _ _ _ _ _ _ _)))); leave1; walk_say "STEP leave1"; try dsimp only) | fail "no step"))
    all_goals exact ret_ hret ⟨_, rfl⟩ (by k_asm) (by k_asm)
  · have he := sLoop_end2 hp (by assumption)
    subst he
    (rename Fr _ _ _ _ => lF')
    (rename News _ _ _ _ => lN')
    (with_unfolding_all refine' ksw_while (σ := Unit) (fun _ => news) (fun c => []) (fun _ => True) [] (fun c => True) (fun c => 0) () lF' lN' trivial ?hk3 trivial ?turn3)
    (case hk3 => kst_all)
    (clear lF' lN')
    (rintro ⟨⟩ u2 h2 tk2 - - lF lN)
    (dsimp only [kstB] at lF lN)
    (repeat' (first | (k_unfold; (try dsimp only)) | (k_end; (( (fail_if_success (with_reducible show wpAny _ _ (PySem.exec (Stmt.While _ _ _ _) _) _ _ _)); (fail_if_success (with_reducible show wpAny _ _ (PySem.exec (Stmt.For _ _ _ _ _) _) _ _ _)); (fail_if_success (with_reducible show wpAny _ _ (PySem.call (Value.ref _) _ _) _ _ _)); (fail_if_success (with_reducible show wpAny _ _ (PySem.pyIter _) _ _ _)); (fail_if_success (with_reducible show KswEnd _ _ _ _ _ _ _ _ _ _ _ _)); (fail_if_success (with_reducible show InvEndN _ _ _ _ _ _ _)))); wrow_close) | ((( (fail_if_success (with_reducible show wpAny _ _ (PySem.exec (Stmt.While _ _ _ _) _) _ _ _)); (fail_if_success (with_reducible show wpAny _ _ (PySem.exec (Stmt.For _ _ _ _ _) _) _ _ _)); (fail_if_success (with_reducible show wpAny _ _ (PySem.call (Value.ref _) _ _) _ _ _)); (fail_if_success (with_reducible show wpAny _ _ (PySem.pyIter _) _ _ _)); (fail_if_success (with_reducible show KswEnd _ _ _ _ _ _ _ _ _ _ _ _)); (fail_if_success (with_reducible show InvEndN _ _ _ _ _ _ _)))); walk1) | ((( (fail_if_success (with_reducible show wpAny _ _ (PySem.exec (Stmt.While _ _ _ _) _) _ _ _)); (fail_if_success (with_reducible show wpAny _ _ (PySem.exec (Stmt.For _ _ _ _ _) _) _ _ _)); (fail_if_success (with_reducible show wpAny _ _ (PySem.call (Value.ref _) _ _) _ _ _)); (fail_if_success (with_reducible show wpAny _ _ (PySem.pyIter _) _ _ _)); (fail_if_success (with_reducible show KswEnd _ _ _ _ _ _ _ _ _ _ _ _)); (fail_if_success (with_reducible show InvEndN _ _ _ _ _ _ _)))); dsimp only; (( (fail_if_success (with_reducible show wpAny _ _ (PySem.exec (Stmt.While _ _ _ _) _) _ _ _)); (fail_if_success (with_reducible show wpAny _ _ (PySem.exec (Stmt.For _ _ _ _ _) _) _ _ _)); (fail_if_success (with_reducible show wpAny _ _ (PySem.call (Value.ref _) _ _) _ _ _)); (fail_if_success (with_reducible show wpAny _ _ (PySem.pyIter _) _ _ _)); (fail_if_success (with_reducible show KswEnd _ _ _ _ _ _ _ _ _ _ _ _)); (fail_if_success (with_reducible show InvEndN _ _ _ _ _ _ _)))); walk1) | ((( (fail_if_success (with_reducible show wpAny _ _ (PySem.exec (Stmt.While _ _ _ _) _) _ _ _)); (fail_if_success (with_reducible show wpAny _ _ (PySem.exec (Stmt.For _ _ _ _ _) _) _ _ _)); (fail_if_success (with_reducible show wpAny _ _ (PySem.call (Value.ref _) _ _) _ _ _)); (fail_if_success (with_reducible show wpAny _ _ (PySem.pyIter _) _ _ _)); (fail_if_success (with_reducible show KswEnd _ _ _ _ _ _ _ _ _ _ _ _)); (fail_if_success (with_reducible show InvEndN _ _ _ _ _ _ _)))); leave1; walk_say "STEP leave1"; try dsimp only) | fail "no step"))
    all_goals exact ret_ hret ⟨_, rfl⟩ (by k_asm) (by k_asm)
end Mine
end
section
open PySem PySem.W PyProof.Rows PySem.Calls
namespace Mine
set_option maxRecDepth 100000
def wT (x : Str) (tu : Bool) (c : Nat) : Bool := if tu = true then tu else (({ cps := #[c] } : Str) != Txt.item x 0)
def wS (x : Str) (tu : Bool) (st : Int) (c : Nat) : Int := if wT x tu c = true then st.fdiv 2 else st
def wZ (x : Str) (tu : Bool) (st : Int) (zs : List Int) (c : Nat) : Int := zs.getD (-1 + (zs.length : Int)).toNat 0 + (if (({ cps := #[c] } : Str) == Str.ofString ".") = true then wS x tu st c else -wS x tu st c)
def wStep (x : Str) (st : Bool × Int × List Int) (c : Int) : Bool × Int × List Int := (wT x st.1 c.toNat, wS x st.1 st.2.1 c.toNat, st.2.2 ++ [wZ x st.1 st.2.1 st.2.2 c.toNat])
def wFold (x : Str) (pre : List Int) : Bool × Int × List Int := pre.foldl (wStep x) (false, 256, [0])
def worthsF (x : Str) : List Int := (wFold x (KStt.codes x)).2.2
theorem wFold_snoc (x : Str) (pre : List Int) (c : Nat) {tu : Bool} {st : Int} {zs : List Int} (h : (tu, st, zs) = wFold x pre) {tu' : Bool} {st' z' : Int} (h1 : wT x tu c = tu') (h2 : wS x tu st c = st') (h3 : wZ x tu st zs c = z') : (tu', st', zs ++ [z']) = wFold x (pre ++ [(c : Int)]) := by
  unfold wFold at h ⊢
  rw [List.foldl_append, ← h]
  subst h1 h2 h3
  rfl
theorem off2 {news own : List (Addr × Obj)} {l : Addr} {o : Obj} (h : ∀ p ∈ news, p.1 < l) (ho : OwnOff own (((l, o) :: news).map (·.1))) : OwnOff (news ++ own) [l] := by
  intro p hp b hb
  rw [List.mem_singleton.mp hb]
  rcases List.mem_append.mp hp with q | q
  · exact Nat.ne_of_lt (h p q)
  · exact ho p q l (.head _)
theorem codes_pos {x : Str} {pre post : List Int} {c : Int} (h : KStt.codes x = pre ++ c :: post) : 0 < x.length := by
  have e := congrArg List.length h
  rw [KStt.codes_length, List.length_append, List.length_cons] at e
  omega
set_option maxHeartbeats 8000000 in
theorem worths_claim (w : World) (p : Program) (loose : List Str) (mean : ExcName → Option Value) (mg mb : Str → Option Value) (x : Str) (t : CTok) (hz : x.length ≤ 100) :
   ClaimL PySem.Challenge.rw_wn0005_01.prog w (Mine.hd.heap_39 w.params) p loose mean mg mb 1 8 83 [.str x t] (worthsF x) := by
  k_with_none
  w_top off
  intro dp un gd cn cs a ccd cl outer A₀ base h₀ L m news s Q E B F X N T hk hd hu hret
  refine wpAny_call ?_
  k_dflt cell_enter
  k_with_none
  (repeat' (first | (k_unfold; (try dsimp only)) | (k_end; (( (fail_if_success (with_reducible show wpAny _ _ (PySem.exec (Stmt.While _ _ _ _) _) _ _ _)); (fail_if_success (with_reducible show wpAny _ _ (PySem.exec (Stmt.For _ _ _ _ _) _) _ _ _)); (fail_if_success (with_reducible show wpAny _ _ (PySem.call (Value.ref _) _ _) _ _ _)); (fail_if_success (with_reducible show wpAny _ _ (PySem.pyIter _) _ _ _)); (fail_if_success (with_reducible show KswEnd _ _ _ _ _ _ _ _ _ _ _ _)); (fail_if_success (with_reducible show InvEndN _ _ _ _ _ _ _)))); wrow_close) | ((( (fail_if_success (with_reducible show wpAny _ _ (PySem.exec (Stmt.While _ _ _ _) _) _ _ _)); (fail_if_success (with_reducible show wpAny _ _ (PySem.exec (Stmt.For _ _ _ _ _) _) _ _ _)); (fail_if_success (with_reducible show wpAny _ _ (PySem.call (Value.ref _) _ _) _ _ _)); (fail_if_success (with_reducible show wpAny _ _ (PySem.pyIter _) _ _ _)); (fail_if_success (with_reducible show KswEnd _ _ _ _ _ _ _ _ _ _ _ _)); (fail_if_success (with_reducible show InvEndN _ _ _ _ _ _ _)))); walk1) | ((( (fail_if_success (with_reducible show wpAny _ _ (PySem.exec (Stmt.While _ _ _ _) _) _ _ _)); (fail_if_success (with_reducible show wpAny _ _ (PySem.exec (Stmt.For _ _ _ _ _) _) _ _ _)); (fail_if_success (with_reducible show wpAny _ _ (PySem.call (Value.ref _) _ _) _ _ _)); (fail_if_success (with_reducible show wpAny _ _ (PySem.pyIter _) _ _ _)); (fail_if_success (with_reducible show KswEnd _ _ _ _ _ _ _ _ _ _ _ _)); (fail_if_success (with_reducible show InvEndN _ _ _ _ _ _ _)))); dsimp only; (( (fail_if_success (with_reducible show wpAny _ _ (PySem.exec (Stmt.While _ _ _ _) _) _ _ _)); (fail_if_success (with_reducible show wpAny _ _ (PySem.exec (Stmt.For _ _ _ _ _) _) _ _ _)); (fail_if_success (with_reducible show wpAny _ _ (PySem.call (Value.ref _) _ _) _ _ _)); (fail_if_success (with_reducible show wpAny _ _ (PySem.pyIter _) _ _ _)); (fail_if_success (with_reducible show KswEnd _ _ _ _ _ _ _ _ _ _ _ _)); (fail_if_success (with_reducible show InvEndN _ _ _ _ _ _ _)))); walk1) | ((( (fail_if_success (with_reducible show wpAny _ _ (PySem.exec (Stmt.While _ _ _ _) _) _ _ _)); (fail_if_success (with_reducible show wpAny _ _ (PySem.exec (Stmt.For _ _ _ _ _) _) _ _ _)); (fail_if_success (with_reducible show wpAny _ _ (PySem.call (Value.ref _) _ _) _ _ _)); (fail_if_success (with_reducible show wpAny _ _ (PySem.pyIter _) _ _ _)); (fail_if_success (with_reducible show KswEnd _ _ _ _ _ _ _ _ _ _ _ _)); (fail_if_success (with_reducible show InvEndN _ _ _ _ _ _ _)))); leave1; walk_say "STEP leave1"; try dsimp only) | fail "no step"))
  (( (rename Fr _ _ _ _ => lF'); (with_unfolding_all refine' For_invVF lF' ?k1u103 ?k2u103 ?_); (case k1u103 => exact rfl); (case k2u103 => exact rfl)))
  (repeat' (first | (k_unfold; (try dsimp only)) | (k_end; (( (fail_if_success (with_reducible show wpAny _ _ (PySem.exec (Stmt.While _ _ _ _) _) _ _ _)); (fail_if_success (with_reducible show wpAny _ _ (PySem.exec (Stmt.For _ _ _ _ _) _) _ _ _)); (fail_if_success (with_reducible show wpAny _ _ (PySem.call (Value.ref _) _ _) _ _ _)); (fail_if_success (with_reducible show wpAny _ _ (PySem.pyIter _) _ _ _)); (fail_if_success (with_reducible show KswEnd _ _ _ _ _ _ _ _ _ _ _ _)); (fail_if_success (with_reducible show InvEndN _ _ _ _ _ _ _)))); wrow_close) | ((( (fail_if_success (with_reducible show wpAny _ _ (PySem.exec (Stmt.While _ _ _ _) _) _ _ _)); (fail_if_success (with_reducible show wpAny _ _ (PySem.exec (Stmt.For _ _ _ _ _) _) _ _ _)); (fail_if_success (with_reducible show wpAny _ _ (PySem.call (Value.ref _) _ _) _ _ _)); (fail_if_success (with_reducible show wpAny _ _ (PySem.pyIter _) _ _ _)); (fail_if_success (with_reducible show KswEnd _ _ _ _ _ _ _ _ _ _ _ _)); (fail_if_success (with_reducible show InvEndN _ _ _ _ _ _ _)))); walk1) | ((( (fail_if_success (with_reducible show wpAny _ _ (PySem.exec (Stmt.While _ _ _ _) _) _ _ _)); (fail_if_success (with_reducible show wpAny _ _ (PySem.exec (Stmt.For _ _ _ _ _) _) _ _ _)); (fail_if_success (with_reducible show wpAny _ _ (PySem.call (Value.ref _) _ _) _ _ _)); (fail_if_success (with_reducible show wpAny _ _ (PySem.pyIter _) _ _ _)); (fail_if_success (with_reducible show KswEnd _ _ _ _ _ _ _ _ _ _ _ _)); (fail_if_success (with_reducible show InvEndN _ _ _ _ _ _ _)))); dsimp only; (( (fail_if_success (with_reducible show wpAny _ _ (PySem.exec (Stmt.While _ _ _ _) _) _ _ _)); (fail_if_success (with_reducible show wpAny _ _ (PySem.exec (Stmt.For _ _ _ _ _) _) _ _ _)); (fail_if_success (with_reducible show wpAny _ _ (PySem.call (Value.ref _) _ _) _ _ _)); (fail_if_success (with_reducible show wpAny _ _ (PySem.pyIter _) _ _ _)); (fail_if_success (with_reducible show KswEnd _ _ _ _ _ _ _ _ _ _ _ _)); (fail_if_success (with_reducible show InvEndN _ _ _ _ _ _ _)))); walk1) | ((( (fail_if_success (with_reducible show wpAny _ _ (PySem.exec (Stmt.While _ _ _ _) _) _ _ _)); (fail_if_success (with_reducible show wpAny _ _ (PySem.exec (Stmt.For _ _ _ _ _) _) _ _ _)); (fail_if_success (with_reducible show wpAny _ _ (PySem.call (Value.ref _) _ _) _ _ _)); (fail_if_success (with_reducible show wpAny _ _ (PySem.pyIter _) _ _ _)); (fail_if_success (with_reducible show KswEnd _ _ _ _ _ _ _ _ _ _ _ _)); (fail_if_success (with_reducible show InvEndN _ _ _ _ _ _ _)))); leave1; walk_say "STEP leave1"; try dsimp only) | fail "no step"))
  (rename Fr _ _ _ _ => lF')
  (rename News _ _ _ _ => lN')
  (rename (∀ p ∈ news, p.1 < _) => l1)
  (with_unfolding_all refine' KStt.kst_text (σ := Bool × Int × CTok × List Value × List Int × Nat) (fun c => (_, listOf c.2.2.2.1.toArray c.2.2.2.2.2) :: news) (fun c => [(Str.ofString "turned", .bool c.1), (Str.ofString "step", .int c.2.1 c.2.2.1)]) (fun c => IntsAre c.2.2.2.1 c.2.2.2.2.1) [] (fun pre c => (c.1, c.2.1, c.2.2.2.2.1) = wFold x pre ∧ c.2.2.2.2.1.length = pre.length + 1) (false, 256, _, _, [0], _) ?hh lF' lN' ?hf ?hk ⟨rfl, rfl⟩ ?turn ?done)
  case hh => with_unfolding_all rfl
  case hf => exact IntsAre.cons _ _ IntsAre.nil
  case hk => kst_all
  case turn =>
    clear lF' lN'
    rintro ⟨tu, st, t1, vs, zs, nn⟩ pre post c t2 u h tk own hcs hoff hf ⟨hp1, hp2⟩ lF lN
    have hoff2 := off2 l1 hoff
    have hx0 := codes_pos hcs
    have hz0 : zs.length ≤ 100 := by
      have e := congrArg List.length hcs
      rw [KStt.codes_length, List.length_append, List.length_cons] at e
      dsimp only at hp2
      omega
    dsimp only [kstB, List.cons_append] at lF hp1 hp2 hf lN
    (repeat' (first | (k_unfold; (try dsimp only)) | (k_end; (( (fail_if_success (with_reducible show wpAny _ _ (PySem.exec (Stmt.While _ _ _ _) _) _ _ _)); (fail_if_success (with_reducible show wpAny _ _ (PySem.exec (Stmt.For _ _ _ _ _) _) _ _ _)); (fail_if_success (with_reducible show wpAny _ _ (PySem.call (Value.ref _) _ _) _ _ _)); (fail_if_success (with_reducible show wpAny _ _ (PySem.pyIter _) _ _ _)); (fail_if_success (with_reducible show KswEnd _ _ _ _ _ _ _ _ _ _ _ _)); (fail_if_success (with_reducible show InvEndN _ _ _ _ _ _ _)))); wrow_close) | ((( (fail_if_success (with_reducible show wpAny _ _ (PySem.exec (Stmt.While _ _ _ _) _) _ _ _)); (fail_if_success (with_reducible show wpAny _ _ (PySem.exec (Stmt.For _ _ _ _ _) _) _ _ _)); (fail_if_success (with_reducible show wpAny _ _ (PySem.call (Value.ref _) _ _) _ _ _)); (fail_if_success (with_reducible show wpAny _ _ (PySem.pyIter _) _ _ _)); (fail_if_success (with_reducible show KswEnd _ _ _ _ _ _ _ _ _ _ _ _)); (fail_if_success (with_reducible show InvEndN _ _ _ _ _ _ _)))); walk1) | ((( (fail_if_success (with_reducible show wpAny _ _ (PySem.exec (Stmt.While _ _ _ _) _) _ _ _)); (fail_if_success (with_reducible show wpAny _ _ (PySem.exec (Stmt.For _ _ _ _ _) _) _ _ _)); (fail_if_success (with_reducible show wpAny _ _ (PySem.call (Value.ref _) _ _) _ _ _)); (fail_if_success (with_reducible show wpAny _ _ (PySem.pyIter _) _ _ _)); (fail_if_success (with_reducible show KswEnd _ _ _ _ _ _ _ _ _ _ _ _)); (fail_if_success (with_reducible show InvEndN _ _ _ _ _ _ _)))); dsimp only; (( (fail_if_success (with_reducible show wpAny _ _ (PySem.exec (Stmt.While _ _ _ _) _) _ _ _)); (fail_if_success (with_reducible show wpAny _ _ (PySem.exec (Stmt.For _ _ _ _ _) _) _ _ _)); (fail_if_success (with_reducible show wpAny _ _ (PySem.call (Value.ref _) _ _) _ _ _)); (fail_if_success (with_reducible show wpAny _ _ (PySem.pyIter _) _ _ _)); (fail_if_success (with_reducible show KswEnd _ _ _ _ _ _ _ _ _ _ _ _)); (fail_if_success (with_reducible show InvEndN _ _ _ _ _ _ _)))); walk1) | ((( (fail_if_success (with_reducible show wpAny _ _ (PySem.exec (Stmt.While _ _ _ _) _) _ _ _)); (fail_if_success (with_reducible show wpAny _ _ (PySem.exec (Stmt.For _ _ _ _ _) _) _ _ _)); (fail_if_success (with_reducible show wpAny _ _ (PySem.call (Value.ref _) _ _) _ _ _)); (fail_if_success (with_reducible show wpAny _ _ (PySem.pyIter _) _ _ _)); (fail_if_success (with_reducible show KswEnd _ _ _ _ _ _ _ _ _ _ _ _)); (fail_if_success (with_reducible show InvEndN _ _ _ _ _ _ _)))); leave1; walk_say "STEP leave1"; try dsimp only) | fail "no step"))
    all_goals
      (rename News _ _ _ _ => nE)
      (simp only [List.push_toArray] at nE)
      (refine kst_end (_, _, _, vs ++ [_], zs ++ [_], nn + 1) (by k_asm) nE (fun p hp => (List.mem_cons.mp hp).elim (fun e => e ▸ List.Mem.head _) (fun h => List.Mem.tail _ (List.mem_append_left _ h))) (fun p hp => List.Mem.tail _ (List.mem_append_right _ hp)) rfl (hf.append (IntsAre.cons _ _ IntsAre.nil)) (by kst_all) (by kst_same) ⟨wFold_snoc x pre c hp1 ?_ ?_ ?_, ?_⟩)
    all_goals clear hp1
    all_goals first
      | (simp [wT, wS, wZ, *]; done)
  case done =>
    clear lF' lN'
    rintro ⟨tu, st, t1, vs, zs, nn⟩ u h tk hf ⟨hp1, hp2⟩ lF lN
    dsimp only [kstB] at lF hp1 hp2 hf lN
    (repeat' (first | (k_unfold; (try dsimp only)) | (k_end; (( (fail_if_success (with_reducible show wpAny _ _ (PySem.exec (Stmt.While _ _ _ _) _) _ _ _)); (fail_if_success (with_reducible show wpAny _ _ (PySem.exec (Stmt.For _ _ _ _ _) _) _ _ _)); (fail_if_success (with_reducible show wpAny _ _ (PySem.call (Value.ref _) _ _) _ _ _)); (fail_if_success (with_reducible show wpAny _ _ (PySem.pyIter _) _ _ _)); (fail_if_success (with_reducible show KswEnd _ _ _ _ _ _ _ _ _ _ _ _)); (fail_if_success (with_reducible show InvEndN _ _ _ _ _ _ _)))); wrow_close) | ((( (fail_if_success (with_reducible show wpAny _ _ (PySem.exec (Stmt.While _ _ _ _) _) _ _ _)); (fail_if_success (with_reducible show wpAny _ _ (PySem.exec (Stmt.For _ _ _ _ _) _) _ _ _)); (fail_if_success (with_reducible show wpAny _ _ (PySem.call (Value.ref _) _ _) _ _ _)); (fail_if_success (with_reducible show wpAny _ _ (PySem.pyIter _) _ _ _)); (fail_if_success (with_reducible show KswEnd _ _ _ _ _ _ _ _ _ _ _ _)); (fail_if_success (with_reducible show InvEndN _ _ _ _ _ _ _)))); walk1) | ((( (fail_if_success (with_reducible show wpAny _ _ (PySem.exec (Stmt.While _ _ _ _) _) _ _ _)); (fail_if_success (with_reducible show wpAny _ _ (PySem.exec (Stmt.For _ _ _ _ _) _) _ _ _)); (fail_if_success (with_reducible show wpAny _ _ (PySem.call (Value.ref _) _ _) _ _ _)); (fail_if_success (with_reducible show wpAny _ _ (PySem.pyIter _) _ _ _)); (fail_if_success (with_reducible show KswEnd _ _ _ _ _ _ _ _ _ _ _ _)); (fail_if_success (with_reducible show InvEndN _ _ _ _ _ _ _)))); dsimp only; (( (fail_if_success (with_reducible show wpAny _ _ (PySem.exec (Stmt.While _ _ _ _) _) _ _ _)); (fail_if_success (with_reducible show wpAny _ _ (PySem.exec (Stmt.For _ _ _ _ _) _) _ _ _)); (fail_if_success (with_reducible show wpAny _ _ (PySem.call (Value.ref _) _ _) _ _ _)); (fail_if_success (with_reducible show wpAny _ _ (PySem.pyIter _) _ _ _)); (fail_if_success (with_reducible show KswEnd _ _ _ _ _ _ _ _ _ _ _ _)); (fail_if_success (with_reducible show InvEndN _ _ _ _ _ _ _)))); walk1) | ((( (fail_if_success (with_reducible show wpAny _ _ (PySem.exec (Stmt.While _ _ _ _) _) _ _ _)); (fail_if_success (with_reducible show wpAny _ _ (PySem.exec (Stmt.For _ _ _ _ _) _) _ _ _)); (fail_if_success (with_reducible show wpAny _ _ (PySem.call (Value.ref _) _ _) _ _ _)); (fail_if_success (with_reducible show wpAny _ _ (PySem.pyIter _) _ _ _)); (fail_if_success (with_reducible show KswEnd _ _ _ _ _ _ _ _ _ _ _ _)); (fail_if_success (with_reducible show InvEndN _ _ _ _ _ _ _)))); leave1; walk_say "STEP leave1"; try dsimp only) | fail "no step"))
    have hw : zs = worthsF x := congrArg (fun q => q.2.2) hp1
    subst hw
    exact hret _ _ _ _ _ hf (by k_asm) (by k_asm) (by assumption)
end Mine
end
section
open PySem PySem.W PyProof.Rows PySem.Calls
set_option maxRecDepth 100000
namespace Mine
theorem re_plainAttrs : PlainAttrs "re.Pattern" :=
  ⟨⟨"object.__getattribute__", by rw [typeLookup_type, builtinLookup_eq_fast]; kernel_rfl, by decide +kernel⟩, by rw [typeLookup_type, builtinLookup_eq_fast]; kernel_rfl⟩
theorem re_slot_sub : Slot "re.Pattern" "sub" "re.Pattern.sub" :=
  .of (owner := "re.Pattern") (n := "sub") (by rw [typeLookup_type, builtinLookup_eq_fast]; kernel_rfl) (by decide +kernel) (by decide +kernel) (by decide +kernel)
    (by first | exact .inl (by decide +kernel) | exact .inr (by decide +kernel)) (by rw [isSubtype_type]; kernel_rfl)
theorem re_type_sub : typeOf (.builtin "re.Pattern.sub") = pure (.type "method_descriptor") := by show builtinType _ = _; rw [builtinType_eq_fast]; kernel_rfl
theorem re_entry_sub : entryFor table "re.Pattern.sub" = some Builtin.«re.Pattern.sub» := entryFor_of_tree (by kernel_rfl)
theorem re_entry_loop : entryFor table "re.Pattern.sub.loop" = some Builtin.«re.Pattern.sub.loop» := entryFor_of_tree (by kernel_rfl)
theorem re_args_sub (a b c : Value) : argsOk "re.Pattern.sub" ⟨[a, b, c], []⟩ := by
  unfold argsOk; kernel_rfl
theorem re_plain_loop : plainId "re.Pattern.sub.loop" = true := by decide +kernel
theorem re_named (a b : Value) : Builtin.Re.reNamed "re.Pattern.sub" "sub" ["repl", "string", "count"] 2 [a, b] [] = pure [some a, some b, none] := by kernel_rfl
end Mine
end
section
open PySem PySem.W PyProof.Rows PySem.Calls
set_option maxRecDepth 100000
namespace Mine
open PySem.Builtin PySem.Builtin.Re
theorem runFor_some : ∀ (n : Nat) {m : Sre.M}, m.outcome.isSome = true → m.runFor n = m
  | 0, _, _ => rfl
  | n + 1, m, h => by unfold Sre.M.runFor; rw [if_pos h]
theorem runFor_add : ∀ (a b : Nat) (m : Sre.M), m.runFor (a + b) = (m.runFor a).runFor b
  | 0, b, m => by rw [Nat.zero_add]; rfl
  | a + 1, b, m => by
    rw [Nat.add_right_comm]
    by_cases h : m.outcome.isSome = true
    · rw [runFor_some _ h, runFor_some _ h, runFor_some _ h]
    · have h1 : ∀ k, m.runFor (k + 1) = m.step.runFor k := fun k => by
        show (if m.outcome.isSome = true then m else Sre.M.runFor k m.step) = _
        rw [if_neg h]
      rw [h1, h1]
      exact runFor_add a b m.step
theorem runFor_same {a b : Nat} {m : Sre.M} (ha : (m.runFor a).outcome.isSome = true) (hb : (m.runFor b).outcome.isSome = true) : m.runFor a = m.runFor b := by
  rcases Nat.le_total a b with h | h
  · obtain ⟨c, rfl⟩ := Nat.le.dest h
    rw [runFor_add, runFor_some _ ha]
  · obtain ⟨c, rfl⟩ := Nat.le.dest h
    rw [runFor_add, runFor_some _ hb]
section
variable {M : Model} {A : Around} {E : Value → Shared → Prop} {s : Shared}
theorem drive_wp : ∀ (turns n : Nat) (m : Sre.M) {Q : Sre.M → Shared → Prop}, n ≤ 4 * turns → (m.runFor n).outcome.isSome = true → 0 < turns → Q (m.runFor n) s → wpAny M A (reDrive turns m) Q E s
  | 0, _, _, _, _, _, h0, _ => absurd h0 (Nat.lt_irrefl _)
  | t + 1, n, m, Q, hn, ho, _, hq => by
    unfold reDrive
    show wpAny M A (if (m.runFor 4).outcome.isSome = true then pure (m.runFor 4) else do rule "sre.turn"; reDrive t (m.runFor 4)) Q E s
    by_cases h4 : (m.runFor 4).outcome.isSome = true
    · rw [if_pos h4]
      rw [runFor_same ho h4] at hq
      exact wpAny_pure hq
    · rw [if_neg h4]
      have hlt : 4 < n := by
        rcases Nat.lt_or_ge 4 n with h | h
        · exact h
        · obtain ⟨c, hc⟩ := Nat.le.dest h
          rw [← hc, runFor_add, runFor_some _ ho] at h4
          exact absurd ho h4
      obtain ⟨c, rfl⟩ := Nat.le.dest (Nat.le_of_lt hlt)
      rw [runFor_add] at ho hq
      have ht : 0 < t := by omega
      exact wpAny_bind (wpAny_rule (drive_wp t c _ (by omega) ho ht hq))
theorem rules_wp {α : Type} {f : α → PUnit → Sem (ForInStep PUnit)} {Q : PUnit → Shared → Prop} (hf : ∀ i r (Q' : ForInStep PUnit → Shared → Prop), Q' (.yield ⟨⟩) s → wpAny M A (f i r) Q' E s) (hq : Q ⟨⟩ s) : ∀ l : List α, wpAny M A (forIn l ⟨⟩ f) Q E s
  | [] => wpAny_pure hq
  | i :: l => by
    rw [List.forIn_cons]
    exact wpAny_bind (hf i _ _ (rules_wp hf hq l))
def Ends (m : Sre.M) (r : Option (Nat × Nat)) : Prop :=
  ∃ n, n ≤ 1000000 ∧ match r with
    | some (a, b) => (m.runFor n).outcome = some .matched ∧ (m.runFor n).start = a ∧ (m.runFor n).handed = b
    | none => (m.runFor n).outcome = some .failed
theorem toEnd_none {m : Sre.M} {Q : Option Sre.M → Shared → Prop} (h : Ends m none) (hq : Q none s) : wpAny M A (reRunToEnd m) Q E s := by
  obtain ⟨n, hn, ho⟩ := h
  dsimp only at ho
  unfold reRunToEnd
  refine wpAny_bind (drive_wp (2 ^ 64) n m (by omega) (by rw [ho]; rfl) (by decide) ?_)
  refine wpAny_bind (rules_wp (fun i r Q' hq' => ?_) ?_ _)
  · split
    · exact wpAny_bind (wpAny_rule (wpAny_pure hq'))
    · exact wpAny_pure hq'
  · rw [ho]
    exact wpAny_pure hq
theorem toEnd_some {m : Sre.M} {a b : Nat} {Q : Option Sre.M → Shared → Prop} (h : Ends m (some (a, b))) (hq : ∀ e : Sre.M, e.start = a → e.handed = b → Q (some e) s) : wpAny M A (reRunToEnd m) Q E s := by
  obtain ⟨n, hn, ho, h1, h2⟩ := h
  unfold reRunToEnd
  refine wpAny_bind (drive_wp (2 ^ 64) n m (by omega) (by rw [ho]; rfl) (by decide) ?_)
  refine wpAny_bind (rules_wp (fun i r Q' hq' => ?_) ?_ _)
  · split
    · exact wpAny_bind (wpAny_rule (wpAny_pure hq'))
    · exact wpAny_pure hq'
  · rw [ho]
    exact wpAny_pure (hq _ h1 h2)
end
end Mine
end
section
open PySem PySem.W PyProof.Rows PySem.Calls
set_option maxRecDepth 100000
namespace Mine
open PySem.Builtin PySem.Builtin.Re
structure Pat (h : Heap) (p : Addr) (code : Array Nat) : Prop where
  ex : ∃ (o oq : Obj) (fs items : Array Value) (q : Addr) (n : Nat), h.get? p = some o ∧ o.cls = .type "re.Pattern" ∧ o.dict = none ∧ o.data = .fields fs ∧ reRawNat (fs.getD 6 .none) = 0 ∧ reRawNat (fs.getD 2 .none) = 0 ∧ fs.getD 5 .none = .ref q ∧
    h.get? q = some oq ∧ oq.data = .seq items n ∧ (items.map reRawOf).map (·.toNat) = code
theorem Pat.keeps {h h' : Heap} {p : Addr} {code : Array Nat} (P : Pat h p code) (k : ∀ b o, h.get? b = some o → h'.get? b = some o) : Pat h' p code := by
  obtain ⟨o, oq, fs, items, q, n, h1, h2, h3, h4, h5, h6, h7, h8, h9, h10⟩ := P.ex
  exact ⟨o, oq, fs, items, q, n, k _ _ h1, h2, h3, h4, h5, h6, h7, k _ _ h8, h9, h10⟩
section
variable {M : Model} {A : Around} {E : Value → Shared → Prop} {s : Shared}
theorem whole_wp {p : Addr} {code : Array Nat} {x : Str} {u : Tok} {Q : ReTarget → Shared → Prop} (P : Pat s.heap p code)
    (hq : Q { pattern := .ref p, string := .str x u, code := code, text := x.cps, kind := 0, groups := 0, pos := 0, lim := x.cps.size } s) : wpAny M A (reWholeTarget (.ref p) (.str x u)) Q E s := by
  obtain ⟨o, oq, fs, items, q, n, h1, h2, h3, h4, h5, h6, h7, h8, h9, h10⟩ := P.ex
  unfold reWholeTarget
  refine wpAny_bind (wpAny_fieldsOf h1 h4 ?_)
  refine wpAny_bind (wpAny_of_eq (show reTextOf (.str x u) = pure (x.cps, 0) from rfl) ?_)
  show wpAny M A (do
    if ((reRawNat (fs.getD 6 .none) == 0) && ((0 : Nat) == 1)) = true then raiseError "TypeError" "cannot use a string pattern on a bytes-like object"
    if ((reRawNat (fs.getD 6 .none) == 1) && ((0 : Nat) == 0)) = true then raiseError "TypeError" "cannot use a bytes pattern on a string-like object"
    reNoCollectionInside (.str x u) 0
    let is ← reRawItems (fs.getD 5 .none)
    pure ({ pattern := .ref p, string := .str x u, code := is.map (·.toNat), text := x.cps, kind := 0, groups := reRawNat (fs.getD 2 .none), pos := 0, lim := x.cps.size } : ReTarget)) Q E s
  rw [h5, h6, h7]
  show wpAny M A (reRawItems (.ref q) >>= fun is => pure ({ pattern := .ref p, string := .str x u, code := is.map (·.toNat), text := x.cps, kind := 0, groups := 0, pos := 0, lim := x.cps.size } : ReTarget)) Q E s
  refine wpAny_bind ?_
  unfold reRawItems
  refine wpAny_bind (wpAny_seqItems h8 h9 ?_)
  refine wpAny_pure ?_
  show wpAny M A (pure _) Q E s
  refine wpAny_pure ?_
  show Q { pattern := .ref p, string := .str x u, code := (items.map reRawOf).map (·.toNat), text := x.cps, kind := 0, groups := 0, pos := 0, lim := x.cps.size } s
  rw [h10]
  exact hq
theorem slice_wp {text : Array Nat} {a b : Nat} {Q : Value → Shared → Prop} (hz : text.size ≤ 16777216) (hq : ∀ t k, Q (.str ⟨text.extract a b⟩ t) { s with toks := k }) : wpAny M A (reSlice text 0 a b) Q E s := by
  show wpAny M A (mkStr ⟨text.extract a b⟩) Q E s
  refine wpAny_mkStr (hq _ _) ?_
  show (text.extract a b).size ≤ sizeLine
  rw [Array.size_extract, sizeLine_eq]
  omega
end
inductive SubR (code text : Array Nat) (rep : Str) : Nat → Nat → Bool → List Str → Prop
  | stop {start done : Nat} {must : Bool} : Ends (Sre.forSearch code text 0 start text.size must) none → SubR code text rep start done must (if done < text.size then [⟨text.extract done text.size⟩] else [])
  | turn {start done a b : Nat} {must : Bool} {ps : List Str} : Ends (Sre.forSearch code text 0 start text.size must) (some (a, b)) → SubR code text rep b b (b == a) ps → SubR code text rep start done must ((if done < a then [⟨text.extract done a⟩] else []) ++ rep :: ps)
structure ListIs (h : Heap) (l : Addr) (ys : List Str) : Prop where
  ex : ∃ (us : List Value) (n : Nat), h.get? l = some { cls := .type "list", data := .seq us.toArray n } ∧ StrsAre us ys
section
variable {prog : Program} {w : World} {A : Around} {E : Value → Shared → Prop} {s : Shared} {R : Result → Shared → Prop}
theorem strs_len : ∀ {us : List Value} {ys : List Str}, StrsAre us ys → us.length = ys.length
  | _, _, .nil => rfl
  | _, _, .cons _ _ h => by rw [List.length_cons, List.length_cons, strs_len h]
theorem push_wp {M : Model} {l : Addr} {ys : List Str} {x : Str} {t : Tok} {Q : Unit → Shared → Prop} (hl : ListIs s.heap l ys) (hz : ys.length ≤ 1000)
    (hq : ∀ h', ListIs h' l (ys ++ [x]) → (∀ b o, b ≠ l → s.heap.get? b = some o → h'.get? b = some o) → Q () { s with heap := h' }) : wpAny M A (updateSeq l (·.push (.str x t))) Q E s := by
  obtain ⟨us, n, ho, hs⟩ := hl.ex
  have hlen := strs_len hs
  refine wpAny_updateSeq ho rfl (hq _ ?_ ?_) ?_ ?_
  · refine ⟨us ++ [.str x t], n + 1, ?_, hs.append' (.cons _ _ .nil)⟩
    rw [Heap.get?_update_self _ ho rfl]
    simp [Obj.mapSeq]
  · intro b o hb e
    rw [Heap.get?_update_ne _ _ _ _ hb]
    exact e
  · rw [List.size_toArray, sizeLine_eq]; omega
  · rw [Array.size_push, List.size_toArray, sizeLine_eq]; omega
end
end Mine
end
section
open PySem PySem.W PyProof.Rows PySem.Calls
set_option maxRecDepth 100000
namespace Mine
open PySem.Builtin PySem.Builtin.Re
section
variable {prog : Program} {w : World} {A : Around} {R : Result → Shared → Prop}
theorem found_none {E : Value → Shared → Prop} {s : Shared} {t : ReTarget} {start : Nat} {must : Bool} {Q : Option Sre.M → Shared → Prop} (h : Ends (Sre.forSearch t.code t.text t.groups start t.lim must) none) (hq : Q none s) : wpAny (model prog w) A (reNextFound t start must) Q E s := toEnd_none h hq
theorem found_some {E : Value → Shared → Prop} {s : Shared} {t : ReTarget} {start : Nat} {must : Bool} {a b : Nat} {Q : Option Sre.M → Shared → Prop} (h : Ends (Sre.forSearch t.code t.text t.groups start t.lim must) (some (a, b))) (hq : ∀ e : Sre.M, e.start = a → e.handed = b → Q (some e) s) : wpAny (model prog w) A (reNextFound t start must) Q E s := toEnd_some h hq
def loopArgs (p l : Addr) (x rep : Str) (u tr : Tok) (n : Int) (done start : Nat) (must : Bool) : Args :=
  ⟨[.ref p, .str x u, .str rep tr, rawInt 0, rawInt 0, rawInt n, rawInt done, rawInt start, .bool must, .ref l, .bool false], []⟩
theorem not_empty {us : List Value} {ys : List Str} (h : StrsAre us ys) (hne : ys ≠ []) : ¬ (((some us.toArray).getD #[]).isEmpty = true) := by
  cases h with
  | nil => exact absurd rfl hne
  | cons _ _ _ => intro q; simp at q
theorem loop_wp {h₁ : Heap} {p l : Addr} {code : Array Nat} {x rep : Str} {u tr : Tok} (P : Pat h₁ p code) (hl : h₁.get? l = none) (hx : x.cps.size ≤ 100000) {start done : Nat} {must : Bool} {ps : List Str}
    (H : SubR code x.cps rep start done must ps) : ∀ (n : Int) (ys : List Str) (s : Shared), (∀ b o, h₁.get? b = some o → s.heap.get? b = some o) → ListIs s.heap l ys → ys.length + ps.length ≤ 900 → ((ys ++ ps).map (·.length)).sum ≤ 1000000 → ys ++ ps ≠ [] →
    (∀ t h' tk, (∀ b o, h₁.get? b = some o → h'.get? b = some o) → R (.ok (.ret (.str (Txt.join ⟨#[]⟩ (ys ++ ps)) t))) { s with heap := h', toks := tk }) →
    codeAny (model prog w) A (.builtin "re.Pattern.sub.loop" (loopArgs p l x rep u tr n done start must)) R s := by
  have e0 : x.cps.extract 0 0 = #[] := by simp
  induction H with
  | @stop start done must he =>
    intro n ys s k L hz hsum hne hR
    refine codeAny_builtin re_entry_loop ?_
    rw [Around.under_plainId re_plain_loop]
    unfold Builtin.«re.Pattern.sub.loop» loopArgs
    dsimp only [rawInt]
    refine wpAny_bind (whole_wp (P.keeps k) ?_)
    dsimp only
    rw [if_pos (show ((0 : Int) == 0) = true from rfl)]
    refine wpAny_bind (wpAny_of_eq (show reLiteralCannotBeTurned (.str rep tr) = pure () from rfl) ?_)
    refine wpAny_bind ?_
    rw [if_neg (show ¬ ((0 : Int) != 0 && decide (n ≥ 0)) = true from nofun)]
    refine found_none he ?_
    dsimp only
    by_cases hd : done < x.cps.size
    · rw [if_pos hd] at hz hsum hne hR
      rw [if_pos (show (done : Int).toNat < x.cps.size from hd)]
      refine wpAny_bind (slice_wp (by omega) fun t1 k1 => ?_)
      refine wpAny_bind (push_wp (s := { s with toks := k1 }) L (by omega) fun h' L' hk => ?_)
      have k' : ∀ b o, h₁.get? b = some o → h'.get? b = some o := fun b o e => hk b o (fun q => by rw [q, hl] at e; cases e) (k b o e)
      refine wpAny_bind (slice_wp (by omega) fun t2 k2 => ?_)
      obtain ⟨us, nn, ho, hs⟩ := L'.ex
      refine wpAny_bind (wpAny_seqItems ho rfl ?_)
      rw [if_neg (not_empty hs hne)]
      refine wpAny_bind (?_ : wpAny _ _ (call (.builtin "str.join") [.str ⟨x.cps.extract 0 0⟩ t2, .ref l]) _ _ _)
      rw [e0]
      refine join_listC ⟨_, ho, rfl, _, rfl⟩ hs (Nat.zero_le _) (Nat.le_trans (Nat.add_le_add hsum (Nat.mul_le_mul_right 64 (Nat.le_trans (Nat.le_of_eq (List.length_append ..)) hz))) (by decide)) (fun t3 k3 => ?_)
      refine wpAny_pure ?_
      exact hR t3 h' k3 k'
    · rw [if_neg hd] at hz hsum hne hR
      rw [if_neg (show ¬ (done : Int).toNat < x.cps.size from hd)]
      rw [List.append_nil] at hsum hne hR
      refine wpAny_bind (slice_wp (by omega) fun t2 k2 => ?_)
      obtain ⟨us, nn, ho, hs⟩ := L.ex
      refine wpAny_bind (wpAny_seqItems ho rfl ?_)
      rw [if_neg (not_empty hs hne)]
      refine wpAny_bind (?_ : wpAny _ _ (call (.builtin "str.join") [.str ⟨x.cps.extract 0 0⟩ t2, .ref l]) _ _ _)
      rw [e0]
      refine join_listC ⟨_, ho, rfl, _, rfl⟩ hs (Nat.zero_le _) (Nat.le_trans (Nat.add_le_add hsum (Nat.mul_le_mul_right 64 hz)) (by decide)) (fun t3 k3 => ?_)
      refine wpAny_pure ?_
      exact hR t3 s.heap k3 k
  | @turn start done a b must ps he hr ih =>
    intro n ys s k L hz hsum hne hR
    refine codeAny_builtin re_entry_loop ?_
    rw [Around.under_plainId re_plain_loop]
    unfold Builtin.«re.Pattern.sub.loop» loopArgs
    dsimp only [rawInt]
    refine wpAny_bind (whole_wp (P.keeps k) ?_)
    dsimp only
    rw [if_pos (show ((0 : Int) == 0) = true from rfl)]
    refine wpAny_bind (wpAny_of_eq (show reLiteralCannotBeTurned (.str rep tr) = pure () from rfl) ?_)
    refine wpAny_bind ?_
    rw [if_neg (show ¬ ((0 : Int) != 0 && decide (n ≥ 0)) = true from nofun)]
    refine found_some he fun e h1 h2 => ?_
    dsimp only
    rw [h1, h2]
    by_cases hd : done < a
    · rw [if_pos hd] at hz hsum hR
      rw [if_pos (show (done : Int).toNat < a from hd)]
      refine wpAny_bind (slice_wp (by omega) fun t1 k1 => ?_)
      refine wpAny_bind (push_wp (s := { s with toks := k1 }) L (by omega) fun h' L' hk => ?_)
      have k' : ∀ b o, h₁.get? b = some o → h'.get? b = some o := fun b o e => hk b o (fun q => by rw [q, hl] at e; cases e) (k b o e)
      rw [if_pos (show ((0 : Int) == 0) = true from rfl)]
      refine wpAny_bind (wpAny_pure ?_)
      rw [if_pos (show (Value.str rep tr != Value.none) = true from rfl)]
      refine wpAny_bind (push_wp (s := { s with heap := h', toks := k1 }) L' (by simp only [List.length_append, List.length_cons, List.length_nil] at hz ⊢; omega) fun h2 L2 hk2 => ?_)
      have k2 : ∀ b o, h₁.get? b = some o → h2.get? b = some o := fun b o e => hk2 b o (fun q => by rw [q, hl] at e; cases e) (k' b o e)
      refine wpAny_pure ⟨Code.quiet_builtin _ (by decide +kernel), ?_⟩
      have e1 : ys ++ ([(⟨x.cps.extract done a⟩ : Str)] ++ rep :: ps) = (ys ++ [(⟨x.cps.extract done a⟩ : Str)] ++ [rep]) ++ ps := by simp
      rw [e1] at hsum hR
      exact ih (n + 1) _ { s with heap := h2, toks := k1 } k2 L2 (by simp only [List.length_append, List.length_cons, List.length_nil] at hz ⊢; omega) hsum (by simp) hR
    · rw [if_neg hd] at hz hsum hR
      rw [if_neg (show ¬ (done : Int).toNat < a from hd)]
      rw [if_pos (show ((0 : Int) == 0) = true from rfl)]
      refine wpAny_bind (wpAny_pure ?_)
      rw [if_pos (show (Value.str rep tr != Value.none) = true from rfl)]
      refine wpAny_bind (push_wp L (by omega) fun h2 L2 hk2 => ?_)
      have k2 : ∀ b o, h₁.get? b = some o → h2.get? b = some o := fun b o e => hk2 b o (fun q => by rw [q, hl] at e; cases e) (k b o e)
      refine wpAny_pure ⟨Code.quiet_builtin _ (by decide +kernel), ?_⟩
      have e1 : ys ++ ([] ++ rep :: ps) = (ys ++ [rep]) ++ ps := by simp
      rw [e1] at hsum hR
      exact ih (n + 1) _ { s with heap := h2 } k2 L2 (by simp only [List.length_append, List.length_cons, List.length_nil] at hz ⊢; omega) hsum (by simp) hR
end
end Mine
end
section
open PySem PySem.W PyProof.Rows PySem.Calls
set_option maxRecDepth 100000
namespace Mine
open PySem.Builtin PySem.Builtin.Re
theorem str_no_call : typeLookup (.type "str") "__call__" = pure none := by rw [typeLookup_type, builtinLookup_eq_fast]; kernel_rfl
theorem Pat.typeIs {s : Shared} {p : Addr} {code : Array Nat} (P : Pat s.heap p code) : s.TypeIs (.ref p) "re.Pattern" := by
  obtain ⟨o, oq, fs, items, q, n, h1, h2, h3, h4, h5, h6, h7, h8, h9, h10⟩ := P.ex
  exact ⟨o, h1, h2⟩
section
variable {prog : Program} {w : World} {A : Around} {E : Value → Shared → Prop} {s : Shared}
theorem sub_wp {p : Addr} {code : Array Nat} {x rep : Str} {u tr : Tok} {ps : List Str} {Q : Value → Shared → Prop} (P : Pat s.heap p code) (hx : x.cps.size ≤ 100000) (hrep : rep.cps.contains 92 = false)
    (H : SubR code x.cps rep 0 0 false ps) (hz : ps.length ≤ 900) (hsum : (ps.map (·.length)).sum ≤ 1000000) (hne : ps ≠ [])
    (hq : ∀ t h' tk, (∀ b o, s.heap.get? b = some o → h'.get? b = some o) → Q (.str (Txt.join ⟨#[]⟩ ps) t) { s with heap := h', toks := tk }) :
    wpAny (model prog w) A (call (.builtin "re.Pattern.sub") [.ref p, .str rep tr, .str x u]) Q E s := by
  refine wpAny_call (codeAny_call_builtin re_slot_sub.plain re_entry_sub (re_slot_sub.check _ _ _ _ _ _ _ _ P.typeIs (re_args_sub _ _ _) ?_))
  unfold Builtin.«re.Pattern.sub» reSubstitute
  dsimp only
  refine wpAny_bind (wpAny_of_eq (re_named _ _) ?_)
  dsimp only
  refine wpAny_bind (wpAny_pure ?_)
  refine wpAny_bind (wpAny_specialOf (typeIs_str _ _ _) str_no_call ?_)
  rw [if_neg (show ¬ (none : Option Value).isSome = true from nofun)]
  refine wpAny_bind (wpAny_of_eq (show asStr? (.str rep tr) = pure (some rep) from rfl) ?_)
  dsimp only
  refine wpAny_bind (wpAny_pure ?_)
  rw [if_neg (show ¬ (none : Option Value).isSome = true from nofun)]
  rw [if_pos (show (!rep.cps.contains 92) = true by rw [hrep]; rfl)]
  refine wpAny_bind (wpAny_pure ?_)
  dsimp only
  refine wpAny_bind (wpAny_holding (whole_wp P ?_))
  rw [if_neg (show ¬ ((0 : Int) == 1) = true from nofun)]
  unfold newList
  refine wpAny_bind (wpAny_newObj_type ?_)
  refine wpAny_pure ⟨Code.quiet_builtin _ (by decide +kernel), ?_⟩
  have hl : s.heap.get? s.heap.objs.size = none := by
    cases h : s.heap.get? s.heap.objs.size with
    | none => rfl
    | some o => exact absurd (Heap.lt_size h) (Nat.lt_irrefl _)
  exact loop_wp (h₁ := s.heap) P hl hx H 0 [] { s with heap := s.heap.push { cls := .type "list", dict := none, data := .seq [].toArray } } (fun b o e => Heap.get?_push_of_some _ e) ⟨[], 0, Heap.get?_push_size _ rfl, .nil⟩ (by simpa using hz) (by simpa using hsum) (by simpa using hne) (fun t h' tk k => hq t h' tk k)
end
end Mine
end
section
open PySem PySem.W PyProof.Rows PySem.Calls
namespace Mine
set_option maxRecDepth 100000
def code1 : Array Nat := #[14, 4, 0, 1, 1, 6, 1, 16, 46, 1]
def code2 : Array Nat := #[14, 9, 4, 1, 2, 16, 10, 16, 13, 0, 7, 7, 16, 13, 16, 10, 15, 18, 5, 16, 10, 15, 13, 11, 16, 13, 5, 5, 0, 16, 10, 1, 15, 2, 0, 1]
theorem pat1 {P : Params} {h : Heap} (X : (Mine.hd.heap_39 P).In h) : Pat h 57 code1 :=
  ⟨⟨_, _, _, _, 56, _, X 57 { cls := .type "re.Pattern", data := .fields #[.str (Str.ofString "(?m)^\\.") 317, .int 40 330, .int 0 0, .none, .none, .ref 56, .int 0 0] } (by kernel_rfl), rfl, rfl, rfl, rfl, rfl, rfl,
    X 56 { cls := .type "tuple", data := .seq #[.int 14 0, .int 4 0, .int 0 0, .int 1 0, .int 1 0, .int 6 0, .int 1 0, .int 16 0, .int 46 0, .int 1 0] } (by kernel_rfl), rfl, by decide +kernel⟩⟩
theorem pat2 {P : Params} {h : Heap} (X : (Mine.hd.heap_39 P).In h) : Pat h 62 code2 :=
  ⟨⟨_, _, _, _, 61, _, X 62 { cls := .type "re.Pattern", data := .fields #[.str (Str.ofString "(?:\\r\\n|\\n|\\r(?!\\n))") 333, .int 32 372, .int 0 0, .none, .none, .ref 61, .int 0 0] } (by kernel_rfl), rfl, rfl, rfl, rfl, rfl, rfl,
    X 61 { cls := .type "tuple", data := .seq #[.int 14 0, .int 9 0, .int 4 0, .int 1 0, .int 2 0, .int 16 0, .int 10 0, .int 16 0, .int 13 0, .int 0 0, .int 7 0, .int 7 0, .int 16 0, .int 13 0, .int 16 0, .int 10 0, .int 15 0, .int 18 0, .int 5 0, .int 16 0, .int 10 0, .int 15 0, .int 13 0, .int 11 0, .int 16 0, .int 13 0, .int 5 0, .int 5 0, .int 0 0, .int 16 0, .int 10 0, .int 1 0, .int 15 0, .int 2 0, .int 0 0, .int 1 0] } (by kernel_rfl), rfl, by decide +kernel⟩⟩
theorem Pat.noDict {h : Heap} {p : Addr} {code : Array Nat} (P : Pat h p code) : ∀ a, Value.ref p = .ref a → ∃ o, h.get? a = some o ∧ o.dict = none := by
  intro a e
  cases e
  obtain ⟨o, oq, fs, items, q, n, h1, h2, h3, h4, h5, h6, h7, h8, h9, h10⟩ := P.ex
  exact ⟨o, h1, h3⟩
theorem Pat.getSub {M : Model} {A : Around} {E : Value → Shared → Prop} {s : Shared} {p : Addr} {code : Array Nat} {pl : Sem Bool} {Q : Value × List Value → Shared → Prop} (P : Pat s.heap p code) (h : Q (.builtin "re.Pattern.sub", [.ref p]) s) : wpAny M A (getMethod (.ref p) "sub" pl) Q E s :=
  getMethod_builtin P.typeIs re_plainAttrs re_slot_sub re_type_sub P.noDict h
set_option maxHeartbeats 8000000 in
theorem quote_claim (w : World) (p : Program) (loose : List Str) (mean : ExcName → Option Value) (mg mb : Str → Option Value) (x : Str) (ps2 ps1 : List Str) (t : CTok) (hx : x.cps.size ≤ 100) (hy : (Txt.join ⟨#[]⟩ ps2).cps.size ≤ 100)
   (H2 : SubR code2 x.cps (Str.ofString "\r\n") 0 0 false ps2) (n2 : ps2 ≠ []) (z2 : ps2.length ≤ 900) (s2 : (ps2.map (·.length)).sum ≤ 1000000)
   (H1 : SubR code1 (Txt.join ⟨#[]⟩ ps2).cps (Str.ofString "..") 0 0 false ps1) (n1 : ps1 ≠ []) (z1 : ps1.length ≤ 900) (s1 : (ps1.map (·.length)).sum ≤ 1000000) :
   Claim PySem.Challenge.rw_wn0005_01.prog w (Mine.hd.heap_39 w.params) p loose mean mg mb 1 8 69 [.str x t] (IsS (Txt.join ⟨#[]⟩ ps1)) := by
  k_with_none
  w_top off
  intro dp un gd cn cs a ccd cl outer A₀ base h₀ L m news s Q E B F X N T hk hd hu hret
  refine wpAny_call ?_
  k_dflt cell_enter
  k_with_none
  (repeat' (first | (k_unfold; (try dsimp only)) | (k_end; (( (( (fail_if_success (with_reducible show wpAny _ _ (PySem.exec (Stmt.While _ _ _ _) _) _ _ _)); (fail_if_success (with_reducible show wpAny _ _ (PySem.exec (Stmt.For _ _ _ _ _) _) _ _ _)); (fail_if_success (with_reducible show wpAny _ _ (PySem.call (Value.ref _) _ _) _ _ _)); (fail_if_success (with_reducible show wpAny _ _ (PySem.pyIter _) _ _ _)); (fail_if_success (with_reducible show KswEnd _ _ _ _ _ _ _ _ _ _ _ _)); (fail_if_success (with_reducible show InvEndN _ _ _ _ _ _ _)))); (fail_if_success (with_reducible show wpAny _ _ (PySem.getMethod (Value.ref _) _ _) _ _ _)); (fail_if_success (with_reducible show wpAny _ _ (PySem.call (Value.builtin "re.Pattern.sub") _ _) _ _ _)))); wrow_close) | ((( (( (fail_if_success (with_reducible show wpAny _ _ (PySem.exec (Stmt.While _ _ _ _) _) _ _ _)); (fail_if_success (with_reducible show wpAny _ _ (PySem.exec (Stmt.For _ _ _ _ _) _) _ _ _)); (fail_if_success (with_reducible show wpAny _ _ (PySem.call (Value.ref _) _ _) _ _ _)); (fail_if_success (with_reducible show wpAny _ _ (PySem.pyIter _) _ _ _)); (fail_if_success (with_reducible show KswEnd _ _ _ _ _ _ _ _ _ _ _ _)); (fail_if_success (with_reducible show InvEndN _ _ _ _ _ _ _)))); (fail_if_success (with_reducible show wpAny _ _ (PySem.getMethod (Value.ref _) _ _) _ _ _)); (fail_if_success (with_reducible show wpAny _ _ (PySem.call (Value.builtin "re.Pattern.sub") _ _) _ _ _)))); walk1) | ((( (( (fail_if_success (with_reducible show wpAny _ _ (PySem.exec (Stmt.While _ _ _ _) _) _ _ _)); (fail_if_success (with_reducible show wpAny _ _ (PySem.exec (Stmt.For _ _ _ _ _) _) _ _ _)); (fail_if_success (with_reducible show wpAny _ _ (PySem.call (Value.ref _) _ _) _ _ _)); (fail_if_success (with_reducible show wpAny _ _ (PySem.pyIter _) _ _ _)); (fail_if_success (with_reducible show KswEnd _ _ _ _ _ _ _ _ _ _ _ _)); (fail_if_success (with_reducible show InvEndN _ _ _ _ _ _ _)))); (fail_if_success (with_reducible show wpAny _ _ (PySem.getMethod (Value.ref _) _ _) _ _ _)); (fail_if_success (with_reducible show wpAny _ _ (PySem.call (Value.builtin "re.Pattern.sub") _ _) _ _ _)))); dsimp only; (( (( (fail_if_success (with_reducible show wpAny _ _ (PySem.exec (Stmt.While _ _ _ _) _) _ _ _)); (fail_if_success (with_reducible show wpAny _ _ (PySem.exec (Stmt.For _ _ _ _ _) _) _ _ _)); (fail_if_success (with_reducible show wpAny _ _ (PySem.call (Value.ref _) _ _) _ _ _)); (fail_if_success (with_reducible show wpAny _ _ (PySem.pyIter _) _ _ _)); (fail_if_success (with_reducible show KswEnd _ _ _ _ _ _ _ _ _ _ _ _)); (fail_if_success (with_reducible show InvEndN _ _ _ _ _ _ _)))); (fail_if_success (with_reducible show wpAny _ _ (PySem.getMethod (Value.ref _) _ _) _ _ _)); (fail_if_success (with_reducible show wpAny _ _ (PySem.call (Value.builtin "re.Pattern.sub") _ _) _ _ _)))); walk1) | ((( (( (fail_if_success (with_reducible show wpAny _ _ (PySem.exec (Stmt.While _ _ _ _) _) _ _ _)); (fail_if_success (with_reducible show wpAny _ _ (PySem.exec (Stmt.For _ _ _ _ _) _) _ _ _)); (fail_if_success (with_reducible show wpAny _ _ (PySem.call (Value.ref _) _ _) _ _ _)); (fail_if_success (with_reducible show wpAny _ _ (PySem.pyIter _) _ _ _)); (fail_if_success (with_reducible show KswEnd _ _ _ _ _ _ _ _ _ _ _ _)); (fail_if_success (with_reducible show InvEndN _ _ _ _ _ _ _)))); (fail_if_success (with_reducible show wpAny _ _ (PySem.getMethod (Value.ref _) _ _) _ _ _)); (fail_if_success (with_reducible show wpAny _ _ (PySem.call (Value.builtin "re.Pattern.sub") _ _) _ _ _)))); leave1; walk_say "STEP leave1"; try dsimp only) | fail "no step"))
  (rename Fr _ _ _ _ => lF')
  (rename (Mine.hd.heap_39 w.params).In _ => lX')
  refine Pat.getSub (pat1 (lX'.keeps lF'.keep)) ?_
  (repeat' (first | (k_unfold; (try dsimp only)) | (k_end; (( (( (fail_if_success (with_reducible show wpAny _ _ (PySem.exec (Stmt.While _ _ _ _) _) _ _ _)); (fail_if_success (with_reducible show wpAny _ _ (PySem.exec (Stmt.For _ _ _ _ _) _) _ _ _)); (fail_if_success (with_reducible show wpAny _ _ (PySem.call (Value.ref _) _ _) _ _ _)); (fail_if_success (with_reducible show wpAny _ _ (PySem.pyIter _) _ _ _)); (fail_if_success (with_reducible show KswEnd _ _ _ _ _ _ _ _ _ _ _ _)); (fail_if_success (with_reducible show InvEndN _ _ _ _ _ _ _)))); (fail_if_success (with_reducible show wpAny _ _ (PySem.getMethod (Value.ref _) _ _) _ _ _)); (fail_if_success (with_reducible show wpAny _ _ (PySem.call (Value.builtin "re.Pattern.sub") _ _) _ _ _)))); wrow_close) | ((( (( (fail_if_success (with_reducible show wpAny _ _ (PySem.exec (Stmt.While _ _ _ _) _) _ _ _)); (fail_if_success (with_reducible show wpAny _ _ (PySem.exec (Stmt.For _ _ _ _ _) _) _ _ _)); (fail_if_success (with_reducible show wpAny _ _ (PySem.call (Value.ref _) _ _) _ _ _)); (fail_if_success (with_reducible show wpAny _ _ (PySem.pyIter _) _ _ _)); (fail_if_success (with_reducible show KswEnd _ _ _ _ _ _ _ _ _ _ _ _)); (fail_if_success (with_reducible show InvEndN _ _ _ _ _ _ _)))); (fail_if_success (with_reducible show wpAny _ _ (PySem.getMethod (Value.ref _) _ _) _ _ _)); (fail_if_success (with_reducible show wpAny _ _ (PySem.call (Value.builtin "re.Pattern.sub") _ _) _ _ _)))); walk1) | ((( (( (fail_if_success (with_reducible show wpAny _ _ (PySem.exec (Stmt.While _ _ _ _) _) _ _ _)); (fail_if_success (with_reducible show wpAny _ _ (PySem.exec (Stmt.For _ _ _ _ _) _) _ _ _)); (fail_if_success (with_reducible show wpAny _ _ (PySem.call (Value.ref _) _ _) _ _ _)); (fail_if_success (with_reducible show wpAny _ _ (PySem.pyIter _) _ _ _)); (fail_if_success (with_reducible show KswEnd _ _ _ _ _ _ _ _ _ _ _ _)); (fail_if_success (with_reducible show InvEndN _ _ _ _ _ _ _)))); (fail_if_success (with_reducible show wpAny _ _ (PySem.getMethod (Value.ref _) _ _) _ _ _)); (fail_if_success (with_reducible show wpAny _ _ (PySem.call (Value.builtin "re.Pattern.sub") _ _) _ _ _)))); dsimp only; (( (( (fail_if_success (with_reducible show wpAny _ _ (PySem.exec (Stmt.While _ _ _ _) _) _ _ _)); (fail_if_success (with_reducible show wpAny _ _ (PySem.exec (Stmt.For _ _ _ _ _) _) _ _ _)); (fail_if_success (with_reducible show wpAny _ _ (PySem.call (Value.ref _) _ _) _ _ _)); (fail_if_success (with_reducible show wpAny _ _ (PySem.pyIter _) _ _ _)); (fail_if_success (with_reducible show KswEnd _ _ _ _ _ _ _ _ _ _ _ _)); (fail_if_success (with_reducible show InvEndN _ _ _ _ _ _ _)))); (fail_if_success (with_reducible show wpAny _ _ (PySem.getMethod (Value.ref _) _ _) _ _ _)); (fail_if_success (with_reducible show wpAny _ _ (PySem.call (Value.builtin "re.Pattern.sub") _ _) _ _ _)))); walk1) | ((( (( (fail_if_success (with_reducible show wpAny _ _ (PySem.exec (Stmt.While _ _ _ _) _) _ _ _)); (fail_if_success (with_reducible show wpAny _ _ (PySem.exec (Stmt.For _ _ _ _ _) _) _ _ _)); (fail_if_success (with_reducible show wpAny _ _ (PySem.call (Value.ref _) _ _) _ _ _)); (fail_if_success (with_reducible show wpAny _ _ (PySem.pyIter _) _ _ _)); (fail_if_success (with_reducible show KswEnd _ _ _ _ _ _ _ _ _ _ _ _)); (fail_if_success (with_reducible show InvEndN _ _ _ _ _ _ _)))); (fail_if_success (with_reducible show wpAny _ _ (PySem.getMethod (Value.ref _) _ _) _ _ _)); (fail_if_success (with_reducible show wpAny _ _ (PySem.call (Value.builtin "re.Pattern.sub") _ _) _ _ _)))); leave1; walk_say "STEP leave1"; try dsimp only) | fail "no step"))
  refine Pat.getSub (pat2 (lX'.keeps lF'.keep)) ?_
  (repeat' (first | (k_unfold; (try dsimp only)) | (k_end; (( (( (fail_if_success (with_reducible show wpAny _ _ (PySem.exec (Stmt.While _ _ _ _) _) _ _ _)); (fail_if_success (with_reducible show wpAny _ _ (PySem.exec (Stmt.For _ _ _ _ _) _) _ _ _)); (fail_if_success (with_reducible show wpAny _ _ (PySem.call (Value.ref _) _ _) _ _ _)); (fail_if_success (with_reducible show wpAny _ _ (PySem.pyIter _) _ _ _)); (fail_if_success (with_reducible show KswEnd _ _ _ _ _ _ _ _ _ _ _ _)); (fail_if_success (with_reducible show InvEndN _ _ _ _ _ _ _)))); (fail_if_success (with_reducible show wpAny _ _ (PySem.getMethod (Value.ref _) _ _) _ _ _)); (fail_if_success (with_reducible show wpAny _ _ (PySem.call (Value.builtin "re.Pattern.sub") _ _) _ _ _)))); wrow_close) | ((( (( (fail_if_success (with_reducible show wpAny _ _ (PySem.exec (Stmt.While _ _ _ _) _) _ _ _)); (fail_if_success (with_reducible show wpAny _ _ (PySem.exec (Stmt.For _ _ _ _ _) _) _ _ _)); (fail_if_success (with_reducible show wpAny _ _ (PySem.call (Value.ref _) _ _) _ _ _)); (fail_if_success (with_reducible show wpAny _ _ (PySem.pyIter _) _ _ _)); (fail_if_success (with_reducible show KswEnd _ _ _ _ _ _ _ _ _ _ _ _)); (fail_if_success (with_reducible show InvEndN _ _ _ _ _ _ _)))); (fail_if_success (with_reducible show wpAny _ _ (PySem.getMethod (Value.ref _) _ _) _ _ _)); (fail_if_success (with_reducible show wpAny _ _ (PySem.call (Value.builtin "re.Pattern.sub") _ _) _ _ _)))); walk1) | ((( (( (fail_if_success (with_reducible show wpAny _ _ (PySem.exec (Stmt.While _ _ _ _) _) _ _ _)); (fail_if_success (with_reducible show wpAny _ _ (PySem.exec (Stmt.For _ _ _ _ _) _) _ _ _)); (fail_if_success (with_reducible show wpAny _ _ (PySem.call (Value.ref _) _ _) _ _ _)); (fail_if_success (with_reducible show wpAny _ _ (PySem.pyIter _) _ _ _)); (fail_if_success (with_reducible show KswEnd _ _ _ _ _ _ _ _ _ _ _ _)); (fail_if_success (with_reducible show InvEndN _ _ _ _ _ _ _)))); (fail_if_success (with_reducible show wpAny _ _ (PySem.getMethod (Value.ref _) _ _) _ _ _)); (fail_if_success (with_reducible show wpAny _ _ (PySem.call (Value.builtin "re.Pattern.sub") _ _) _ _ _)))); dsimp only; (( (( (fail_if_success (with_reducible show wpAny _ _ (PySem.exec (Stmt.While _ _ _ _) _) _ _ _)); (fail_if_success (with_reducible show wpAny _ _ (PySem.exec (Stmt.For _ _ _ _ _) _) _ _ _)); (fail_if_success (with_reducible show wpAny _ _ (PySem.call (Value.ref _) _ _) _ _ _)); (fail_if_success (with_reducible show wpAny _ _ (PySem.pyIter _) _ _ _)); (fail_if_success (with_reducible show KswEnd _ _ _ _ _ _ _ _ _ _ _ _)); (fail_if_success (with_reducible show InvEndN _ _ _ _ _ _ _)))); (fail_if_success (with_reducible show wpAny _ _ (PySem.getMethod (Value.ref _) _ _) _ _ _)); (fail_if_success (with_reducible show wpAny _ _ (PySem.call (Value.builtin "re.Pattern.sub") _ _) _ _ _)))); walk1) | ((( (( (fail_if_success (with_reducible show wpAny _ _ (PySem.exec (Stmt.While _ _ _ _) _) _ _ _)); (fail_if_success (with_reducible show wpAny _ _ (PySem.exec (Stmt.For _ _ _ _ _) _) _ _ _)); (fail_if_success (with_reducible show wpAny _ _ (PySem.call (Value.ref _) _ _) _ _ _)); (fail_if_success (with_reducible show wpAny _ _ (PySem.pyIter _) _ _ _)); (fail_if_success (with_reducible show KswEnd _ _ _ _ _ _ _ _ _ _ _ _)); (fail_if_success (with_reducible show InvEndN _ _ _ _ _ _ _)))); (fail_if_success (with_reducible show wpAny _ _ (PySem.getMethod (Value.ref _) _ _) _ _ _)); (fail_if_success (with_reducible show wpAny _ _ (PySem.call (Value.builtin "re.Pattern.sub") _ _) _ _ _)))); leave1; walk_say "STEP leave1"; try dsimp only) | fail "no step"))
  refine sub_wp (pat2 (lX'.keeps lF'.keep)) (by omega) (by decide +kernel) H2 z2 s2 n2 (fun t1 h1 tk1 k1 => ?_)
  (rename News _ _ _ _ => lN')
  have F1 := lF'.keeps k1
  have N1 := News.grown lN' k1
  (repeat' (first | (k_unfold; (try dsimp only)) | (k_end; (( (( (fail_if_success (with_reducible show wpAny _ _ (PySem.exec (Stmt.While _ _ _ _) _) _ _ _)); (fail_if_success (with_reducible show wpAny _ _ (PySem.exec (Stmt.For _ _ _ _ _) _) _ _ _)); (fail_if_success (with_reducible show wpAny _ _ (PySem.call (Value.ref _) _ _) _ _ _)); (fail_if_success (with_reducible show wpAny _ _ (PySem.pyIter _) _ _ _)); (fail_if_success (with_reducible show KswEnd _ _ _ _ _ _ _ _ _ _ _ _)); (fail_if_success (with_reducible show InvEndN _ _ _ _ _ _ _)))); (fail_if_success (with_reducible show wpAny _ _ (PySem.getMethod (Value.ref _) _ _) _ _ _)); (fail_if_success (with_reducible show wpAny _ _ (PySem.call (Value.builtin "re.Pattern.sub") _ _) _ _ _)))); wrow_close) | ((( (( (fail_if_success (with_reducible show wpAny _ _ (PySem.exec (Stmt.While _ _ _ _) _) _ _ _)); (fail_if_success (with_reducible show wpAny _ _ (PySem.exec (Stmt.For _ _ _ _ _) _) _ _ _)); (fail_if_success (with_reducible show wpAny _ _ (PySem.call (Value.ref _) _ _) _ _ _)); (fail_if_success (with_reducible show wpAny _ _ (PySem.pyIter _) _ _ _)); (fail_if_success (with_reducible show KswEnd _ _ _ _ _ _ _ _ _ _ _ _)); (fail_if_success (with_reducible show InvEndN _ _ _ _ _ _ _)))); (fail_if_success (with_reducible show wpAny _ _ (PySem.getMethod (Value.ref _) _ _) _ _ _)); (fail_if_success (with_reducible show wpAny _ _ (PySem.call (Value.builtin "re.Pattern.sub") _ _) _ _ _)))); walk1) | ((( (( (fail_if_success (with_reducible show wpAny _ _ (PySem.exec (Stmt.While _ _ _ _) _) _ _ _)); (fail_if_success (with_reducible show wpAny _ _ (PySem.exec (Stmt.For _ _ _ _ _) _) _ _ _)); (fail_if_success (with_reducible show wpAny _ _ (PySem.call (Value.ref _) _ _) _ _ _)); (fail_if_success (with_reducible show wpAny _ _ (PySem.pyIter _) _ _ _)); (fail_if_success (with_reducible show KswEnd _ _ _ _ _ _ _ _ _ _ _ _)); (fail_if_success (with_reducible show InvEndN _ _ _ _ _ _ _)))); (fail_if_success (with_reducible show wpAny _ _ (PySem.getMethod (Value.ref _) _ _) _ _ _)); (fail_if_success (with_reducible show wpAny _ _ (PySem.call (Value.builtin "re.Pattern.sub") _ _) _ _ _)))); dsimp only; (( (( (fail_if_success (with_reducible show wpAny _ _ (PySem.exec (Stmt.While _ _ _ _) _) _ _ _)); (fail_if_success (with_reducible show wpAny _ _ (PySem.exec (Stmt.For _ _ _ _ _) _) _ _ _)); (fail_if_success (with_reducible show wpAny _ _ (PySem.call (Value.ref _) _ _) _ _ _)); (fail_if_success (with_reducible show wpAny _ _ (PySem.pyIter _) _ _ _)); (fail_if_success (with_reducible show KswEnd _ _ _ _ _ _ _ _ _ _ _ _)); (fail_if_success (with_reducible show InvEndN _ _ _ _ _ _ _)))); (fail_if_success (with_reducible show wpAny _ _ (PySem.getMethod (Value.ref _) _ _) _ _ _)); (fail_if_success (with_reducible show wpAny _ _ (PySem.call (Value.builtin "re.Pattern.sub") _ _) _ _ _)))); walk1) | ((( (( (fail_if_success (with_reducible show wpAny _ _ (PySem.exec (Stmt.While _ _ _ _) _) _ _ _)); (fail_if_success (with_reducible show wpAny _ _ (PySem.exec (Stmt.For _ _ _ _ _) _) _ _ _)); (fail_if_success (with_reducible show wpAny _ _ (PySem.call (Value.ref _) _ _) _ _ _)); (fail_if_success (with_reducible show wpAny _ _ (PySem.pyIter _) _ _ _)); (fail_if_success (with_reducible show KswEnd _ _ _ _ _ _ _ _ _ _ _ _)); (fail_if_success (with_reducible show InvEndN _ _ _ _ _ _ _)))); (fail_if_success (with_reducible show wpAny _ _ (PySem.getMethod (Value.ref _) _ _) _ _ _)); (fail_if_success (with_reducible show wpAny _ _ (PySem.call (Value.builtin "re.Pattern.sub") _ _) _ _ _)))); leave1; walk_say "STEP leave1"; try dsimp only) | fail "no step"))
  refine sub_wp (pat1 (lX'.keeps F1.keep)) (by omega) (by decide +kernel) H1 z1 s1 n1 (fun t2 h2 tk2 k2 => ?_)
  have F2 := F1.keeps k2
  have N2 := News.grown N1 k2
  (repeat' (first | (k_unfold; (try dsimp only)) | (k_end; (( (( (fail_if_success (with_reducible show wpAny _ _ (PySem.exec (Stmt.While _ _ _ _) _) _ _ _)); (fail_if_success (with_reducible show wpAny _ _ (PySem.exec (Stmt.For _ _ _ _ _) _) _ _ _)); (fail_if_success (with_reducible show wpAny _ _ (PySem.call (Value.ref _) _ _) _ _ _)); (fail_if_success (with_reducible show wpAny _ _ (PySem.pyIter _) _ _ _)); (fail_if_success (with_reducible show KswEnd _ _ _ _ _ _ _ _ _ _ _ _)); (fail_if_success (with_reducible show InvEndN _ _ _ _ _ _ _)))); (fail_if_success (with_reducible show wpAny _ _ (PySem.getMethod (Value.ref _) _ _) _ _ _)); (fail_if_success (with_reducible show wpAny _ _ (PySem.call (Value.builtin "re.Pattern.sub") _ _) _ _ _)))); wrow_close) | ((( (( (fail_if_success (with_reducible show wpAny _ _ (PySem.exec (Stmt.While _ _ _ _) _) _ _ _)); (fail_if_success (with_reducible show wpAny _ _ (PySem.exec (Stmt.For _ _ _ _ _) _) _ _ _)); (fail_if_success (with_reducible show wpAny _ _ (PySem.call (Value.ref _) _ _) _ _ _)); (fail_if_success (with_reducible show wpAny _ _ (PySem.pyIter _) _ _ _)); (fail_if_success (with_reducible show KswEnd _ _ _ _ _ _ _ _ _ _ _ _)); (fail_if_success (with_reducible show InvEndN _ _ _ _ _ _ _)))); (fail_if_success (with_reducible show wpAny _ _ (PySem.getMethod (Value.ref _) _ _) _ _ _)); (fail_if_success (with_reducible show wpAny _ _ (PySem.call (Value.builtin "re.Pattern.sub") _ _) _ _ _)))); walk1) | ((( (( (fail_if_success (with_reducible show wpAny _ _ (PySem.exec (Stmt.While _ _ _ _) _) _ _ _)); (fail_if_success (with_reducible show wpAny _ _ (PySem.exec (Stmt.For _ _ _ _ _) _) _ _ _)); (fail_if_success (with_reducible show wpAny _ _ (PySem.call (Value.ref _) _ _) _ _ _)); (fail_if_success (with_reducible show wpAny _ _ (PySem.pyIter _) _ _ _)); (fail_if_success (with_reducible show KswEnd _ _ _ _ _ _ _ _ _ _ _ _)); (fail_if_success (with_reducible show InvEndN _ _ _ _ _ _ _)))); (fail_if_success (with_reducible show wpAny _ _ (PySem.getMethod (Value.ref _) _ _) _ _ _)); (fail_if_success (with_reducible show wpAny _ _ (PySem.call (Value.builtin "re.Pattern.sub") _ _) _ _ _)))); dsimp only; (( (( (fail_if_success (with_reducible show wpAny _ _ (PySem.exec (Stmt.While _ _ _ _) _) _ _ _)); (fail_if_success (with_reducible show wpAny _ _ (PySem.exec (Stmt.For _ _ _ _ _) _) _ _ _)); (fail_if_success (with_reducible show wpAny _ _ (PySem.call (Value.ref _) _ _) _ _ _)); (fail_if_success (with_reducible show wpAny _ _ (PySem.pyIter _) _ _ _)); (fail_if_success (with_reducible show KswEnd _ _ _ _ _ _ _ _ _ _ _ _)); (fail_if_success (with_reducible show InvEndN _ _ _ _ _ _ _)))); (fail_if_success (with_reducible show wpAny _ _ (PySem.getMethod (Value.ref _) _ _) _ _ _)); (fail_if_success (with_reducible show wpAny _ _ (PySem.call (Value.builtin "re.Pattern.sub") _ _) _ _ _)))); walk1) | ((( (( (fail_if_success (with_reducible show wpAny _ _ (PySem.exec (Stmt.While _ _ _ _) _) _ _ _)); (fail_if_success (with_reducible show wpAny _ _ (PySem.exec (Stmt.For _ _ _ _ _) _) _ _ _)); (fail_if_success (with_reducible show wpAny _ _ (PySem.call (Value.ref _) _ _) _ _ _)); (fail_if_success (with_reducible show wpAny _ _ (PySem.pyIter _) _ _ _)); (fail_if_success (with_reducible show KswEnd _ _ _ _ _ _ _ _ _ _ _ _)); (fail_if_success (with_reducible show InvEndN _ _ _ _ _ _ _)))); (fail_if_success (with_reducible show wpAny _ _ (PySem.getMethod (Value.ref _) _ _) _ _ _)); (fail_if_success (with_reducible show wpAny _ _ (PySem.call (Value.builtin "re.Pattern.sub") _ _) _ _ _)))); leave1; walk_say "STEP leave1"; try dsimp only) | fail "no step"))
  exact ret_ hret ⟨_, rfl⟩ (by k_asm) (by k_asm)
end Mine
end
section
open PySem PySem.W PyProof.Rows PySem.Calls
namespace Mine
set_option maxRecDepth 100000
def sg (bs : List Bool) : Str := ⟨(bs.map fun b => if b = true then 46 else 32).toArray⟩
def allB : Nat → List (List Bool)
  | 0 => [[]]
  | n + 1 => [] :: ((allB n).map (true :: ·) ++ (allB n).map (false :: ·))
theorem mem_allB : ∀ (n : Nat) (bs : List Bool), bs.length ≤ n → bs ∈ allB n
  | 0, [], _ => .head _
  | 0, _ :: _, h => absurd h (Nat.not_succ_le_zero _)
  | _ + 1, [], _ => .head _
  | n + 1, true :: r, h => .tail _ (List.mem_append_left _ (List.mem_map.mpr ⟨r, mem_allB n r (Nat.le_of_succ_le_succ h), rfl⟩))
  | n + 1, false :: r, h => .tail _ (List.mem_append_right _ (List.mem_map.mpr ⟨r, mem_allB n r (Nat.le_of_succ_le_succ h), rfl⟩))
def lastOf (zs : List Int) : Int := zs.getD (-1 + (zs.length : Int)).toNat 0
def worth (bs : List Bool) : Int := lastOf (worthsF (sg bs))
def bare : List Bool → List Bool
  | false :: r => r
  | bs => bs
def dot : List Bool → List Bool
  | true :: r => true :: true :: r
  | bs => bs
def okDrawn (k : Nat) : Bool := (allB 4).any fun bs => dLoop 30 ((k : Int) + 1) (Str.ofString "") == some (sg bs)
theorem okDrawn_all : (List.range 31).all okDrawn = true := by decide +kernel
theorem drawn_ex (x : Int) : ∃ bs, bs.length ≤ 4 ∧ drawnF x = some (sg bs) := by
  have h0 : 0 ≤ x.fmod 31 := Int.fmod_nonneg_of_pos _ (by decide)
  have h1 : x.fmod 31 < 31 := Int.fmod_lt_of_pos _ (by decide)
  have h2 := List.all_eq_true.mp okDrawn_all (x.fmod 31).toNat (List.mem_range.mpr (by omega))
  unfold okDrawn at h2
  rw [List.any_eq_true] at h2
  obtain ⟨bs, hm, he⟩ := h2
  rw [Int.toNat_of_nonneg h0] at he
  refine ⟨bs, ?_, by unfold drawnF; simpa using he⟩
  have : ∀ bs ∈ allB 4, bs.length ≤ 4 := by decide +kernel
  exact this bs hm
theorem bare_len (bs : List Bool) : (bare bs).length ≤ bs.length := by
  cases bs with
  | nil => exact Nat.le_refl _
  | cons b r => cases b <;> simp [bare]
theorem dot_len (bs : List Bool) : (dot bs).length ≤ bs.length + 1 := by
  cases bs with
  | nil => simp [dot]
  | cons b r => cases b <;> simp [dot]
end Mine
end
section
open PySem PySem.W PyProof.Rows PySem.Calls
namespace Mine
set_option maxRecDepth 100000
def cp (b : Bool) : Nat := if b = true then 46 else 32
def ml (A : List Bool) (e : Str) (B : List Bool) : Str := sg A ++ Str.ofString "," ++ e ++ sg B ++ Str.ofString ","
def mlL (A : List Bool) (e : Str) (B : List Bool) : List Nat := A.map cp ++ 44 :: (e.cps.toList ++ (B.map cp ++ [44]))
theorem comma : Str.ofString "," = ⟨#[44]⟩ := by decide +kernel
theorem blank : Str.ofString " " = ⟨#[32]⟩ := by decide +kernel
theorem cps_app (a b : Str) : (a ++ b).cps.toList = a.cps.toList ++ b.cps.toList := by
  show (a.cps ++ b.cps).toList = _
  rw [Array.toList_append]
theorem sg_list (A : List Bool) : (sg A).cps.toList = A.map cp := rfl
theorem ml_list (A : List Bool) (e : Str) (B : List Bool) : (ml A e B).cps.toList = mlL A e B := by
  unfold ml mlL
  rw [cps_app, cps_app, cps_app, cps_app, comma, sg_list, sg_list]
  simp
theorem str_of_list {x y : Str} (h : x.cps.toList = y.cps.toList) : x = y := by
  apply Str.ext'
  exact Array.toList_inj.mp h
theorem len_list (x : Str) : x.length = x.cps.toList.length := by simp [Str.length]
theorem sg_len (A : List Bool) : (sg A).length = A.length := by rw [len_list, sg_list, List.length_map]
theorem ml_len (A : List Bool) (e : Str) (B : List Bool) : (ml A e B).length = A.length + 1 + e.length + B.length + 1 := by
  rw [len_list, ml_list, len_list e]
  unfold mlL
  simp only [List.length_append, List.length_cons, List.length_map, List.length_nil]
  omega
theorem item_at {x : Str} {i : Int} (h0 : 0 ≤ i) (h1 : i < x.length) : Txt.item x i = ⟨#[x.cps.toList.getD i.toNat 0]⟩ := by
  unfold Txt.item Txt.charAt seqIndex?
  have hn : ¬ i < 0 := by omega
  have hl : i.toNat < x.cps.size := by unfold Str.length at h1; omega
  simp [hn, h0, h1, List.getD_eq_getElem?_getD, hl]
theorem item_blank {x : Str} {i : Int} (h0 : 0 ≤ i) (h1 : i < x.length) : (Txt.item x i == Str.ofString " ") = (x.cps.toList.getD i.toNat 0 == 32) := by
  rw [item_at h0 h1, blank]
  cases h : (x.cps.toList.getD i.toNat 0 == 32) with
  | true => rw [beq_iff_eq.mp h]; rfl
  | false =>
    have hne : x.cps.toList.getD i.toNat 0 ≠ 32 := by simpa using h
    rw [beq_eq_false_iff_ne]
    intro e
    injection e with e1
    simp at e1
    exact hne (by simpa using e1)
theorem sStop0 {x : Str} {n : Nat} {lp : Int} (h0 : 0 ≤ lp) (h1 : lp < x.length) : sLoop x (n + 1) lp 0 = some lp := by
  unfold sLoop
  rw [if_pos ⟨h0, h1⟩, if_neg (by omega)]
theorem sStop1 {x : Str} {n : Nat} {lp am : Int} (h0 : 0 ≤ lp) (h1 : lp < x.length) (ha : am ≠ 0) (hb : x.cps.toList.getD lp.toNat 0 ≠ 32) : sLoop x (n + 1) lp am = some lp := by
  unfold sLoop
  rw [if_pos ⟨h0, h1⟩, if_pos ha, if_neg (by rw [item_blank h0 h1]; simpa using hb)]
theorem sGo {x : Str} {n : Nat} {lp am : Int} (h0 : 0 ≤ lp) (h1 : lp < x.length) (ha : am ≠ 0) (hb : x.cps.toList.getD lp.toNat 0 = 32) : sLoop x (n + 1) lp am = sLoop x n (lp + 1) (am - 1) := by
  conv => lhs; unfold sLoop
  rw [if_pos ⟨h0, h1⟩, if_pos ha, if_pos (by rw [item_blank h0 h1]; simpa using hb)]
theorem slice_to {x y : Str} {q : Nat} (hq : q ≤ x.length) (hy : y.cps.toList = x.cps.toList.drop q) : Txt.slice x (some (q : Int)) (some ((x.length : Int) - 1 + 1)) = y := by
  rw [show (x.length : Int) - 1 + 1 = (x.length : Int) by omega]
  have h := StrLaws.sliceText_nat x hq (Nat.le_refl _)
  refine Eq.trans (show Txt.slice x (some (q : Int)) (some (x.length : Int)) = StrLaws.sliceText x (some (q : Int)) (some (x.length : Int)) from rfl) (h.trans ?_)
  apply str_of_list
  rw [hy]
  show (x.cps.toList.drop q).take (x.length - q) = _
  rw [List.take_of_length_le]
  rw [List.length_drop, len_list]
  exact Nat.le_refl _
theorem ml_last (A : List Bool) (e : Str) (B : List Bool) : (Txt.item (ml A e B) ((ml A e B).length - 1) == Str.ofString " ") = false := by
  have hl := ml_len A e B
  rw [item_blank (by omega) (by omega), ml_list]
  have hL : (mlL A e B).length = (ml A e B).length := by rw [len_list, ml_list]
  have e1 : mlL A e B = (A.map cp ++ 44 :: (e.cps.toList ++ B.map cp)) ++ [44] := by unfold mlL; simp
  have e2 : (((ml A e B).length : Int) - 1).toNat = (A.map cp ++ 44 :: (e.cps.toList ++ B.map cp)).length := by
    rw [← hL, e1, List.length_append, List.length_singleton]
    omega
  rw [e2, e1]
  simp
def bareN : Nat → List Bool → List Bool
  | 0, A => A
  | n + 1, A => bareN n (bare A)
theorem strip0 (A : List Bool) (e : Str) (B : List Bool) : ∃ q, sLoop (ml A e B) 30 0 0 = some q ∧ Txt.slice (ml A e B) (some q) (some (((ml A e B).length : Int) - 1 + 1)) = ml A e B := by
  have hl := ml_len A e B
  exact ⟨0, sStop0 (by omega) (by omega), slice_to (q := 0) (Nat.zero_le _) (by simp)⟩
theorem strip1 (A : List Bool) (e : Str) (B : List Bool) : ∃ q, sLoop (ml A e B) 30 0 1 = some q ∧ Txt.slice (ml A e B) (some q) (some (((ml A e B).length : Int) - 1 + 1)) = ml (bare A) e B := by
  have hl := ml_len A e B
  cases A with
  | nil => exact ⟨0, sStop1 (by omega) (by omega) (by omega) (by rw [ml_list]; simp [mlL]), slice_to (q := 0) (Nat.zero_le _) (by simp [bare])⟩
  | cons b r =>
    cases b with
    | true => exact ⟨0, sStop1 (by omega) (by omega) (by omega) (by rw [ml_list]; simp [mlL, cp]), slice_to (q := 0) (Nat.zero_le _) (by simp [bare])⟩
    | false =>
      refine ⟨1, ?_, slice_to (q := 1) (by omega) (by rw [ml_list, ml_list]; simp [mlL, bare])⟩
      rw [sGo (by omega) (by omega) (by omega) (by rw [ml_list]; simp [mlL, cp])]
      exact sStop0 (by omega) (by omega)
theorem strip2 (A : List Bool) (e : Str) (B : List Bool) : ∃ q, sLoop (ml A e B) 30 0 2 = some q ∧ Txt.slice (ml A e B) (some q) (some (((ml A e B).length : Int) - 1 + 1)) = ml (bare (bare A)) e B := by
  have hl := ml_len A e B
  cases A with
  | nil => exact ⟨0, sStop1 (by omega) (by omega) (by omega) (by rw [ml_list]; simp [mlL]), slice_to (q := 0) (Nat.zero_le _) (by simp [bare])⟩
  | cons b r =>
    cases b with
    | true => exact ⟨0, sStop1 (by omega) (by omega) (by omega) (by rw [ml_list]; simp [mlL, cp]), slice_to (q := 0) (Nat.zero_le _) (by simp [bare])⟩
    | false =>
      cases r with
      | nil =>
        refine ⟨1, ?_, slice_to (q := 1) (by omega) (by rw [ml_list, ml_list]; simp [mlL, bare])⟩
        rw [sGo (by omega) (by omega) (by omega) (by rw [ml_list]; simp [mlL, cp])]
        exact sStop1 (by omega) (by omega) (by omega) (by rw [ml_list]; simp [mlL])
      | cons c r =>
        simp only [List.length_cons] at hl
        cases c with
        | true =>
          refine ⟨1, ?_, slice_to (q := 1) (by omega) (by rw [ml_list, ml_list]; simp [mlL, bare])⟩
          rw [sGo (by omega) (by omega) (by omega) (by rw [ml_list]; simp [mlL, cp])]
          exact sStop1 (by omega) (by omega) (by omega) (by rw [ml_list]; simp [mlL, cp])
        | false =>
          refine ⟨2, ?_, slice_to (q := 2) (by omega) (by rw [ml_list, ml_list]; simp [mlL, bare])⟩
          rw [sGo (by omega) (by omega) (by omega) (by rw [ml_list]; simp [mlL, cp])]
          rw [sGo (by omega) (by omega) (by omega) (by rw [ml_list]; simp [mlL, cp])]
          exact sStop0 (by omega) (by omega)
end Mine
end
section
open PySem PySem.W PyProof.Rows PySem.Calls
namespace Mine
set_option maxRecDepth 100000
def sA (t : Array Nat) (s : Nat) (must first : Bool) (pc pos handed : Nat) (ans : Option Bool) (seen : Sre.Seen) (out : Option Sre.Outcome) : Sre.M :=
  { code := code1, text := t, lim := t.size, start := s, lastStart := t.size, mustAdvance := must, pc := pc, pos := pos, handed := handed, outermost := first, marks := #[],
    frames := [{ wait := .nextStart, pc := 5, pos := s, outermost := first }], weight := 1, answer := ans, seen := seen, outcome := out }
theorem search1 {t : Array Nat} {pos : Nat} {must : Bool} (h : pos < t.size) : Sre.forSearch code1 t 0 pos t.size must = sA t pos must true 5 pos pos none (({} : Sre.Seen).add 14) none := by
  unfold Sre.forSearch
  rw [if_neg (by
    have e : (Sre.header code1).1 = 1 := by decide +kernel
    rw [e]
    simp
    omega)]
  rfl
theorem at1 {t : Array Nat} {s handed : Nat} {must first : Bool} {seen : Sre.Seen} : ∃ seen', (sA t s must first 5 s handed none seen none).step = if (s == 0 || t.getD (s - 1) 0 == 10) = true then sA t s must first 7 s handed none seen' none else sA t s must first 5 s handed (some false) seen' none := ⟨_, rfl⟩
theorem lit1 {t : Array Nat} {s handed : Nat} {must first : Bool} {seen : Sre.Seen} : (sA t s must first 7 s handed none seen none).step = if s ≥ t.size then sA t s must first 7 s handed (some false) (seen.add 16) none else if (t.getD s 0 == 46) = true then sA t s must first 9 (s + 1) handed none (seen.add 16) none else sA t s must first 7 s handed (some false) (seen.add 16) none := by
  by_cases h : s ≥ t.size
  · rw [if_pos h]
    show (if s ≥ t.size then _ else _) = _
    rw [if_pos h]
    rfl
  · rw [if_neg h]
    show (if s ≥ t.size then _ else _) = _
    rw [if_neg h]
    cases hc : (t.getD s 0 == 46) with
    | true =>
      show (match (Except.ok (t.getD s 0 == 46, seen.add 16) : Except String (Bool × Sre.Seen)) with
        | .error why => _
        | .ok (false, seen) => _
        | .ok (true, seen) => _) = _
      rw [hc]
      rfl
    | false =>
      show (match (Except.ok (t.getD s 0 == 46, seen.add 16) : Except String (Bool × Sre.Seen)) with
        | .error why => _
        | .ok (false, seen) => _
        | .ok (true, seen) => _) = _
      rw [hc]
      rfl
theorem suc1 {t : Array Nat} {s handed : Nat} {must first : Bool} {seen : Sre.Seen} : (sA t s must first 9 (s + 1) handed none seen none).step = sA t s must first 9 (s + 1) (s + 1) (some true) (seen.add 1) none := by
  have e : (s + 1 == s) = false := by simp
  show (if (first && ((false && (s + 1 != t.size)) || (must && (s + 1 == s)))) = true then _ else _) = _
  rw [if_neg (by rw [e]; cases first <;> cases must <;> simp)]
  rfl
theorem yes1 {t : Array Nat} {s : Nat} {must first : Bool} {seen : Sre.Seen} : ((sA t s must first 9 (s + 1) (s + 1) (some true) seen none).runFor 2).outcome = some .matched ∧ ((sA t s must first 9 (s + 1) (s + 1) (some true) seen none).runFor 2).start = s ∧ ((sA t s must first 9 (s + 1) (s + 1) (some true) seen none).runFor 2).handed = s + 1 := ⟨rfl, rfl, rfl⟩
theorem no1 {t : Array Nat} {s pc pos handed : Nat} {must first : Bool} {seen : Sre.Seen} (h : s < t.size) : (sA t s must first pc pos handed (some false) seen none).step = sA t (s + 1) false false 5 (s + 1) (s + 1) none seen none := by
  show (if s < t.size then _ else _) = _
  rw [if_pos h]
  rfl
theorem end1 {t : Array Nat} {s pc pos handed : Nat} {must first : Bool} {seen : Sre.Seen} (h : ¬ s < t.size) : ((sA t s must first pc pos handed (some false) seen none).runFor 2).outcome = some .failed := by
  have e : (sA t s must first pc pos handed (some false) seen none).step = { sA t s must first 5 s handed (some false) seen none with frames := [], weight := 0 } := by
    show (if s < t.size then _ else _) = _
    rw [if_neg h]
    rfl
  show (Sre.M.runFor 1 (sA t s must first pc pos handed (some false) seen none).step).outcome = _
  rw [e]
  rfl
def EndsN (n : Nat) (m : Sre.M) (r : Option (Nat × Nat)) : Prop := match r with
  | some (a, b) => (m.runFor n).outcome = some .matched ∧ (m.runFor n).start = a ∧ (m.runFor n).handed = b
  | none => (m.runFor n).outcome = some .failed
theorem EndsN.ends {n : Nat} {m : Sre.M} {r : Option (Nat × Nat)} (h : EndsN n m r) (hn : n ≤ 1000000) : Ends m r := ⟨n, hn, by
  cases r with
  | none => exact h
  | some p => exact h⟩
theorem EndsN.step {n : Nat} {m m' : Sre.M} {r : Option (Nat × Nat)} (ho : m.outcome = none) (e : m.step = m') (h : EndsN n m' r) : EndsN (n + 1) m r := by
  have h1 : m.runFor (n + 1) = m'.runFor n := by
    show (if m.outcome.isSome = true then m else Sre.M.runFor n m.step) = _
    rw [if_neg (by rw [ho]; exact Bool.false_ne_true), e]
  unfold EndsN at h ⊢
  rw [h1]
  exact h
theorem EndsN.mono {n k : Nat} {m : Sre.M} {r : Option (Nat × Nat)} (h : EndsN n m r) (hk : n ≤ k) : EndsN k m r := by
  obtain ⟨c, rfl⟩ := Nat.le.dest hk
  have ho : (m.runFor n).outcome.isSome = true := by
    unfold EndsN at h
    cases r with
    | none => rw [show (m.runFor n).outcome = _ from h]; rfl
    | some p => rw [h.1]; rfl
  unfold EndsN at h ⊢
  rw [runFor_add, runFor_some _ ho]
  exact h
theorem match1 {t : Array Nat} {s handed : Nat} {must first : Bool} {seen : Sre.Seen} (h1 : (s == 0 || t.getD (s - 1) 0 == 10) = true) (h2 : s < t.size) (h3 : t.getD s 0 = 46) : EndsN 5 (sA t s must first 5 s handed none seen none) (some (s, s + 1)) := by
  obtain ⟨seen1, e1⟩ := at1 (t := t) (s := s) (handed := handed) (must := must) (first := first) (seen := seen)
  rw [if_pos h1] at e1
  refine EndsN.step rfl e1 ?_
  have e2 := lit1 (t := t) (s := s) (handed := handed) (must := must) (first := first) (seen := seen1)
  rw [if_neg (by omega), if_pos (by rw [h3]; rfl)] at e2
  refine EndsN.step rfl e2 ?_
  refine EndsN.step rfl suc1 ?_
  exact yes1
theorem skip1 {t : Array Nat} {s handed n : Nat} {must first : Bool} {seen : Sre.Seen} {r : Option (Nat × Nat)} (h1 : ¬ ((s == 0 || t.getD (s - 1) 0 == 10) = true ∧ t.getD s 0 = 46)) (h2 : s < t.size) (h : ∀ seen, EndsN n (sA t (s + 1) false false 5 (s + 1) (s + 1) none seen none) r) : EndsN (n + 3) (sA t s must first 5 s handed none seen none) r := by
  obtain ⟨seen1, e1⟩ := at1 (t := t) (s := s) (handed := handed) (must := must) (first := first) (seen := seen)
  by_cases hb : (s == 0 || t.getD (s - 1) 0 == 10) = true
  · rw [if_pos hb] at e1
    have h3 : ¬ t.getD s 0 = 46 := fun q => h1 ⟨hb, q⟩
    refine EndsN.step rfl e1 ?_
    have e2 := lit1 (t := t) (s := s) (handed := handed) (must := must) (first := first) (seen := seen1)
    rw [if_neg (by omega), if_neg (by simpa using h3)] at e2
    refine EndsN.step rfl e2 ?_
    exact EndsN.step rfl (no1 h2) (h _)
  · rw [if_neg hb] at e1
    refine EndsN.mono (n := n + 2) ?_ (by omega)
    refine EndsN.step rfl e1 ?_
    exact EndsN.step rfl (no1 h2) (h _)
theorem last1 {t : Array Nat} {s handed : Nat} {must first : Bool} {seen : Sre.Seen} (h2 : s = t.size) : EndsN 4 (sA t s must first 5 s handed none seen none) none := by
  obtain ⟨seen1, e1⟩ := at1 (t := t) (s := s) (handed := handed) (must := must) (first := first) (seen := seen)
  by_cases hb : (s == 0 || t.getD (s - 1) 0 == 10) = true
  · rw [if_pos hb] at e1
    refine EndsN.step rfl e1 ?_
    have e2 := lit1 (t := t) (s := s) (handed := handed) (must := must) (first := first) (seen := seen1)
    rw [if_pos (by omega)] at e2
    exact EndsN.step rfl e2 (end1 (by omega))
  · rw [if_neg hb] at e1
    refine EndsN.mono (n := 3) ?_ (by omega)
    exact EndsN.step rfl e1 (end1 (by omega))
theorem scan1 {t : Array Nat} {a n : Nat} {r : Option (Nat × Nat)} (ha : a ≤ t.size) (h : ∀ (must first : Bool) seen, EndsN n (sA t a must first 5 a a none seen none) r) : ∀ (k s : Nat) (must first : Bool) (seen : Sre.Seen), s + k = a → (∀ i, s ≤ i → i < a → ¬ ((i == 0 || t.getD (i - 1) 0 == 10) = true ∧ t.getD i 0 = 46)) → EndsN (n + 3 * k) (sA t s must first 5 s s none seen none) r
  | 0, s, must, first, seen, e, _ => by
    have : s = a := by omega
    subst this
    exact h must first seen
  | k + 1, s, must, first, seen, e, hn => by
    have := skip1 (must := must) (first := first) (seen := seen) (handed := s) (hn s (Nat.le_refl _) (by omega)) (by omega) (fun seen => scan1 ha h k (s + 1) false false seen (by omega) (fun i h1 h2 => hn i (by omega) h2))
    exact this.mono (by omega)
theorem find1 {t : Array Nat} {s a : Nat} {must : Bool} (hz : t.size ≤ 1000) (h2 : a < t.size) (h1 : (a == 0 || t.getD (a - 1) 0 == 10) = true) (h3 : t.getD a 0 = 46) (hs : s ≤ a)
    (hn : ∀ i, s ≤ i → i < a → ¬ ((i == 0 || t.getD (i - 1) 0 == 10) = true ∧ t.getD i 0 = 46)) : Ends (Sre.forSearch code1 t 0 s t.size must) (some (a, a + 1)) := by
  rw [search1 (by omega)]
  exact (scan1 (Nat.le_of_lt h2) (fun _ _ _ => match1 h1 h2 h3) (a - s) s must true _ (by omega) hn).ends (by omega)
theorem none1 {t : Array Nat} {s : Nat} {must : Bool} (hz : t.size ≤ 1000) (hs : s < t.size)
    (hn : ∀ i, s ≤ i → i < t.size → ¬ ((i == 0 || t.getD (i - 1) 0 == 10) = true ∧ t.getD i 0 = 46)) : Ends (Sre.forSearch code1 t 0 s t.size must) none := by
  rw [search1 hs]
  exact (scan1 (Nat.le_refl _) (fun _ _ _ => last1 rfl) (t.size - s) s must true _ (by omega) hn).ends (by omega)
end Mine
end
section
open PySem PySem.W PyProof.Rows PySem.Calls
namespace Mine
set_option maxRecDepth 100000
def fN (s : Nat) (f : Bool) : Sre.Frame := { wait := .nextStart, pc := 10, pos := s, outermost := f }
def fB (s : Nat) (f : Bool) (k : Nat) : Sre.Frame := { wait := .nextBranch, pc := k, pos := s, outermost := f }
def fL (p : Nat) (f : Bool) : Sre.Frame := { wait := .lookNot, pc := 26, pos := p, outermost := f }
def sB (t : Array Nat) (s : Nat) (pc pos handed : Nat) (outer : Bool) (fs : List Sre.Frame) (wt : Nat) (ans : Option Bool) (seen : Sre.Seen) : Sre.M :=
  { code := code2, text := t, lim := t.size, start := s, lastStart := t.size, mustAdvance := false, pc := pc, pos := pos, handed := handed, outermost := outer, marks := #[], frames := fs, weight := wt, answer := ans, seen := seen }
section
variable {t : Array Nat} {s p hd n wt : Nat} {f o : Bool} {fs : List Sre.Frame} {seen : Sre.Seen} {r : Option (Nat × Nat)}
theorem br10 (h : ∀ seen, EndsN n (sB t s 12 s s f [fB s f 11, fN s f] 2 none seen) r) : EndsN (n + 1) (sB t s 10 s hd f [fN s f] 1 none seen) r :=
  EndsN.step (m' := sB t s 12 s s f [fB s f 11, fN s f] 2 none _) rfl rfl (h _)
theorem ly12 (hp : p < t.size) (hx : t.getD p 0 = 13) (h : ∀ seen, EndsN n (sB t s 14 (p + 1) hd o fs wt none seen) r) : EndsN (n + 1) (sB t s 12 p hd o fs wt none seen) r := by
  have e : (sB t s 12 p hd o fs wt none seen).step = sB t s 14 (p + 1) hd o fs wt none (seen.add 16) := by
    show (if p ≥ t.size then _ else _) = _
    rw [if_neg (by omega)]
    show (match (Except.ok (t.getD p 0 == 13, seen.add 16) : Except String (Bool × Sre.Seen)) with
        | .error why => _
        | .ok (false, seen) => _
        | .ok (true, seen) => _) = _
    rw [show (t.getD p 0 == 13) = true by rw [hx]; rfl]
    rfl
  exact EndsN.step rfl e (h _)
theorem ln12 (hx : p < t.size → t.getD p 0 ≠ 13) (h : ∀ seen, EndsN n (sB t s 12 p hd o fs wt (some false) seen) r) : EndsN (n + 1) (sB t s 12 p hd o fs wt none seen) r := by
  have e : (sB t s 12 p hd o fs wt none seen).step = sB t s 12 p hd o fs wt (some false) (seen.add 16) := by
    show (if p ≥ t.size then _ else _) = _
    by_cases hp : p ≥ t.size
    · rw [if_pos hp]
      rfl
    · rw [if_neg hp]
      show (match (Except.ok (t.getD p 0 == 13, seen.add 16) : Except String (Bool × Sre.Seen)) with
        | .error why => _
        | .ok (false, seen) => _
        | .ok (true, seen) => _) = _
      rw [show (t.getD p 0 == 13) = false by simpa using hx (by omega)]
      rfl
  exact EndsN.step rfl e (h _)
theorem ly14 (hp : p < t.size) (hx : t.getD p 0 = 10) (h : ∀ seen, EndsN n (sB t s 16 (p + 1) hd o fs wt none seen) r) : EndsN (n + 1) (sB t s 14 p hd o fs wt none seen) r := by
  have e : (sB t s 14 p hd o fs wt none seen).step = sB t s 16 (p + 1) hd o fs wt none (seen.add 16) := by
    show (if p ≥ t.size then _ else _) = _
    rw [if_neg (by omega)]
    show (match (Except.ok (t.getD p 0 == 10, seen.add 16) : Except String (Bool × Sre.Seen)) with
        | .error why => _
        | .ok (false, seen) => _
        | .ok (true, seen) => _) = _
    rw [show (t.getD p 0 == 10) = true by rw [hx]; rfl]
    rfl
  exact EndsN.step rfl e (h _)
theorem ln14 (hx : p < t.size → t.getD p 0 ≠ 10) (h : ∀ seen, EndsN n (sB t s 14 p hd o fs wt (some false) seen) r) : EndsN (n + 1) (sB t s 14 p hd o fs wt none seen) r := by
  have e : (sB t s 14 p hd o fs wt none seen).step = sB t s 14 p hd o fs wt (some false) (seen.add 16) := by
    show (if p ≥ t.size then _ else _) = _
    by_cases hp : p ≥ t.size
    · rw [if_pos hp]
      rfl
    · rw [if_neg hp]
      show (match (Except.ok (t.getD p 0 == 10, seen.add 16) : Except String (Bool × Sre.Seen)) with
        | .error why => _
        | .ok (false, seen) => _
        | .ok (true, seen) => _) = _
      rw [show (t.getD p 0 == 10) = false by simpa using hx (by omega)]
      rfl
  exact EndsN.step rfl e (h _)
theorem ly19 (hp : p < t.size) (hx : t.getD p 0 = 10) (h : ∀ seen, EndsN n (sB t s 21 (p + 1) hd o fs wt none seen) r) : EndsN (n + 1) (sB t s 19 p hd o fs wt none seen) r := by
  have e : (sB t s 19 p hd o fs wt none seen).step = sB t s 21 (p + 1) hd o fs wt none (seen.add 16) := by
    show (if p ≥ t.size then _ else _) = _
    rw [if_neg (by omega)]
    show (match (Except.ok (t.getD p 0 == 10, seen.add 16) : Except String (Bool × Sre.Seen)) with
        | .error why => _
        | .ok (false, seen) => _
        | .ok (true, seen) => _) = _
    rw [show (t.getD p 0 == 10) = true by rw [hx]; rfl]
    rfl
  exact EndsN.step rfl e (h _)
theorem ln19 (hx : p < t.size → t.getD p 0 ≠ 10) (h : ∀ seen, EndsN n (sB t s 19 p hd o fs wt (some false) seen) r) : EndsN (n + 1) (sB t s 19 p hd o fs wt none seen) r := by
  have e : (sB t s 19 p hd o fs wt none seen).step = sB t s 19 p hd o fs wt (some false) (seen.add 16) := by
    show (if p ≥ t.size then _ else _) = _
    by_cases hp : p ≥ t.size
    · rw [if_pos hp]
      rfl
    · rw [if_neg hp]
      show (match (Except.ok (t.getD p 0 == 10, seen.add 16) : Except String (Bool × Sre.Seen)) with
        | .error why => _
        | .ok (false, seen) => _
        | .ok (true, seen) => _) = _
      rw [show (t.getD p 0 == 10) = false by simpa using hx (by omega)]
      rfl
  exact EndsN.step rfl e (h _)
theorem ly24 (hp : p < t.size) (hx : t.getD p 0 = 13) (h : ∀ seen, EndsN n (sB t s 26 (p + 1) hd o fs wt none seen) r) : EndsN (n + 1) (sB t s 24 p hd o fs wt none seen) r := by
  have e : (sB t s 24 p hd o fs wt none seen).step = sB t s 26 (p + 1) hd o fs wt none (seen.add 16) := by
    show (if p ≥ t.size then _ else _) = _
    rw [if_neg (by omega)]
    show (match (Except.ok (t.getD p 0 == 13, seen.add 16) : Except String (Bool × Sre.Seen)) with
        | .error why => _
        | .ok (false, seen) => _
        | .ok (true, seen) => _) = _
    rw [show (t.getD p 0 == 13) = true by rw [hx]; rfl]
    rfl
  exact EndsN.step rfl e (h _)
theorem ln24 (hx : p < t.size → t.getD p 0 ≠ 13) (h : ∀ seen, EndsN n (sB t s 24 p hd o fs wt (some false) seen) r) : EndsN (n + 1) (sB t s 24 p hd o fs wt none seen) r := by
  have e : (sB t s 24 p hd o fs wt none seen).step = sB t s 24 p hd o fs wt (some false) (seen.add 16) := by
    show (if p ≥ t.size then _ else _) = _
    by_cases hp : p ≥ t.size
    · rw [if_pos hp]
      rfl
    · rw [if_neg hp]
      show (match (Except.ok (t.getD p 0 == 13, seen.add 16) : Except String (Bool × Sre.Seen)) with
        | .error why => _
        | .ok (false, seen) => _
        | .ok (true, seen) => _) = _
      rw [show (t.getD p 0 == 13) = false by simpa using hx (by omega)]
      rfl
  exact EndsN.step rfl e (h _)
theorem ly29 (hp : p < t.size) (hx : t.getD p 0 = 10) (h : ∀ seen, EndsN n (sB t s 31 (p + 1) hd o fs wt none seen) r) : EndsN (n + 1) (sB t s 29 p hd o fs wt none seen) r := by
  have e : (sB t s 29 p hd o fs wt none seen).step = sB t s 31 (p + 1) hd o fs wt none (seen.add 16) := by
    show (if p ≥ t.size then _ else _) = _
    rw [if_neg (by omega)]
    show (match (Except.ok (t.getD p 0 == 10, seen.add 16) : Except String (Bool × Sre.Seen)) with
        | .error why => _
        | .ok (false, seen) => _
        | .ok (true, seen) => _) = _
    rw [show (t.getD p 0 == 10) = true by rw [hx]; rfl]
    rfl
  exact EndsN.step rfl e (h _)
theorem ln29 (hx : p < t.size → t.getD p 0 ≠ 10) (h : ∀ seen, EndsN n (sB t s 29 p hd o fs wt (some false) seen) r) : EndsN (n + 1) (sB t s 29 p hd o fs wt none seen) r := by
  have e : (sB t s 29 p hd o fs wt none seen).step = sB t s 29 p hd o fs wt (some false) (seen.add 16) := by
    show (if p ≥ t.size then _ else _) = _
    by_cases hp : p ≥ t.size
    · rw [if_pos hp]
      rfl
    · rw [if_neg hp]
      show (match (Except.ok (t.getD p 0 == 10, seen.add 16) : Except String (Bool × Sre.Seen)) with
        | .error why => _
        | .ok (false, seen) => _
        | .ok (true, seen) => _) = _
      rw [show (t.getD p 0 == 10) = false by simpa using hx (by omega)]
      rfl
  exact EndsN.step rfl e (h _)
theorem jp16 (h : ∀ seen, EndsN n (sB t s 35 p hd o fs wt none seen) r) : EndsN (n + 1) (sB t s 16 p hd o fs wt none seen) r := EndsN.step (m' := sB t s 35 p hd o fs wt none _) rfl rfl (h _)
theorem jp21 (h : ∀ seen, EndsN n (sB t s 35 p hd o fs wt none seen) r) : EndsN (n + 1) (sB t s 21 p hd o fs wt none seen) r := EndsN.step (m' := sB t s 35 p hd o fs wt none _) rfl rfl (h _)
theorem jp32 (h : ∀ seen, EndsN n (sB t s 35 p hd o fs wt none seen) r) : EndsN (n + 1) (sB t s 32 p hd o fs wt none seen) r := EndsN.step (m' := sB t s 35 p hd o fs wt none _) rfl rfl (h _)
theorem al11 {pc q : Nat} (h : ∀ seen, EndsN n (sB t s 19 s s f [fB s f 18, fN s f] 2 none seen) r) : EndsN (n + 1) (sB t s pc q hd o [fB s f 11, fN s f] 2 (some false) seen) r := EndsN.step (m' := sB t s 19 s s f [fB s f 18, fN s f] 2 none _) rfl rfl (h _)
theorem al18 {pc q : Nat} (h : ∀ seen, EndsN n (sB t s 24 s s f [fB s f 23, fN s f] 2 none seen) r) : EndsN (n + 1) (sB t s pc q hd o [fB s f 18, fN s f] 2 (some false) seen) r := EndsN.step (m' := sB t s 24 s s f [fB s f 23, fN s f] 2 none _) rfl rfl (h _)
theorem as26 (h : ∀ seen, EndsN n (sB t s 29 p p false [fL p f, fB s f 23, fN s f] 3 none seen) r) : EndsN (n + 1) (sB t s 26 p hd f [fB s f 23, fN s f] 2 none seen) r := EndsN.step (m' := sB t s 29 p p false [fL p f, fB s f 23, fN s f] 3 none _) rfl rfl (h _)
theorem lk29 {pc q : Nat} (h : ∀ seen, EndsN n (sB t s 32 p hd f [fB s f 23, fN s f] 2 none seen) r) : EndsN (n + 1) (sB t s pc q hd o [fL p f, fB s f 23, fN s f] 3 (some false) seen) r := EndsN.step (m' := sB t s 32 p hd f [fB s f 23, fN s f] 2 none _) rfl rfl (h _)
theorem ok35 {k : Nat} : EndsN 4 (sB t s 35 p hd f [fB s f k, fN s f] 2 none seen) (some (s, p)) := by
  have e : (sB t s 35 p hd f [fB s f k, fN s f] 2 none seen).step = sB t s 35 p p f [fB s f k, fN s f] 2 (some true) (seen.add 1) := by
    show (if (f && ((false && (p != t.size)) || (false && (p == s)))) = true then _ else _) = _
    rw [if_neg (by cases f <;> simp)]
    rfl
  refine EndsN.step rfl e ?_
  exact ⟨rfl, rfl, rfl⟩
theorem m10 (h1 : s < t.size) (h2 : t.getD s 0 = 10) : EndsN 20 (sB t s 10 s hd f [fN s f] 1 none seen) (some (s, s + 1)) := by
  refine EndsN.mono (n := 4 + 1 + 1 + 1 + 1 + 1) ?_ (by decide)
  exact br10 fun _ => ln12 (fun _ => by omega) fun _ => al11 fun _ => ly19 h1 h2 fun _ => jp21 fun _ => ok35
theorem m1310 (h1 : s + 1 < t.size) (h2 : t.getD s 0 = 13) (h3 : t.getD (s + 1) 0 = 10) : EndsN 20 (sB t s 10 s hd f [fN s f] 1 none seen) (some (s, s + 2)) := by
  refine EndsN.mono (n := 4 + 1 + 1 + 1 + 1) ?_ (by decide)
  exact br10 fun _ => ly12 (by omega) h2 fun _ => ly14 h1 h3 fun _ => jp16 fun _ => ok35
theorem m13 (h1 : s < t.size) (h2 : t.getD s 0 = 13) (h3 : s + 1 < t.size → t.getD (s + 1) 0 ≠ 10) : EndsN 20 (sB t s 10 s hd f [fN s f] 1 none seen) (some (s, s + 1)) := by
  refine EndsN.mono (n := 4 + 1 + 1 + 1 + 1 + 1 + 1 + 1 + 1 + 1 + 1 + 1) ?_ (by decide)
  exact br10 fun _ => ly12 h1 h2 fun _ => ln14 h3 fun _ => al11 fun _ => ln19 (fun _ => by omega) fun _ => al18 fun _ => ly24 h1 h2 fun _ => as26 fun _ => ln29 h3 fun _ => lk29 fun _ => jp32 fun _ => ok35
end
theorem inSet2 (c : Nat) (seen : Sre.Seen) : ∃ seen', Sre.inSet code2 c code2.size 5 true seen = .ok (c == 10 || c == 13, seen') := by
  by_cases h1 : (c == 10) = true
  · refine ⟨seen.add 16, ?_⟩
    show (if (c == 10) = true then _ else _) = _
    rw [if_pos h1, h1]
    rfl
  · by_cases h2 : (c == 13) = true
    · refine ⟨(seen.add 16).add 16, ?_⟩
      show (if (c == 10) = true then _ else _) = _
      rw [if_neg h1]
      show (if (c == 13) = true then _ else _) = _
      rw [if_pos h2, h2, Bool.or_true]
      rfl
    · refine ⟨((seen.add 16).add 16).add 0, ?_⟩
      show (if (c == 10) = true then _ else _) = _
      rw [if_neg h1]
      show (if (c == 13) = true then _ else _) = _
      rw [if_neg h2, show (c == 10) = false by simpa using h1, show (c == 13) = false by simpa using h2]
      rfl
theorem adm_some {m : Sre.M} {t : Array Nat} {a : Nat} (hc : m.code = code2) (ht : m.text = t) (hl : m.lim = t.size) (ha : a < t.size) (hx : t.getD a 0 = 10 ∨ t.getD a 0 = 13) :
    ∀ (k s fuel : Nat) (seen : Sre.Seen), s + k = a → k < fuel → (∀ i, s ≤ i → i < a → t.getD i 0 ≠ 10 ∧ t.getD i 0 ≠ 13) → ∃ seen', Sre.M.admitted m fuel s seen = .ok (some a, seen')
  | _, _, 0, _, _, h, _ => absurd h (Nat.not_lt_zero _)
  | 0, s, fuel + 1, seen, e, _, _ => by
    have : s = a := by omega
    subst this
    obtain ⟨seen', e1⟩ := inSet2 (t.getD s 0) seen
    refine ⟨seen', ?_⟩
    unfold Sre.M.admitted
    rw [hl, if_neg (by omega), hc, ht, e1, show (t.getD s 0 == 10 || t.getD s 0 == 13) = true by rcases hx with h | h <;> rw [h] <;> rfl]
  | k + 1, s, fuel + 1, seen, e, hf, hn => by
    obtain ⟨seen', e1⟩ := inSet2 (t.getD s 0) seen
    obtain ⟨seen2, e2⟩ := adm_some hc ht hl ha hx k (s + 1) fuel seen' (by omega) (by omega) (fun i h1 h2 => hn i (by omega) h2)
    refine ⟨seen2, ?_⟩
    have h3 := hn s (Nat.le_refl _) (by omega)
    unfold Sre.M.admitted
    rw [hl, if_neg (by omega), hc, ht, e1, show (t.getD s 0 == 10 || t.getD s 0 == 13) = false by rw [beq_eq_false_iff_ne.mpr h3.1, beq_eq_false_iff_ne.mpr h3.2]; rfl]
    exact e2
theorem adm_none {m : Sre.M} {t : Array Nat} (hc : m.code = code2) (ht : m.text = t) (hl : m.lim = t.size) :
    ∀ (k s fuel : Nat) (seen : Sre.Seen), s + k = t.size → k < fuel → (∀ i, s ≤ i → i < t.size → t.getD i 0 ≠ 10 ∧ t.getD i 0 ≠ 13) → ∃ seen', Sre.M.admitted m fuel s seen = .ok (none, seen')
  | _, _, 0, _, _, h, _ => absurd h (Nat.not_lt_zero _)
  | 0, s, fuel + 1, seen, e, _, _ => by
    refine ⟨seen, ?_⟩
    unfold Sre.M.admitted
    rw [hl, if_pos (by omega)]
  | k + 1, s, fuel + 1, seen, e, hf, hn => by
    obtain ⟨seen', e1⟩ := inSet2 (t.getD s 0) seen
    obtain ⟨seen2, e2⟩ := adm_none hc ht hl k (s + 1) fuel seen' (by omega) (by omega) (fun i h1 h2 => hn i (by omega) h2)
    refine ⟨seen2, ?_⟩
    have h3 := hn s (Nat.le_refl _) (by omega)
    unfold Sre.M.admitted
    rw [hl, if_neg (by omega), hc, ht, e1, show (t.getD s 0 == 10 || t.getD s 0 == 13) = false by rw [beq_eq_false_iff_ne.mpr h3.1, beq_eq_false_iff_ne.mpr h3.2]; rfl]
    exact e2
def s0 (t : Array Nat) (pos : Nat) (must : Bool) : Sre.M :=
  { code := code2, text := t, lim := t.size, start := pos, lastStart := t.size, mustAdvance := must, pc := 10, pos := pos, handed := pos, marks := #[], seen := ({} : Sre.Seen).add 14 }
theorem search2 {t : Array Nat} {pos : Nat} {must : Bool} (h : pos < t.size) : Sre.forSearch code2 t 0 pos t.size must = (match Sre.M.admitted (s0 t pos must) (t.size + 1 - pos) pos (({} : Sre.Seen).add 14) with
    | .ok (some s, seen) => { s0 t pos must with mustAdvance := false, seen }.attemptAt s true
    | .ok (none, seen) => { s0 t pos must with seen }.say false
    | .error why => (s0 t pos must).stick why) := by
  unfold Sre.forSearch
  rw [if_neg (by
    have e : (Sre.header code2).1 = 1 := by decide +kernel
    rw [e]
    simp
    omega)]
  rfl
theorem find2 {t : Array Nat} {s a b : Nat} {must : Bool} (ha : a < t.size) (hs : s ≤ a) (hx : t.getD a 0 = 10 ∨ t.getD a 0 = 13) (hn : ∀ i, s ≤ i → i < a → t.getD i 0 ≠ 10 ∧ t.getD i 0 ≠ 13)
    (h : ∀ seen, EndsN 20 (sB t a 10 a a true [fN a true] 1 none seen) (some (a, b))) : Ends (Sre.forSearch code2 t 0 s t.size must) (some (a, b)) := by
  obtain ⟨seen', e⟩ := adm_some (t := t) (m := s0 t s must) rfl rfl rfl ha hx (a - s) s (t.size + 1 - s) (({} : Sre.Seen).add 14) (by omega) (by omega) hn
  rw [search2 (by omega), e]
  exact (h seen').ends (by decide)
theorem none2 {t : Array Nat} {s : Nat} {must : Bool} (hs : s < t.size) (hn : ∀ i, s ≤ i → i < t.size → t.getD i 0 ≠ 10 ∧ t.getD i 0 ≠ 13) : Ends (Sre.forSearch code2 t 0 s t.size must) none := by
  obtain ⟨seen', e⟩ := adm_none (t := t) (m := s0 t s must) rfl rfl rfl (t.size - s) s (t.size + 1 - s) (({} : Sre.Seen).add 14) (by omega) (by omega) hn
  rw [search2 hs, e]
  exact ⟨1, by decide, rfl⟩
end Mine
end
section
open PySem PySem.W PyProof.Rows PySem.Calls
namespace Mine
set_option maxRecDepth 100000
def flat (ps : List Str) : List Nat := (ps.map (·.cps.toList)).flatten
theorem flat_cons (p : Str) (ps : List Str) : flat (p :: ps) = p.cps.toList ++ flat ps := rfl
theorem flat_nil : flat [] = [] := rfl
theorem flat_app (ps qs : List Str) : flat (ps ++ qs) = flat ps ++ flat qs := by unfold flat; rw [List.map_append, List.flatten_append]
theorem join_flat (ps : List Str) : (Txt.join ⟨#[]⟩ ps).cps.toList = flat ps := by
  have h : ∀ (l : List Str) (acc : Array Nat), (l.foldl (fun acc (p : Str) => acc ++ (#[] : Array Nat) ++ p.cps) acc).toList = acc.toList ++ flat l := by
    intro l
    induction l with
    | nil => intro acc; simp [flat]
    | cons p r ih => intro acc; rw [List.foldl_cons, ih, flat_cons]; simp
  cases ps with
  | nil => rfl
  | cons p r =>
    show (r.foldl (fun acc (p : Str) => acc ++ (#[] : Array Nat) ++ p.cps) p.cps).toList = _
    rw [h, flat_cons]
theorem flat_len (ps : List Str) : (ps.map (·.length)).sum = (flat ps).length := by
  induction ps with
  | nil => rfl
  | cons p r ih => rw [List.map_cons, List.sum_cons, ih, flat_cons, List.length_append, len_list]
theorem getL (t : Array Nat) (i : Nat) : t.getD i 0 = t.toList.getD i 0 := by simp [List.getD_eq_getElem?_getD]
theorem ext_list (t : Array Nat) (a b : Nat) : (⟨t.extract a b⟩ : Str).cps.toList = (t.toList.drop a).take (b - a) := by
  show (t.extract a b).toList = _
  rw [Array.toList_extract]
theorem getD_mem {l : List Nat} {i : Nat} (h : i < l.length) : l.getD i 0 ∈ l := by
  rw [List.getD_eq_getElem?_getD, List.getElem?_eq_getElem h]
  exact List.getElem_mem h
section
variable {X Y E : List Nat}
theorem gX {i : Nat} (h : i < X.length) : (X ++ (E ++ Y)).getD i 0 = X.getD i 0 := by
  simp [List.getD_eq_getElem?_getD, List.getElem?_append_left h]
theorem gE {i : Nat} (h : i < E.length) : (X ++ (E ++ Y)).getD (X.length + i) 0 = E.getD i 0 := by
  simp [List.getD_eq_getElem?_getD, List.getElem?_append_right, List.getElem?_append_left h]
theorem gY {i : Nat} : (X ++ (E ++ Y)).getD (X.length + E.length + i) 0 = Y.getD i 0 := by
  have e : X.length + E.length + i = X.length + (E.length + i) := by omega
  rw [e]
  simp [List.getD_eq_getElem?_getD, List.getElem?_append_right]
def PlainL (l : List Nat) : Prop := ∀ c ∈ l, c ≠ 10 ∧ c ≠ 13
theorem pX (hX : PlainL X) {i : Nat} (h : i < X.length) : (X ++ (E ++ Y)).getD i 0 ≠ 10 ∧ (X ++ (E ++ Y)).getD i 0 ≠ 13 := by rw [gX h]; exact hX _ (getD_mem h)
theorem pY (hY : PlainL Y) {i : Nat} (h1 : X.length + E.length ≤ i) (h2 : i < X.length + E.length + Y.length) : (X ++ (E ++ Y)).getD i 0 ≠ 10 ∧ (X ++ (E ++ Y)).getD i 0 ≠ 13 := by
  obtain ⟨k, rfl⟩ := Nat.le.dest h1
  rw [gY]
  exact hY _ (getD_mem (by omega))
theorem sub2 {t : Array Nat} (ht : t.toList = X ++ (E ++ Y)) (hE : E = [10] ∨ E = [13, 10] ∨ E = [13]) (hX : PlainL X) (hX0 : 0 < X.length) (hY : PlainL Y) (hY0 : 0 < Y.length) {rep : Str} :
    ∃ ps, SubR code2 t rep 0 0 false ps ∧ flat ps = X ++ (rep.cps.toList ++ Y) ∧ ps ≠ [] ∧ ps.length ≤ 10 := by
  have hsz : t.size = X.length + E.length + Y.length := by
    have := congrArg List.length ht
    simp only [Array.length_toList, List.length_append] at this
    omega
  have hEl : 0 < E.length ∧ E.length ≤ 2 := by rcases hE with h | h | h <;> rw [h] <;> exact ⟨by decide, by decide⟩
  have hE0 : t.getD X.length 0 = E.getD 0 0 := by rw [getL, ht]; exact gE (i := 0) hEl.1
  have hf : Ends (Sre.forSearch code2 t 0 0 t.size false) (some (X.length, X.length + E.length)) := by
    refine find2 (by omega) (Nat.zero_le _) (by rw [hE0]; rcases hE with h | h | h <;> rw [h] <;> simp) (fun i _ h2 => by rw [getL, ht]; exact pX hX h2) (fun seen => ?_)
    rcases hE with h | h | h
    · rw [h]
      exact m10 (by omega) (by rw [hE0, h]; rfl)
    · rw [h]
      have h1 : t.getD (X.length + 1) 0 = 10 := by rw [getL, ht, gE (i := 1) (by rw [h]; decide), h]; rfl
      exact m1310 (by omega) (by rw [hE0, h]; rfl) h1
    · rw [h]
      refine m13 (by omega) (by rw [hE0, h]; rfl) (fun _ => ?_)
      rw [getL, ht]
      exact (pY (i := X.length + 1) hY (by rw [h]; simp) (by rw [h]; simp; omega)).1
  have hn : Ends (Sre.forSearch code2 t 0 (X.length + E.length) t.size (X.length + E.length == X.length)) none :=
    none2 (by omega) (fun i h1 h2 => by rw [getL, ht]; exact pY hY h1 (by omega))
  refine ⟨_, SubR.turn hf (SubR.stop hn), ?_, by simp, ?_⟩
  · rw [if_pos hX0, if_pos (by omega), flat_app, flat_cons, flat_nil, flat_cons, flat_cons, flat_nil, ext_list, ext_list, ht]
    rw [List.drop_zero, Nat.sub_zero, List.take_left, List.append_nil, List.append_nil]
    congr 2
    rw [show X.length + E.length = (X ++ E).length by simp, show X ++ (E ++ Y) = (X ++ E) ++ Y by simp, List.drop_left, List.take_of_length_le]
    rw [hsz]
    simp
  · rw [if_pos hX0, if_pos (by omega)]
    simp
def dl : List Nat → List Nat
  | 46 :: r => 46 :: 46 :: r
  | l => l
theorem sub1 {t : Array Nat} {rep : Str} (hrep : rep.cps.toList = [46, 46]) (ht : t.toList = X ++ ([13, 10] ++ Y)) (hsz0 : t.size ≤ 1000) (hX : PlainL X) (hX0 : 0 < X.length) (hY : PlainL Y) (hY0 : 0 < Y.length) (hY1 : Y.getD 0 0 = 46 → 1 < Y.length) :
    ∃ ps, SubR code1 t rep 0 0 false ps ∧ flat ps = dl X ++ ([13, 10] ++ dl Y) ∧ ps ≠ [] ∧ ps.length ≤ 10 := by
  have hsz : t.size = X.length + 2 + Y.length := by
    have := congrArg List.length ht
    simp only [Array.length_toList, List.length_append, List.length_cons, List.length_nil] at this
    omega
  have nb : ∀ i, 0 < i → i < t.size → i ≠ X.length + 2 → (i == 0 || t.getD (i - 1) 0 == 10) = false := by
    intro i h0 h1 h2
    have e0 : (i == 0) = false := by rw [beq_eq_false_iff_ne]; omega
    have e1 : t.getD (i - 1) 0 ≠ 10 := by
      rw [getL, ht]
      rcases Nat.lt_trichotomy (i - 1) X.length with h | h | h
      · exact (pX hX h).1
      · rw [h, show X.length = X.length + 0 from rfl, gE (i := 0) (by decide)]; decide
      · exact (pY (E := [13, 10]) (i := i - 1) hY (by simp; omega) (by simp; omega)).1
    rw [e0, beq_eq_false_iff_ne.mpr e1]
    rfl
  have yb : (X.length + 2 == 0 || t.getD (X.length + 2 - 1) 0 == 10) = true := by
    have : t.getD (X.length + 1) 0 = 10 := by rw [getL, ht, gE (i := 1) (by decide)]; rfl
    rw [show X.length + 2 - 1 = X.length + 1 from rfl, this]
    simp
  have hp : t.getD (X.length + 2) 0 = Y.getD 0 0 := by rw [getL, ht]; exact gY (E := [13, 10]) (i := 0)
  have dropP : (X ++ ([13, 10] ++ Y)).drop (X.length + 2) = Y := by
    rw [show X.length + 2 = (X ++ [13, 10]).length by simp, show X ++ ([13, 10] ++ Y) = (X ++ [13, 10]) ++ Y by simp, List.drop_left]
  have rest : ∀ (s d : Nat) (must : Bool), s = d → d ≤ 1 → d ≤ X.length → (∀ i, s ≤ i → i < 1 → ¬ ((i == 0 || t.getD (i - 1) 0 == 10) = true ∧ t.getD i 0 = 46)) →
      ∃ ps, SubR code1 t rep s d must ps ∧ flat ps = X.drop d ++ ([13, 10] ++ dl Y) ∧ ps ≠ [] ∧ ps.length ≤ 5 := by
    intro s d must hsd hd1 hdX hn0
    subst hsd
    have hn1 : ∀ i, s ≤ i → i < t.size → i ≠ X.length + 2 → ¬ ((i == 0 || t.getD (i - 1) 0 == 10) = true ∧ t.getD i 0 = 46) := by
      intro i h1 h2 h3
      by_cases h0 : i < 1
      · exact hn0 i h1 h0
      · intro q
        rw [nb i (by omega) h2 h3] at q
        cases q.1
    by_cases hy : Y.getD 0 0 = 46
    · have hy1 := hY1 hy
      have hf : Ends (Sre.forSearch code1 t 0 s t.size must) (some (X.length + 2, X.length + 2 + 1)) :=
        find1 hsz0 (by omega) yb (by rw [hp, hy]) (by omega) (fun i h1 h2 => hn1 i h1 (by omega) (by omega))
      have hN : Ends (Sre.forSearch code1 t 0 (X.length + 2 + 1) t.size (X.length + 2 + 1 == X.length + 2)) none :=
        none1 hsz0 (by omega) (fun i h1 h2 => hn1 i (by omega) h2 (by omega))
      refine ⟨_, SubR.turn hf (SubR.stop hN), ?_, by simp, ?_⟩
      · rw [if_pos (by omega), if_pos (by omega), flat_app, flat_cons, flat_nil, flat_cons, flat_cons, flat_nil, ext_list, ext_list, ht, hrep]
        have e1 : ((X ++ ([13, 10] ++ Y)).drop s).take (X.length + 2 - s) = X.drop s ++ [13, 10] := by
          rw [List.drop_append_of_le_length hdX, show X.length + 2 - s = (X.drop s ++ [13, 10]).length by simp; omega, show X.drop s ++ ([13, 10] ++ Y) = (X.drop s ++ [13, 10]) ++ Y by simp, List.take_left]
        have e2 : ((X ++ ([13, 10] ++ Y)).drop (X.length + 2 + 1)).take (t.size - (X.length + 2 + 1)) = Y.drop 1 := by
          rw [← List.drop_drop, dropP, List.take_of_length_le]
          rw [List.length_drop]
          omega
        rw [e1, e2]
        cases Y with
        | nil => cases hY0
        | cons c r =>
          have : c = 46 := hy
          subst this
          simp [dl]
      · rw [if_pos (by omega), if_pos (by omega)]
        simp
    · have hN : Ends (Sre.forSearch code1 t 0 s t.size must) none := none1 hsz0 (by omega) (fun i h1 h2 => by
        by_cases h3 : i = X.length + 2
        · intro q
          rw [h3, hp] at q
          exact hy q.2
        · exact hn1 i h1 h2 h3)
      refine ⟨_, SubR.stop hN, ?_, ?_, ?_⟩
      · rw [if_pos (by omega), flat_cons, flat_nil, ext_list, ht, List.drop_append_of_le_length hdX, List.take_of_length_le]
        · have : dl Y = Y := by
            cases Y with
            | nil => rfl
            | cons c r =>
              have : c ≠ 46 := hy
              unfold dl
              split
              · rename_i e
                injection e with e1 e2
                exact absurd e1 this
              · rfl
          rw [this]
          simp
        · simp
          omega
      · rw [if_pos (by omega)]; simp
      · rw [if_pos (by omega)]; simp
  cases X with
  | nil => cases hX0
  | cons c r =>
    by_cases hc : c = 46
    · subst hc
      have h0 : t.getD 0 0 = 46 := by rw [getL, ht]; rfl
      have hf : Ends (Sre.forSearch code1 t 0 0 t.size false) (some (0, 0 + 1)) := find1 hsz0 (by omega) (by simp) h0 (Nat.le_refl _) (fun i h1 h2 => by omega)
      obtain ⟨ps, h1, h2, h3, h4⟩ := rest 1 1 (0 + 1 == 0) rfl (by decide) hX0 (fun i h1 h2 => by omega)
      refine ⟨_, SubR.turn hf h1, ?_, by simp, ?_⟩
      · rw [if_neg (by decide), flat_app, flat_nil, flat_cons, h2, hrep]
        simp [dl]
      · rw [if_neg (by decide)]
        simp
        omega
    · have h0 : t.getD 0 0 ≠ 46 := by rw [getL, ht]; exact hc
      obtain ⟨ps, h1, h2, h3, h4⟩ := rest 0 0 false rfl (by decide) (Nat.zero_le _) (fun i h1 h2 q => by
        have : i = 0 := by omega
        subst this
        exact h0 q.2)
      refine ⟨ps, h1, ?_, h3, by omega⟩
      rw [h2]
      have : dl (c :: r) = c :: r := by
        unfold dl
        split
        · rename_i e
          injection e with e1 e2
          exact absurd e1 hc
        · rfl
      rw [this]
      simp
end
theorem crlf : (Str.ofString "\r\n").cps.toList = [13, 10] := by decide +kernel
theorem dots2 : (Str.ofString "..").cps.toList = [46, 46] := by decide +kernel
def isEdge (e : Str) : Prop := e = Str.ofString "\n" ∨ e = Str.ofString "\r\n" ∨ e = Str.ofString "\r"
theorem isEdge.list {e : Str} (h : isEdge e) : e.cps.toList = [10] ∨ e.cps.toList = [13, 10] ∨ e.cps.toList = [13] := by
  rcases h with h | h | h <;> subst h
  · left; decide +kernel
  · right; left; decide +kernel
  · right; right; decide +kernel
theorem isEdge.len {e : Str} (h : isEdge e) : e.length ≤ 2 := by
  rw [len_list]
  rcases h.list with q | q | q <;> rw [q] <;> decide
theorem mlL_eq (A : List Bool) (e : Str) (B : List Bool) : mlL A e B = (A.map cp ++ [44]) ++ (e.cps.toList ++ (B.map cp ++ [44])) := by unfold mlL; simp
theorem plain_row (A : List Bool) : PlainL (A.map cp ++ [44]) := by
  intro c hc
  rcases List.mem_append.mp hc with h | h
  · obtain ⟨b, _, rfl⟩ := List.mem_map.mp h
    cases b <;> simp [cp]
  · rw [List.mem_singleton.mp h]; decide
theorem dl_dot (A : List Bool) : dl (A.map cp ++ [44]) = (dot A).map cp ++ [44] := by
  cases A with
  | nil => rfl
  | cons b r => cases b <;> simp [dl, dot, cp]
theorem quote_ex {A B : List Bool} {e : Str} (he : isEdge e) (hA : A.length ≤ 10) (hB : B.length ≤ 10) : ∃ ps2 ps1, Txt.join ⟨#[]⟩ ps2 = ml A (Str.ofString "\r\n") B ∧ Txt.join ⟨#[]⟩ ps1 = ml (dot A) (Str.ofString "\r\n") (dot B) ∧
    SubR code2 (ml A e B).cps (Str.ofString "\r\n") 0 0 false ps2 ∧ ps2 ≠ [] ∧ ps2.length ≤ 900 ∧ (ps2.map (·.length)).sum ≤ 1000000 ∧
    SubR code1 (Txt.join ⟨#[]⟩ ps2).cps (Str.ofString "..") 0 0 false ps1 ∧ ps1 ≠ [] ∧ ps1.length ≤ 900 ∧ (ps1.map (·.length)).sum ≤ 1000000 := by
  have hl := ml_len A (Str.ofString "\r\n") B
  have hc : (Str.ofString "\r\n").length = 2 := by decide +kernel
  obtain ⟨ps2, s2, f2, n2, z2⟩ := sub2 (t := (ml A e B).cps) (rep := Str.ofString "\r\n") (by rw [ml_list, mlL_eq]) he.list (plain_row A) (by simp) (plain_row B) (by simp)
  have e2 : Txt.join ⟨#[]⟩ ps2 = ml A (Str.ofString "\r\n") B := by
    apply str_of_list
    rw [join_flat, f2, ml_list, mlL_eq]
  obtain ⟨ps1, s1, f1, n1, z1⟩ := sub1 (t := (ml A (Str.ofString "\r\n") B).cps) dots2 (by rw [ml_list, mlL_eq, crlf]) (by show (ml A (Str.ofString "\r\n") B).length ≤ 1000; omega) (plain_row A) (by simp) (plain_row B) (by simp) (by
    intro h
    cases B with
    | nil => cases h
    | cons b r => simp)
  have e1 : Txt.join ⟨#[]⟩ ps1 = ml (dot A) (Str.ofString "\r\n") (dot B) := by
    apply str_of_list
    rw [join_flat, f1, ml_list, mlL_eq, crlf, dl_dot, dl_dot]
  have l2 : (flat ps2).length ≤ 1000000 := by
    rw [← join_flat, e2, ← len_list]; omega
  have l1 : (flat ps1).length ≤ 1000000 := by
    have := ml_len (dot A) (Str.ofString "\r\n") (dot B)
    have := dot_len A
    have := dot_len B
    rw [← join_flat, e1, ← len_list]; omega
  refine ⟨ps2, ps1, e2, e1, s2, n2, by omega, by rw [flat_len]; exact l2, ?_, n1, by omega, by rw [flat_len]; exact l1⟩
  rw [e2]
  exact s1
end Mine
end
section
open PySem PySem.W PyProof.Rows PySem.Calls
namespace Mine
set_option maxRecDepth 100000
def wHalf (tu : Bool) (st : Int) : Int := if tu = true then st.fdiv 2 else st
def wGo (b tu : Bool) (st w : Int) : Int := w + (if b = true then wHalf tu st else -wHalf tu st)
def wTail (f : Bool) : Bool → Int → Int → List Bool → List Int
  | _, _, _, [] => []
  | tu, st, w, b :: r => wGo b (tu || (b != f)) st w :: wTail f (tu || (b != f)) (wHalf (tu || (b != f)) st) (wGo b (tu || (b != f)) st w) r
def wEnd (f : Bool) : Bool → Int → Int → List Bool → Int
  | _, _, w, [] => w
  | tu, st, w, b :: r => wEnd f (tu || (b != f)) (wHalf (tu || (b != f)) st) (wGo b (tu || (b != f)) st w) r
def wB : List Bool → Int
  | [] => 0
  | f :: r => wEnd f false 256 0 (f :: r)
theorem item_head (f : Bool) (q : List Bool) : Txt.item (sg (f :: q)) 0 = ⟨#[cp f]⟩ := by
  rw [item_at (by omega) (by rw [sg_len]; simp)]
  rfl
theorem cp_ne (b f : Bool) : ((⟨#[cp b]⟩ : Str) != ⟨#[cp f]⟩) = (b != f) := by
  cases b <;> cases f <;> decide +kernel
theorem cp_dot (b : Bool) : ((⟨#[cp b]⟩ : Str) == Str.ofString ".") = b := by
  cases b <;> decide +kernel
theorem wT_eq (f : Bool) (q : List Bool) (tu b : Bool) : wT (sg (f :: q)) tu (cp b) = (tu || (b != f)) := by
  unfold wT
  rw [item_head, cp_ne]
  cases tu <;> rfl
theorem wS_eq (f : Bool) (q : List Bool) (tu b : Bool) (st : Int) : wS (sg (f :: q)) tu st (cp b) = wHalf (tu || (b != f)) st := by
  unfold wS wHalf
  rw [wT_eq]
theorem last_at (zs : List Int) (w : Int) : (zs ++ [w]).getD (-1 + ((zs ++ [w]).length : Int)).toNat 0 = w := by
  have e : (-1 + ((zs ++ [w]).length : Int)).toNat = zs.length := by rw [List.length_append, List.length_singleton]; omega
  rw [e]
  simp
theorem wZ_eq (f : Bool) (q : List Bool) (tu b : Bool) (st : Int) (zs : List Int) (w : Int) : wZ (sg (f :: q)) tu st (zs ++ [w]) (cp b) = wGo b (tu || (b != f)) st w := by
  unfold wZ wGo
  rw [last_at, cp_dot, wS_eq]
theorem fold_eq (f : Bool) (q : List Bool) : ∀ (r : List Bool) (tu : Bool) (st : Int) (zs : List Int) (w : Int),
    ((KStt.codes (sg r)).foldl (wStep (sg (f :: q))) (tu, st, zs ++ [w])).2.2 = zs ++ w :: wTail f tu st w r
  | [], tu, st, zs, w => rfl
  | b :: r, tu, st, zs, w => by
    have e : KStt.codes (sg (b :: r)) = ((cp b : Nat) : Int) :: KStt.codes (sg r) := by
      unfold KStt.codes
      rw [sg_list, sg_list]
      rfl
    rw [e, List.foldl_cons]
    have e2 : wStep (sg (f :: q)) (tu, st, zs ++ [w]) ((cp b : Nat) : Int) = ((tu || (b != f)), wHalf (tu || (b != f)) st, (zs ++ [w]) ++ [wGo b (tu || (b != f)) st w]) := by
      unfold wStep
      dsimp only
      rw [Int.toNat_natCast, wT_eq, wS_eq, wZ_eq]
    rw [e2, fold_eq f q r, List.append_assoc]
    rfl
theorem worthsF_eq (f : Bool) (q : List Bool) : worthsF (sg (f :: q)) = 0 :: wTail f false 256 0 (f :: q) := by
  unfold worthsF wFold
  exact fold_eq f q (f :: q) false 256 [] 0
theorem worthsF_nil : worthsF (sg []) = [0] := rfl
theorem tail_get (f : Bool) : ∀ (r : List Bool) (tu : Bool) (st w : Int) (i : Nat), i ≤ r.length → (w :: wTail f tu st w r).getD i 0 = wEnd f tu st w (r.take i)
  | _, _, _, _, 0, _ => rfl
  | [], _, _, _, i + 1, h => absurd h (Nat.not_succ_le_zero _)
  | b :: r, tu, st, w, i + 1, h => by
    have ih := tail_get f r (tu || (b != f)) (wHalf (tu || (b != f)) st) (wGo b (tu || (b != f)) st w) i (Nat.le_of_succ_le_succ h)
    rw [List.take_succ_cons]
    exact ih
theorem worthsF_at {A : List Bool} {i : Nat} (hi : i ≤ A.length) : (worthsF (sg A)).getD i 0 = wB (A.take i) := by
  cases A with
  | nil =>
    have : i = 0 := by simpa using hi
    subst this
    rfl
  | cons f q =>
    rw [worthsF_eq, tail_get f (f :: q) false 256 0 i hi]
    cases i with
    | zero => rfl
    | succ i => rfl
theorem tail_len (f : Bool) : ∀ (r : List Bool) (tu : Bool) (st w : Int), (wTail f tu st w r).length = r.length
  | [], _, _, _ => rfl
  | b :: r, tu, st, w => congrArg (· + 1) (tail_len f r _ _ _)
theorem worth_eq (bs : List Bool) : worth bs = wB bs := by
  have hl : (worthsF (sg bs)).length = bs.length + 1 := by
    cases bs with
    | nil => rfl
    | cons f q => rw [worthsF_eq, List.length_cons, tail_len]
  unfold worth lastOf
  have e : (-1 + ((worthsF (sg bs)).length : Int)).toNat = bs.length := by rw [hl]; omega
  rw [e, worthsF_at (Nat.le_refl _), List.take_length]
theorem worth_take {A : List Bool} {i : Nat} (hi : i ≤ A.length) : (worthsF (sg A)).getD i 0 = worth (A.take i) := by
  rw [worthsF_at hi, worth_eq]
theorem wHalf_tu (tu : Bool) (b f : Bool) : (tu || ((!b) != (!f))) = (tu || (b != f)) := by cases tu <;> cases b <;> cases f <;> rfl
theorem wEnd_neg (f : Bool) : ∀ (r : List Bool) (tu : Bool) (st w : Int), wEnd (!f) tu st (-w) (r.map (!·)) = - wEnd f tu st w r
  | [], _, _, _ => rfl
  | b :: r, tu, st, w => by
    have ih := wEnd_neg f r (tu || (b != f)) (wHalf (tu || (b != f)) st) (wGo b (tu || (b != f)) st w)
    rw [List.map_cons]
    show wEnd (!f) (tu || ((!b) != (!f))) (wHalf (tu || ((!b) != (!f))) st) (wGo (!b) (tu || ((!b) != (!f))) st (-w)) (r.map (!·)) = - wEnd f (tu || (b != f)) (wHalf (tu || (b != f)) st) (wGo b (tu || (b != f)) st w) r
    rw [wHalf_tu, ← ih]
    congr 1
    unfold wGo
    cases b <;> simp <;> omega
theorem worth_neg (B : List Bool) : worth (B.map (!·)) = - worth B := by
  rw [worth_eq, worth_eq]
  cases B with
  | nil => rfl
  | cons f q => exact wEnd_neg f (f :: q) false 256 0
end Mine
end
section
open PySem PySem.W PyProof.Rows PySem.Calls
namespace Mine
set_option maxRecDepth 100000
def okRow (bs : List Bool) : Bool := match apLoop 20 (if wB bs < 0 then -wB bs else wB bs) [] with
  | none => false
  | some ks => ks.head? != some 65 && decide (0 ≤ numF ks) && decide (numF ks < 4096) && decide (ks.length ≤ 320) && rowF (wB bs) ks == some (sg bs)
theorem okRow_all : (allB 7).all okRow = true := by decide +kernel
theorem row_ex {bs : List Bool} (h : bs.length ≤ 7) : ∃ ks, apLoop 20 (if worth bs < 0 then -worth bs else worth bs) [] = some ks ∧ ks.head? ≠ some 65 ∧ (0 ≤ numF ks ∧ numF ks < 4096) ∧ ks.length ≤ 320 ∧ rowF (worth bs) ks = some (sg bs) := by
  rw [worth_eq]
  have h2 := List.all_eq_true.mp okRow_all bs (mem_allB 7 bs h)
  unfold okRow at h2
  cases ha : apLoop 20 (if wB bs < 0 then -wB bs else wB bs) [] with
  | none => rw [ha] at h2; cases h2
  | some ks =>
    rw [ha] at h2
    simp only [Bool.and_eq_true, decide_eq_true_eq, bne_iff_ne, ne_eq, beq_iff_eq] at h2
    exact ⟨ks, rfl, h2.1.1.1.1, ⟨h2.1.1.1.2, h2.1.1.2⟩, h2.1.2, h2.2⟩
theorem okBare_all : (allB 7).all (fun bs => baredF (wB bs) == some (wB (bare bs))) = true := by decide +kernel
theorem bare_ex {bs : List Bool} (h : bs.length ≤ 7) : baredF (worth bs) = some (worth (bare bs)) := by
  rw [worth_eq, worth_eq]
  simpa using List.all_eq_true.mp okBare_all bs (mem_allB 7 bs h)
theorem okDot_all : (allB 6).all (fun bs => wB (dot bs) == wB bs + (if 0 < wB bs then 256 else 0)) = true := by decide +kernel
theorem dot_ex {bs : List Bool} (h : bs.length ≤ 6) : worth (dot bs) = worth bs + (if 0 < worth bs then 256 else 0) := by
  rw [worth_eq, worth_eq]
  simpa using List.all_eq_true.mp okDot_all bs (mem_allB 6 bs h)
end Mine
end
section
open PySem PySem.W PyProof.Rows PySem.Calls
namespace Mine
set_option maxRecDepth 100000
section
variable (w : World) (p : Program) (loose : List Str) (mean : ExcName → Option Value) (mg mb : Str → Option Value)
abbrev CL (d u : Nat) (f : Addr) (vs : List Value) (R : Value → Prop) : Prop := Claim PySem.Challenge.rw_wn0005_01.prog w (Mine.hd.heap_39 w.params) p loose mean mg mb d u f vs R
theorem drawnC (x : Int) (t : CTok) : CL w p loose mean mg mb 1 8 76 [.int x t] (fun v => ∃ bs t', v = .str (sg bs) t' ∧ bs.length ≤ 4) := by
  intro dp un gd cn cs a ccd cl outer A₀ base h₀ L m news s Q E B F X N T hk hd hu hret
  obtain ⟨bs, hl, hx⟩ := drawn_ex x
  refine drawn_claim w p loose mean mg mb x (sg bs) t hx dp un gd cn cs a ccd cl outer A₀ base h₀ L m news s Q E B F X N T hk hd hu (fun v h' tk' hv F' N' => ?_)
  obtain ⟨t', rfl⟩ := hv
  exact hret _ _ _ ⟨bs, t', rfl, hl⟩ F' N'
theorem rowC {bs : List Bool} (h : bs.length ≤ 7) (t : CTok) : CL w p loose mean mg mb 2 16 90 [.int (worth bs) t] (IsS (sg bs)) := by
  obtain ⟨ks, h1, h2, h3, h4, h5⟩ := row_ex h
  exact row_claim w p loose mean mg mb (worth bs) ks (sg bs) t h5 h4 h2 h3 (fun t => ap_claim w p loose mean mg mb (worth bs) ks t h1)
theorem baredC {bs : List Bool} (h : bs.length ≤ 7) (t : CTok) : CL w p loose mean mg mb 1 8 97 [.int (worth bs) t] (IsI (worth (bare bs))) :=
  bared_claim w p loose mean mg mb (worth bs) (worth (bare bs)) t (bare_ex h)
theorem stripC {A B : List Bool} {e : Str} (he : isEdge e) (hA : A.length ≤ 10) (hB : B.length ≤ 10) (k : Nat) (hk : k ≤ 2) (t u : CTok) : CL w p loose mean mg mb 1 8 45 [.str (ml A e B) t, .int (k : Int) u] (IsS (ml (bareN k A) e B)) := by
  have hl := ml_len A e B
  have := he.len
  have ex : ∃ q, sLoop (ml A e B) 30 0 (k : Int) = some q ∧ Txt.slice (ml A e B) (some q) (some (((ml A e B).length : Int) - 1 + 1)) = ml (bareN k A) e B := by
    rcases Nat.lt_or_ge k 1 with h | h
    · have : k = 0 := by omega
      subst this
      exact strip0 A e B
    · rcases Nat.lt_or_ge k 2 with h | h
      · have : k = 1 := by omega
        subst this
        exact strip1 A e B
      · have : k = 2 := by omega
        subst this
        exact strip2 A e B
  obtain ⟨q, h1, h2⟩ := ex
  rw [← h2]
  exact strip_claim w p loose mean mg mb (ml A e B) (k : Int) q t u ⟨by omega, by omega⟩ h1 (ml_last A e B)
theorem quoteC {A B : List Bool} {e : Str} (he : isEdge e) (hA : A.length ≤ 10) (hB : B.length ≤ 10) (t : CTok) : CL w p loose mean mg mb 1 8 69 [.str (ml A e B) t] (IsS (ml (dot A) (Str.ofString "\r\n") (dot B))) := by
  have hl := ml_len A e B
  have := he.len
  have hl2 := ml_len A (Str.ofString "\r\n") B
  have hc : (Str.ofString "\r\n").length = 2 := by decide +kernel
  obtain ⟨ps2, ps1, e2, e1, s2, n2, z2, m2, s1, n1, z1, m1⟩ := quote_ex he hA hB
  rw [← e1]
  exact quote_claim w p loose mean mg mb (ml A e B) ps2 ps1 t (by show (ml A e B).length ≤ 100; omega) (by rw [e2]; show (ml A _ B).length ≤ 100; omega) s2 n2 z2 m2 s1 n1 z1 m1
theorem worthsC {bs : List Bool} (h : bs.length ≤ 7) (t : CTok) : ClaimL PySem.Challenge.rw_wn0005_01.prog w (Mine.hd.heap_39 w.params) p loose mean mg mb 1 8 83 [.str (sg bs) t] (worthsF (sg bs)) :=
  worths_claim w p loose mean mg mb (sg bs) t (by rw [sg_len]; omega)
theorem collC (x y : Str) (t u : CTok) : CL w p loose mean mg mb 1 8 38 [.str x t, .str y u] (IsI (b2i (decide (y.cps.toList < x.cps.toList)) - b2i (decide (x.cps.toList < y.cps.toList)))) := coll_claim w p loose mean mg mb x y t u
end
end Mine
end
section
open PySem PySem.W PyProof.Rows PySem.Calls
namespace Mine
set_option maxRecDepth 100000
def lawFn (p : Program) : List Stmt × Scope := match p.main.body.drop 16 with
  | .FunctionDef _ _ b _ _ _ sc _ _ _ :: _ => (b, sc)
  | _ => ([], default)
def lawB : List Stmt := (lawFn PySem.Challenge.rw_wn0005_01.prog).1
def lawS : Scope := (lawFn PySem.Challenge.rw_wn0005_01.prog).2
abbrev lawE (L fa : Addr) (cd : Value) : Env := envOfC "law" lawS L fa cd
theorem worthsF_len (x : Str) : (worthsF x).length = x.length + 1 := by
  have h : ∀ (l : List Int) (st : Bool × Int × List Int), (l.foldl (wStep x) st).2.2.length = st.2.2.length + l.length := by
    intro l
    induction l with
    | nil => intro st; rfl
    | cons c r ih =>
      intro st
      rw [List.foldl_cons, ih]
      show (st.2.2 ++ [_]).length + r.length = st.2.2.length + (r.length + 1)
      rw [List.length_append, List.length_singleton]
      omega
  unfold worthsF wFold
  rw [h, KStt.codes_length, Nat.add_comm]
  rfl
theorem rowX (w : World) (p : Program) (loose : List Str) (mean : ExcName → Option Value) (mg mb : Str → Option Value) {bs : List Bool} {x : Int} (h : bs.length ≤ 7) (hx : x = worth bs) (t : CTok) : CL w p loose mean mg mb 2 16 90 [.int x t] (IsS (sg bs)) := by
  subst hx
  exact rowC w p loose mean mg mb h t
theorem bareN_succ : ∀ (n : Nat) (A : List Bool), bareN (n + 1) A = bare (bareN n A)
  | 0, _ => rfl
  | n + 1, A => bareN_succ n (bare A)
theorem bareN_len : ∀ (n : Nat) (A : List Bool), (bareN n A).length ≤ A.length
  | 0, _ => Nat.le_refl _
  | n + 1, A => Nat.le_trans (bareN_len n (bare A)) (bare_len A)
theorem stripI (w : World) (p : Program) (loose : List Str) (mean : ExcName → Option Value) (mg mb : Str → Option Value) {A B : List Bool} {e : Str} (he : isEdge e) (hA : A.length ≤ 10) (hB : B.length ≤ 10) {n : Int} (h0 : 0 ≤ n) (h2 : n ≤ 2) (t u : CTok) : CL w p loose mean mg mb 1 8 45 [.str (ml A e B) t, .int n u] (IsS (ml (bareN n.toNat A) e B)) := by
  have h := stripC w p loose mean mg mb he hA hB n.toNat (by omega) t u
  rw [Int.toNat_of_nonneg h0] at h
  exact h
end Mine
end
section
open PySem PySem.W PyProof.Rows PySem.Calls
namespace Mine
set_option maxRecDepth 100000
def forBody : List Stmt → List Stmt
  | .For _ _ b _ _ :: _ => b
  | _ => []
abbrev DS := List Bool × List Bool × Str × CTok × CTok × CTok × CTok × Obj × Obj
abbrev dLed (l : Addr) (vs : List Value) (L : Addr) (o3 o4 o5 : Obj) (c : DS) : List (Addr × Obj) :=
  [(l, listOf vs.toArray 0), (L + 1 + 1 + 1 + 1 + 1, o5), (L + 1 + 1 + 1 + 1, o4), (L + 1 + 1 + 1, o3), (L + 1 + 1, c.2.2.2.2.2.2.2.2), (L + 1, c.2.2.2.2.2.2.2.1)]
abbrev dPs (c : DS) : List (Str × Value) :=
  [(Str.ofString "mail", .str (ml c.1 c.2.2.1 c.2.1) c.2.2.2.1), (Str.ofString "edge", .str c.2.2.1 c.2.2.2.2.1), (Str.ofString "one", .int (worth c.1) c.2.2.2.2.2.1), (Str.ofString "two", .int (worth c.2.1) c.2.2.2.2.2.2.1)]
abbrev dP (pre : List Int) (c : DS) : Prop :=
  isEdge c.2.2.1 ∧ c.1.length ≤ 4 + (pre.length - 1) ∧ c.2.1.length ≤ 4 + (pre.length - 1) ∧ (∃ t, c.2.2.2.2.2.2.2.1.data = .cell (some (.str (sg c.1) t))) ∧ ∃ t, c.2.2.2.2.2.2.2.2.data = .cell (some (.str (sg c.2.1) t))
theorem expose {h₀ h : Heap} {L : Addr} {m : Str → Option Value} {x : Str} {v : Value} (F : Fr h₀ L h m) (e : m x = some v) : Fr h₀ L h (fun y => if y = x then some v else m y) := by
  have q : (fun y => if y = x then some v else m y) = m := by
    funext y
    by_cases hy : y = x
    · rw [if_pos hy, hy, e]
    · rw [if_neg hy]
  rw [q]
  exact F
theorem expose4 {h₀ h : Heap} {L : Addr} {m : Str → Option Value} {x1 x2 x3 x4 : Str} {v1 v2 v3 v4 : Value} (F : Fr h₀ L h m) (e1 : m x1 = some v1) (e2 : m x2 = some v2) (e3 : m x3 = some v3) (e4 : m x4 = some v4) :
    Fr h₀ L h (fun y => if y = x1 then some v1 else if y = x2 then some v2 else if y = x3 then some v3 else if y = x4 then some v4 else m y) := by
  have q : (fun y => if y = x1 then some v1 else if y = x2 then some v2 else if y = x3 then some v3 else if y = x4 then some v4 else m y) = m := by
    funext y
    by_cases h1 : y = x1
    · rw [if_pos h1, h1, e1]
    · rw [if_neg h1]
      by_cases h2 : y = x2
      · rw [if_pos h2, h2, e2]
      · rw [if_neg h2]
        by_cases h3 : y = x3
        · rw [if_pos h3, h3, e3]
        · rw [if_neg h3]
          by_cases h4 : y = x4
          · rw [if_pos h4, h4, e4]
          · rw [if_neg h4]
  rw [q]
  exact F
theorem same_text {x y : Str} (h : x = y) : ¬ (x != y) = true := by
  rw [h]; simp
set_option maxHeartbeats 8000000 in
theorem rest_wp (w : World) (p : Program) (loose : List Str) (mean : ExcName → Option Value) (mg mb : Str → Option Value) (A B : List Bool) (e : Str) (tm te t1 t2 : CTok) (p1 p2 o3 o4 o5 : Obj) (l : Addr) (vs : List Value) (pre : List Int) (n : Int)
    (h₀ : Heap) (L fa : Addr) (cd : Value) (u m₀ : Str → Option Value) (own : List (Addr × Obj)) (g : Heap) (tk : Nat) (s : Shared) (Q : Flow → Shared → Prop) (E : Value → Shared → Prop)
    (he : isEdge e) (hA : A.length ≤ 4 + pre.length) (hB : B.length ≤ 4 + pre.length) (hpre : pre.length ≤ 3) (hp1 : ∃ v, p1.data = .cell v) (hp2 : ∃ v, p2.data = .cell v)
    (F : Fr h₀ L g u) (u1 : u (Str.ofString "mail") = some (.str (ml A e B) tm)) (u2 : u (Str.ofString "edge") = some (.str e te)) (u3 : u (Str.ofString "one") = some (.int (worth A) t1)) (u4 : u (Str.ofString "two") = some (.int (worth B) t2))
    (hu : ∀ z, z ≠ Str.ofString "deed" → z ≠ Str.ofString "mail" → z ≠ Str.ofString "edge" → z ≠ Str.ofString "one" → z ≠ Str.ofString "two" → z ≠ Str.ofString "again" → u z = m₀ z)
    (N : News h₀ L g ([(l, listOf vs.toArray 0), (L + 1 + 1 + 1 + 1 + 1, o5), (L + 1 + 1 + 1 + 1, o4), (L + 1 + 1 + 1, o3), (L + 1 + 1, p2), (L + 1, p1)] ++ own))
    (hoff : OwnOff own [l, L + 1 + 1 + 1 + 1 + 1, L + 1 + 1 + 1 + 1, L + 1 + 1 + 1, L + 1 + 1, L + 1]) (lt1 : AllLt l [(L + 1 + 1 + 1 + 1 + 1, o5), (L + 1 + 1 + 1 + 1, o4), (L + 1 + 1 + 1, o3), (L + 1 + 1, p2), (L + 1, p1)])
    (B0 : Below callerA h₀ [] h₀) (X : (Mine.hd.heap_39 w.params).In h₀) (T : Top p loose mean mg mb h₀) :
    wpAny (model PySem.Challenge.rw_wn0005_01.prog w) (callerA.deeper (lawE L fa cd)) (execs ((forBody (lawB.drop 10)).drop 1) (lawE L fa cd))
      (InvPostN h₀ L (KstS (dLed l vs L o3 o4 o5) dPs (fun _ => True) (Str.ofString "deed") [Str.ofString "again"] m₀ dP (pre ++ [n])) own [l, L + 1 + 1 + 1 + 1 + 1, L + 1 + 1 + 1 + 1, L + 1 + 1 + 1, L + 1 + 1, L + 1] s Q)
      (fun e s' => wpAny (model PySem.Challenge.rw_wn0005_01.prog w) (callerA.deeper (lawE L fa cd)) (leaving (lawE L fa cd) e) (fun _ s'' => E e s'') (fun e' s'' => E e' s'') s') { s with heap := g, toks := tk } := by
  k_with_none
  w_top off
  obtain ⟨v1, d1⟩ := hp1
  obtain ⟨v2, d2⟩ := hp2
  have hl1 : (sg A).length ≤ 7 := by rw [sg_len]; omega
  have hl2 : (sg B).length ≤ 7 := by rw [sg_len]; omega
  have hl3 := he.len
  have F0 := expose4 F u1 u2 u3 u4
  simp only [AllLt, and_true] at lt1
  simp only [List.cons_append, List.nil_append] at N
  clear F
  (with_unfolding_all show wpAny _ (callerA.deeper (envOfC (Str.ofString "law") (Scope.mk _ _ _ _ _) L fa cd)) (execs (_ :: _ :: _ :: []) (envOfC (Str.ofString "law") (Scope.mk _ _ _ _ _) L fa cd)) _ _ _)
  (try k_fold)
  (repeat' (first | (k_unfold; (try dsimp only)) | (k_end; (( (fail_if_success (with_reducible show wpAny _ _ (PySem.exec (Stmt.While _ _ _ _) _) _ _ _)); (fail_if_success (with_reducible show wpAny _ _ (PySem.exec (Stmt.For _ _ _ _ _) _) _ _ _)); (fail_if_success (with_reducible show wpAny _ _ (PySem.call (Value.ref _) _ _) _ _ _)); (fail_if_success (with_reducible show wpAny _ _ (PySem.pyIter _) _ _ _)); (fail_if_success (with_reducible show KswEnd _ _ _ _ _ _ _ _ _ _ _ _)); (fail_if_success (with_reducible show InvEndN _ _ _ _ _ _ _)))); wrow_close) | ((( (fail_if_success (with_reducible show wpAny _ _ (PySem.exec (Stmt.While _ _ _ _) _) _ _ _)); (fail_if_success (with_reducible show wpAny _ _ (PySem.exec (Stmt.For _ _ _ _ _) _) _ _ _)); (fail_if_success (with_reducible show wpAny _ _ (PySem.call (Value.ref _) _ _) _ _ _)); (fail_if_success (with_reducible show wpAny _ _ (PySem.pyIter _) _ _ _)); (fail_if_success (with_reducible show KswEnd _ _ _ _ _ _ _ _ _ _ _ _)); (fail_if_success (with_reducible show InvEndN _ _ _ _ _ _ _)))); walk1) | ((( (fail_if_success (with_reducible show wpAny _ _ (PySem.exec (Stmt.While _ _ _ _) _) _ _ _)); (fail_if_success (with_reducible show wpAny _ _ (PySem.exec (Stmt.For _ _ _ _ _) _) _ _ _)); (fail_if_success (with_reducible show wpAny _ _ (PySem.call (Value.ref _) _ _) _ _ _)); (fail_if_success (with_reducible show wpAny _ _ (PySem.pyIter _) _ _ _)); (fail_if_success (with_reducible show KswEnd _ _ _ _ _ _ _ _ _ _ _ _)); (fail_if_success (with_reducible show InvEndN _ _ _ _ _ _ _)))); dsimp only; (( (fail_if_success (with_reducible show wpAny _ _ (PySem.exec (Stmt.While _ _ _ _) _) _ _ _)); (fail_if_success (with_reducible show wpAny _ _ (PySem.exec (Stmt.For _ _ _ _ _) _) _ _ _)); (fail_if_success (with_reducible show wpAny _ _ (PySem.call (Value.ref _) _ _) _ _ _)); (fail_if_success (with_reducible show wpAny _ _ (PySem.pyIter _) _ _ _)); (fail_if_success (with_reducible show KswEnd _ _ _ _ _ _ _ _ _ _ _ _)); (fail_if_success (with_reducible show InvEndN _ _ _ _ _ _ _)))); walk1) | ((( (fail_if_success (with_reducible show wpAny _ _ (PySem.exec (Stmt.While _ _ _ _) _) _ _ _)); (fail_if_success (with_reducible show wpAny _ _ (PySem.exec (Stmt.For _ _ _ _ _) _) _ _ _)); (fail_if_success (with_reducible show wpAny _ _ (PySem.call (Value.ref _) _ _) _ _ _)); (fail_if_success (with_reducible show wpAny _ _ (PySem.pyIter _) _ _ _)); (fail_if_success (with_reducible show KswEnd _ _ _ _ _ _ _ _ _ _ _ _)); (fail_if_success (with_reducible show InvEndN _ _ _ _ _ _ _)))); leave1; walk_say "STEP leave1"; try dsimp only) | fail "no step"))
  (( k_dflt (refine' (rowC _ _ _ _ _ _ (by omega) _) _ _ _ _ _ _ _ _ _ _ _ _ _ _ _ _ _ _ ?k1u179 ?k2u179 ?k3u179 ?k4u179 ?k5u179 ?k6u179 ?k7u179 ?k8u179 ?k9u179); (case k1u179 => k_asm); (case k2u179 => k_asm); (case k3u179 => k_asm); (case k4u179 => k_asm); (case k5u179 => k_asm); (case k6u179 => first | exact rfl | assumption); (case k7u179 => ktr_room); (case k8u179 => ktr_units)))
  rintro _ g1 k1 ⟨q1, rfl⟩ F1 N1
  (repeat' (first | (k_unfold; (try dsimp only)) | (k_end; (( (fail_if_success (with_reducible show wpAny _ _ (PySem.exec (Stmt.While _ _ _ _) _) _ _ _)); (fail_if_success (with_reducible show wpAny _ _ (PySem.exec (Stmt.For _ _ _ _ _) _) _ _ _)); (fail_if_success (with_reducible show wpAny _ _ (PySem.call (Value.ref _) _ _) _ _ _)); (fail_if_success (with_reducible show wpAny _ _ (PySem.pyIter _) _ _ _)); (fail_if_success (with_reducible show KswEnd _ _ _ _ _ _ _ _ _ _ _ _)); (fail_if_success (with_reducible show InvEndN _ _ _ _ _ _ _)))); wrow_close) | ((( (fail_if_success (with_reducible show wpAny _ _ (PySem.exec (Stmt.While _ _ _ _) _) _ _ _)); (fail_if_success (with_reducible show wpAny _ _ (PySem.exec (Stmt.For _ _ _ _ _) _) _ _ _)); (fail_if_success (with_reducible show wpAny _ _ (PySem.call (Value.ref _) _ _) _ _ _)); (fail_if_success (with_reducible show wpAny _ _ (PySem.pyIter _) _ _ _)); (fail_if_success (with_reducible show KswEnd _ _ _ _ _ _ _ _ _ _ _ _)); (fail_if_success (with_reducible show InvEndN _ _ _ _ _ _ _)))); walk1) | ((( (fail_if_success (with_reducible show wpAny _ _ (PySem.exec (Stmt.While _ _ _ _) _) _ _ _)); (fail_if_success (with_reducible show wpAny _ _ (PySem.exec (Stmt.For _ _ _ _ _) _) _ _ _)); (fail_if_success (with_reducible show wpAny _ _ (PySem.call (Value.ref _) _ _) _ _ _)); (fail_if_success (with_reducible show wpAny _ _ (PySem.pyIter _) _ _ _)); (fail_if_success (with_reducible show KswEnd _ _ _ _ _ _ _ _ _ _ _ _)); (fail_if_success (with_reducible show InvEndN _ _ _ _ _ _ _)))); dsimp only; (( (fail_if_success (with_reducible show wpAny _ _ (PySem.exec (Stmt.While _ _ _ _) _) _ _ _)); (fail_if_success (with_reducible show wpAny _ _ (PySem.exec (Stmt.For _ _ _ _ _) _) _ _ _)); (fail_if_success (with_reducible show wpAny _ _ (PySem.call (Value.ref _) _ _) _ _ _)); (fail_if_success (with_reducible show wpAny _ _ (PySem.pyIter _) _ _ _)); (fail_if_success (with_reducible show KswEnd _ _ _ _ _ _ _ _ _ _ _ _)); (fail_if_success (with_reducible show InvEndN _ _ _ _ _ _ _)))); walk1) | ((( (fail_if_success (with_reducible show wpAny _ _ (PySem.exec (Stmt.While _ _ _ _) _) _ _ _)); (fail_if_success (with_reducible show wpAny _ _ (PySem.exec (Stmt.For _ _ _ _ _) _) _ _ _)); (fail_if_success (with_reducible show wpAny _ _ (PySem.call (Value.ref _) _ _) _ _ _)); (fail_if_success (with_reducible show wpAny _ _ (PySem.pyIter _) _ _ _)); (fail_if_success (with_reducible show KswEnd _ _ _ _ _ _ _ _ _ _ _ _)); (fail_if_success (with_reducible show InvEndN _ _ _ _ _ _ _)))); leave1; walk_say "STEP leave1"; try dsimp only) | fail "no step"))
  (( k_dflt (refine' (rowC _ _ _ _ _ _ (by omega) _) _ _ _ _ _ _ _ _ _ _ _ _ _ _ _ _ _ _ ?k1u180 ?k2u180 ?k3u180 ?k4u180 ?k5u180 ?k6u180 ?k7u180 ?k8u180 ?k9u180); (case k1u180 => k_asm); (case k2u180 => k_asm); (case k3u180 => k_asm); (case k4u180 => k_asm); (case k5u180 => k_asm); (case k6u180 => first | exact rfl | assumption); (case k7u180 => ktr_room); (case k8u180 => ktr_units)))
  rintro _ g2 k2 ⟨q2, rfl⟩ F2 N2
  (repeat' (first | (k_unfold; (try dsimp only)) | (k_end; (( (fail_if_success (with_reducible show wpAny _ _ (PySem.exec (Stmt.While _ _ _ _) _) _ _ _)); (fail_if_success (with_reducible show wpAny _ _ (PySem.exec (Stmt.For _ _ _ _ _) _) _ _ _)); (fail_if_success (with_reducible show wpAny _ _ (PySem.call (Value.ref _) _ _) _ _ _)); (fail_if_success (with_reducible show wpAny _ _ (PySem.pyIter _) _ _ _)); (fail_if_success (with_reducible show KswEnd _ _ _ _ _ _ _ _ _ _ _ _)); (fail_if_success (with_reducible show InvEndN _ _ _ _ _ _ _)))); wrow_close) | ((( (fail_if_success (with_reducible show wpAny _ _ (PySem.exec (Stmt.While _ _ _ _) _) _ _ _)); (fail_if_success (with_reducible show wpAny _ _ (PySem.exec (Stmt.For _ _ _ _ _) _) _ _ _)); (fail_if_success (with_reducible show wpAny _ _ (PySem.call (Value.ref _) _ _) _ _ _)); (fail_if_success (with_reducible show wpAny _ _ (PySem.pyIter _) _ _ _)); (fail_if_success (with_reducible show KswEnd _ _ _ _ _ _ _ _ _ _ _ _)); (fail_if_success (with_reducible show InvEndN _ _ _ _ _ _ _)))); walk1) | ((( (fail_if_success (with_reducible show wpAny _ _ (PySem.exec (Stmt.While _ _ _ _) _) _ _ _)); (fail_if_success (with_reducible show wpAny _ _ (PySem.exec (Stmt.For _ _ _ _ _) _) _ _ _)); (fail_if_success (with_reducible show wpAny _ _ (PySem.call (Value.ref _) _ _) _ _ _)); (fail_if_success (with_reducible show wpAny _ _ (PySem.pyIter _) _ _ _)); (fail_if_success (with_reducible show KswEnd _ _ _ _ _ _ _ _ _ _ _ _)); (fail_if_success (with_reducible show InvEndN _ _ _ _ _ _ _)))); dsimp only; (( (fail_if_success (with_reducible show wpAny _ _ (PySem.exec (Stmt.While _ _ _ _) _) _ _ _)); (fail_if_success (with_reducible show wpAny _ _ (PySem.exec (Stmt.For _ _ _ _ _) _) _ _ _)); (fail_if_success (with_reducible show wpAny _ _ (PySem.call (Value.ref _) _ _) _ _ _)); (fail_if_success (with_reducible show wpAny _ _ (PySem.pyIter _) _ _ _)); (fail_if_success (with_reducible show KswEnd _ _ _ _ _ _ _ _ _ _ _ _)); (fail_if_success (with_reducible show InvEndN _ _ _ _ _ _ _)))); walk1) | ((( (fail_if_success (with_reducible show wpAny _ _ (PySem.exec (Stmt.While _ _ _ _) _) _ _ _)); (fail_if_success (with_reducible show wpAny _ _ (PySem.exec (Stmt.For _ _ _ _ _) _) _ _ _)); (fail_if_success (with_reducible show wpAny _ _ (PySem.call (Value.ref _) _ _) _ _ _)); (fail_if_success (with_reducible show wpAny _ _ (PySem.pyIter _) _ _ _)); (fail_if_success (with_reducible show KswEnd _ _ _ _ _ _ _ _ _ _ _ _)); (fail_if_success (with_reducible show InvEndN _ _ _ _ _ _ _)))); leave1; walk_say "STEP leave1"; try dsimp only) | fail "no step"))
  · exact absurd (by assumption) (same_text (x := ml A e B) rfl)
  · have hlen : (pre ++ [n]).length - 1 = pre.length := by rw [List.length_append, List.length_singleton]; omega
    refine kst_end (A, B, e, tm, te, t1, t2, _, _) (by k_asm) (by k_asm) (fun p hp => ?_) (fun p hp => ?_) rfl trivial (by kst_all) ?_ ⟨he, ?_, ?_, ⟨_, by assumption⟩, ⟨_, by assumption⟩⟩
    · exact List.mem_append_left own hp
    · exact List.mem_append_right (dLed l vs L o3 o4 o5 (A, B, e, tm, te, t1, t2, _, _)) hp
    · intro z h1 h2 h3
      have a1 : z ≠ Str.ofString "mail" := h2 _ (.head _)
      have a2 : z ≠ Str.ofString "edge" := h2 _ (.tail _ (.head _))
      have a3 : z ≠ Str.ofString "one" := h2 _ (.tail _ (.tail _ (.head _)))
      have a4 : z ≠ Str.ofString "two" := h2 _ (.tail _ (.tail _ (.tail _ (.head _))))
      have a5 : z ≠ Str.ofString "again" := by
        intro q
        rw [q] at h3
        simp at h3
      simp only [if_neg a1, if_neg a2, if_neg a3, if_neg a4]
      exact hu z h1 a1 a2 a3 a4 a5
    · show A.length ≤ 4 + ((pre ++ [n]).length - 1)
      rw [hlen]; exact hA
    · show B.length ≤ 4 + ((pre ++ [n]).length - 1)
      rw [hlen]; exact hB
end Mine
end
section
open PySem PySem.W PyProof.Rows PySem.Calls
namespace Mine
set_option maxRecDepth 100000
set_option maxHeartbeats 8000000 in
theorem turn_wp (w : World) (p : Program) (loose : List Str) (mean : ExcName → Option Value) (mg mb : Str → Option Value) (A B : List Bool) (e : Str) (tm te t1 t2 : CTok) (p1 p2 o3 o4 o5 : Obj) (l : Addr) (vs : List Value) (pre : List Int) (n : Int) (tn : CTok)
    (h₀ : Heap) (L fa : Addr) (cd : Value) (u m₀ : Str → Option Value) (own : List (Addr × Obj)) (s : Shared) (Q : Flow → Shared → Prop) (E : Value → Shared → Prop)
    (hP : dP pre (A, B, e, tm, te, t1, t2, p1, p2)) (hpre : pre.length ≤ 3) (hn : (n = 0 ∧ pre = []) ∨ (1 ≤ pre.length ∧ 1 ≤ n ∧ n ≤ 3))
    (F : Fr h₀ L s.heap (fun y => if y = Str.ofString "deed" then some (.int n tn) else if y = Str.ofString "mail" then some (.str (ml A e B) tm) else if y = Str.ofString "edge" then some (.str e te) else if y = Str.ofString "one" then some (.int (worth A) t1) else if y = Str.ofString "two" then some (.int (worth B) t2) else if [Str.ofString "again"].contains y = true then u y else m₀ y))
    (N : News h₀ L s.heap ([(l, listOf vs.toArray 0), (L + 1 + 1 + 1 + 1 + 1, o5), (L + 1 + 1 + 1 + 1, o4), (L + 1 + 1 + 1, o3), (L + 1 + 1, p2), (L + 1, p1)] ++ own))
    (hoff : OwnOff own [l, L + 1 + 1 + 1 + 1 + 1, L + 1 + 1 + 1 + 1, L + 1 + 1 + 1, L + 1 + 1, L + 1]) (lt1 : AllLt l [(L + 1 + 1 + 1 + 1 + 1, o5), (L + 1 + 1 + 1 + 1, o4), (L + 1 + 1 + 1, o3), (L + 1 + 1, p2), (L + 1, p1)])
    (B0 : Below callerA h₀ [] h₀) (X : (Mine.hd.heap_39 w.params).In h₀) (T : Top p loose mean mg mb h₀) :
    wpAny (model PySem.Challenge.rw_wn0005_01.prog w) (callerA.deeper (lawE L fa cd)) (execs (forBody (lawB.drop 10)) (lawE L fa cd))
      (InvPostN h₀ L (KstS (dLed l vs L o3 o4 o5) dPs (fun _ => True) (Str.ofString "deed") [Str.ofString "again"] m₀ dP (pre ++ [n])) own [l, L + 1 + 1 + 1 + 1 + 1, L + 1 + 1 + 1 + 1, L + 1 + 1 + 1, L + 1 + 1, L + 1] s Q)
      (fun e s' => wpAny (model PySem.Challenge.rw_wn0005_01.prog w) (callerA.deeper (lawE L fa cd)) (leaving (lawE L fa cd) e) (fun _ s'' => E e s'') (fun e' s'' => E e' s'') s') s := by
  k_with_none
  w_top off
  obtain ⟨he, hA, hB, ⟨q1, d1⟩, ⟨q2, d2⟩⟩ := hP
  dsimp only at he hA hB d1 d2
  have lt1' := lt1
  simp only [AllLt, and_true] at lt1
  have hpl : n = 3 → 1 ≤ pre.length := fun q => hn.elim (fun r => by omega) (fun r => r.1)
  have hnr : 0 ≤ n ∧ n ≤ 3 := hn.elim (fun r => by omega) (fun r => by omega)
  clear hn
  simp only [List.cons_append, List.nil_append] at N
  have hA7 : A.length ≤ 6 := by omega
  have hB7 : B.length ≤ 6 := by omega
  (with_unfolding_all show wpAny _ (callerA.deeper (envOfC (Str.ofString "law") (Scope.mk _ _ _ _ _) L fa cd)) (execs (_ :: _ :: _ :: _ :: []) (envOfC (Str.ofString "law") (Scope.mk _ _ _ _ _) L fa cd)) _ _ _)
  (try k_fold)
  (repeat' (first | (k_unfold; (try dsimp only)) | (k_end; (( (fail_if_success (with_reducible show wpAny _ _ (PySem.exec (Stmt.While _ _ _ _) _) _ _ _)); (fail_if_success (with_reducible show wpAny _ _ (PySem.exec (Stmt.For _ _ _ _ _) _) _ _ _)); (fail_if_success (with_reducible show wpAny _ _ (PySem.call (Value.ref _) _ _) _ _ _)); (fail_if_success (with_reducible show wpAny _ _ (PySem.pyIter _) _ _ _)); (fail_if_success (with_reducible show KswEnd _ _ _ _ _ _ _ _ _ _ _ _)); (fail_if_success (with_reducible show InvEndN _ _ _ _ _ _ _)))); wrow_close) | ((( (fail_if_success (with_reducible show wpAny _ _ (PySem.exec (Stmt.While _ _ _ _) _) _ _ _)); (fail_if_success (with_reducible show wpAny _ _ (PySem.exec (Stmt.For _ _ _ _ _) _) _ _ _)); (fail_if_success (with_reducible show wpAny _ _ (PySem.call (Value.ref _) _ _) _ _ _)); (fail_if_success (with_reducible show wpAny _ _ (PySem.pyIter _) _ _ _)); (fail_if_success (with_reducible show KswEnd _ _ _ _ _ _ _ _ _ _ _ _)); (fail_if_success (with_reducible show InvEndN _ _ _ _ _ _ _)))); walk1) | ((( (fail_if_success (with_reducible show wpAny _ _ (PySem.exec (Stmt.While _ _ _ _) _) _ _ _)); (fail_if_success (with_reducible show wpAny _ _ (PySem.exec (Stmt.For _ _ _ _ _) _) _ _ _)); (fail_if_success (with_reducible show wpAny _ _ (PySem.call (Value.ref _) _ _) _ _ _)); (fail_if_success (with_reducible show wpAny _ _ (PySem.pyIter _) _ _ _)); (fail_if_success (with_reducible show KswEnd _ _ _ _ _ _ _ _ _ _ _ _)); (fail_if_success (with_reducible show InvEndN _ _ _ _ _ _ _)))); dsimp only; (( (fail_if_success (with_reducible show wpAny _ _ (PySem.exec (Stmt.While _ _ _ _) _) _ _ _)); (fail_if_success (with_reducible show wpAny _ _ (PySem.exec (Stmt.For _ _ _ _ _) _) _ _ _)); (fail_if_success (with_reducible show wpAny _ _ (PySem.call (Value.ref _) _ _) _ _ _)); (fail_if_success (with_reducible show wpAny _ _ (PySem.pyIter _) _ _ _)); (fail_if_success (with_reducible show KswEnd _ _ _ _ _ _ _ _ _ _ _ _)); (fail_if_success (with_reducible show InvEndN _ _ _ _ _ _ _)))); walk1) | ((( (fail_if_success (with_reducible show wpAny _ _ (PySem.exec (Stmt.While _ _ _ _) _) _ _ _)); (fail_if_success (with_reducible show wpAny _ _ (PySem.exec (Stmt.For _ _ _ _ _) _) _ _ _)); (fail_if_success (with_reducible show wpAny _ _ (PySem.call (Value.ref _) _ _) _ _ _)); (fail_if_success (with_reducible show wpAny _ _ (PySem.pyIter _) _ _ _)); (fail_if_success (with_reducible show KswEnd _ _ _ _ _ _ _ _ _ _ _ _)); (fail_if_success (with_reducible show InvEndN _ _ _ _ _ _ _)))); leave1; walk_say "STEP leave1"; try dsimp only) | fail "no step"))
  have dA := dot_ex hA7
  have dB := dot_ex hB7
  have dA1 : 0 < worth A → worth (dot A) = worth A + 256 := fun q => by rw [dA, if_pos q]
  have dA2 : ¬ 0 < worth A → worth (dot A) = worth A + 0 := fun q => by rw [dA, if_neg q]
  have dB1 : 0 < worth B → worth (dot B) = worth B + 256 := fun q => by rw [dB, if_pos q]
  have dB2 : ¬ 0 < worth B → worth (dot B) = worth B + 0 := fun q => by rw [dB, if_neg q]
  clear dA dB
  have lA := dot_len A
  have lB := dot_len B
  · (( k_dflt (refine' (quoteC _ _ _ _ _ _ he (Nat.le_trans hA7 (by decide)) (Nat.le_trans hB7 (by decide)) _) _ _ _ _ _ _ _ _ _ _ _ _ _ _ _ _ _ _ ?k1u199 ?k2u199 ?k3u199 ?k4u199 ?k5u199 ?k6u199 ?k7u199 ?k8u199 ?k9u199); (case k1u199 => k_asm); (case k2u199 => k_asm); (case k3u199 => k_asm); (case k4u199 => k_asm); (case k5u199 => k_asm); (case k6u199 => first | exact rfl | assumption); (case k7u199 => ktr_room); (case k8u199 => ktr_units)))
    rintro _ g1 k1 ⟨tq, rfl⟩ F1 N1
    (repeat' (first | (k_unfold; (try dsimp only)) | (k_end; (( (( (fail_if_success (with_reducible show wpAny _ _ (PySem.exec (Stmt.While _ _ _ _) _) _ _ _)); (fail_if_success (with_reducible show wpAny _ _ (PySem.exec (Stmt.For _ _ _ _ _) _) _ _ _)); (fail_if_success (with_reducible show wpAny _ _ (PySem.call (Value.ref _) _ _) _ _ _)); (fail_if_success (with_reducible show wpAny _ _ (PySem.pyIter _) _ _ _)); (fail_if_success (with_reducible show KswEnd _ _ _ _ _ _ _ _ _ _ _ _)); (fail_if_success (with_reducible show InvEndN _ _ _ _ _ _ _)))); (fail_if_success (with_reducible show wpAny _ _ (PySem.execs (Stmt.Assign [Expr.Name (Str.ofString "here") _] _ _ :: _) _) _ _ _)))); wrow_close) | ((( (( (fail_if_success (with_reducible show wpAny _ _ (PySem.exec (Stmt.While _ _ _ _) _) _ _ _)); (fail_if_success (with_reducible show wpAny _ _ (PySem.exec (Stmt.For _ _ _ _ _) _) _ _ _)); (fail_if_success (with_reducible show wpAny _ _ (PySem.call (Value.ref _) _ _) _ _ _)); (fail_if_success (with_reducible show wpAny _ _ (PySem.pyIter _) _ _ _)); (fail_if_success (with_reducible show KswEnd _ _ _ _ _ _ _ _ _ _ _ _)); (fail_if_success (with_reducible show InvEndN _ _ _ _ _ _ _)))); (fail_if_success (with_reducible show wpAny _ _ (PySem.execs (Stmt.Assign [Expr.Name (Str.ofString "here") _] _ _ :: _) _) _ _ _)))); walk1) | ((( (( (fail_if_success (with_reducible show wpAny _ _ (PySem.exec (Stmt.While _ _ _ _) _) _ _ _)); (fail_if_success (with_reducible show wpAny _ _ (PySem.exec (Stmt.For _ _ _ _ _) _) _ _ _)); (fail_if_success (with_reducible show wpAny _ _ (PySem.call (Value.ref _) _ _) _ _ _)); (fail_if_success (with_reducible show wpAny _ _ (PySem.pyIter _) _ _ _)); (fail_if_success (with_reducible show KswEnd _ _ _ _ _ _ _ _ _ _ _ _)); (fail_if_success (with_reducible show InvEndN _ _ _ _ _ _ _)))); (fail_if_success (with_reducible show wpAny _ _ (PySem.execs (Stmt.Assign [Expr.Name (Str.ofString "here") _] _ _ :: _) _) _ _ _)))); dsimp only; (( (( (fail_if_success (with_reducible show wpAny _ _ (PySem.exec (Stmt.While _ _ _ _) _) _ _ _)); (fail_if_success (with_reducible show wpAny _ _ (PySem.exec (Stmt.For _ _ _ _ _) _) _ _ _)); (fail_if_success (with_reducible show wpAny _ _ (PySem.call (Value.ref _) _ _) _ _ _)); (fail_if_success (with_reducible show wpAny _ _ (PySem.pyIter _) _ _ _)); (fail_if_success (with_reducible show KswEnd _ _ _ _ _ _ _ _ _ _ _ _)); (fail_if_success (with_reducible show InvEndN _ _ _ _ _ _ _)))); (fail_if_success (with_reducible show wpAny _ _ (PySem.execs (Stmt.Assign [Expr.Name (Str.ofString "here") _] _ _ :: _) _) _ _ _)))); walk1) | ((( (( (fail_if_success (with_reducible show wpAny _ _ (PySem.exec (Stmt.While _ _ _ _) _) _ _ _)); (fail_if_success (with_reducible show wpAny _ _ (PySem.exec (Stmt.For _ _ _ _ _) _) _ _ _)); (fail_if_success (with_reducible show wpAny _ _ (PySem.call (Value.ref _) _ _) _ _ _)); (fail_if_success (with_reducible show wpAny _ _ (PySem.pyIter _) _ _ _)); (fail_if_success (with_reducible show KswEnd _ _ _ _ _ _ _ _ _ _ _ _)); (fail_if_success (with_reducible show InvEndN _ _ _ _ _ _ _)))); (fail_if_success (with_reducible show wpAny _ _ (PySem.execs (Stmt.Assign [Expr.Name (Str.ofString "here") _] _ _ :: _) _) _ _ _)))); leave1; walk_say "STEP leave1"; try dsimp only) | fail "no step"))
    all_goals
      refine rest_wp w p loose mean mg mb (dot A) (dot B) (Str.ofString "\r\n") _ _ _ _ p1 p2 o3 o4 o5 l vs pre n h₀ L fa cd _ m₀ own _ _ s Q E (Or.inr (Or.inl rfl)) (by omega) (by omega) hpre ⟨_, d1⟩ ⟨_, d2⟩ (by k_asm) (by with_unfolding_all rfl) (by with_unfolding_all rfl)
        (by first | (rw [dA1 (by assumption)]; with_unfolding_all rfl) | (rw [dA2 (by assumption)]; with_unfolding_all rfl))
        (by first | (rw [dB1 (by assumption)]; with_unfolding_all rfl) | (rw [dB2 (by assumption)]; with_unfolding_all rfl))
        (by intro z a0 a1 a2 a3 a4 a5; simp [a0, a1, a2, a3, a4, a5]) (by k_asm) hoff lt1' B0 X T
  · have hn2 : 0 ≤ n ∧ n ≤ 2 := by omega
    (( k_dflt (refine' (stripI _ _ _ _ _ _ he (Nat.le_trans hA7 (by decide)) (Nat.le_trans hB7 (by decide)) hn2.1 hn2.2 _ _) _ _ _ _ _ _ _ _ _ _ _ _ _ _ _ _ _ _ ?k1u200 ?k2u200 ?k3u200 ?k4u200 ?k5u200 ?k6u200 ?k7u200 ?k8u200 ?k9u200); (case k1u200 => k_asm); (case k2u200 => k_asm); (case k3u200 => k_asm); (case k4u200 => k_asm); (case k5u200 => k_asm); (case k6u200 => first | exact rfl | assumption); (case k7u200 => ktr_room); (case k8u200 => ktr_units)))
    rintro _ g1 k1 ⟨tq, rfl⟩ F1 N1
    (repeat' (first | (k_unfold; (try dsimp only)) | (k_end; (( (( (fail_if_success (with_reducible show wpAny _ _ (PySem.exec (Stmt.While _ _ _ _) _) _ _ _)); (fail_if_success (with_reducible show wpAny _ _ (PySem.exec (Stmt.For _ _ _ _ _) _) _ _ _)); (fail_if_success (with_reducible show wpAny _ _ (PySem.call (Value.ref _) _ _) _ _ _)); (fail_if_success (with_reducible show wpAny _ _ (PySem.pyIter _) _ _ _)); (fail_if_success (with_reducible show KswEnd _ _ _ _ _ _ _ _ _ _ _ _)); (fail_if_success (with_reducible show InvEndN _ _ _ _ _ _ _)))); (fail_if_success (with_reducible show wpAny _ _ (PySem.execs (Stmt.Assign [Expr.Name (Str.ofString "here") _] _ _ :: _) _) _ _ _)))); wrow_close) | ((( (( (fail_if_success (with_reducible show wpAny _ _ (PySem.exec (Stmt.While _ _ _ _) _) _ _ _)); (fail_if_success (with_reducible show wpAny _ _ (PySem.exec (Stmt.For _ _ _ _ _) _) _ _ _)); (fail_if_success (with_reducible show wpAny _ _ (PySem.call (Value.ref _) _ _) _ _ _)); (fail_if_success (with_reducible show wpAny _ _ (PySem.pyIter _) _ _ _)); (fail_if_success (with_reducible show KswEnd _ _ _ _ _ _ _ _ _ _ _ _)); (fail_if_success (with_reducible show InvEndN _ _ _ _ _ _ _)))); (fail_if_success (with_reducible show wpAny _ _ (PySem.execs (Stmt.Assign [Expr.Name (Str.ofString "here") _] _ _ :: _) _) _ _ _)))); walk1) | ((( (( (fail_if_success (with_reducible show wpAny _ _ (PySem.exec (Stmt.While _ _ _ _) _) _ _ _)); (fail_if_success (with_reducible show wpAny _ _ (PySem.exec (Stmt.For _ _ _ _ _) _) _ _ _)); (fail_if_success (with_reducible show wpAny _ _ (PySem.call (Value.ref _) _ _) _ _ _)); (fail_if_success (with_reducible show wpAny _ _ (PySem.pyIter _) _ _ _)); (fail_if_success (with_reducible show KswEnd _ _ _ _ _ _ _ _ _ _ _ _)); (fail_if_success (with_reducible show InvEndN _ _ _ _ _ _ _)))); (fail_if_success (with_reducible show wpAny _ _ (PySem.execs (Stmt.Assign [Expr.Name (Str.ofString "here") _] _ _ :: _) _) _ _ _)))); dsimp only; (( (( (fail_if_success (with_reducible show wpAny _ _ (PySem.exec (Stmt.While _ _ _ _) _) _ _ _)); (fail_if_success (with_reducible show wpAny _ _ (PySem.exec (Stmt.For _ _ _ _ _) _) _ _ _)); (fail_if_success (with_reducible show wpAny _ _ (PySem.call (Value.ref _) _ _) _ _ _)); (fail_if_success (with_reducible show wpAny _ _ (PySem.pyIter _) _ _ _)); (fail_if_success (with_reducible show KswEnd _ _ _ _ _ _ _ _ _ _ _ _)); (fail_if_success (with_reducible show InvEndN _ _ _ _ _ _ _)))); (fail_if_success (with_reducible show wpAny _ _ (PySem.execs (Stmt.Assign [Expr.Name (Str.ofString "here") _] _ _ :: _) _) _ _ _)))); walk1) | ((( (( (fail_if_success (with_reducible show wpAny _ _ (PySem.exec (Stmt.While _ _ _ _) _) _ _ _)); (fail_if_success (with_reducible show wpAny _ _ (PySem.exec (Stmt.For _ _ _ _ _) _) _ _ _)); (fail_if_success (with_reducible show wpAny _ _ (PySem.call (Value.ref _) _ _) _ _ _)); (fail_if_success (with_reducible show wpAny _ _ (PySem.pyIter _) _ _ _)); (fail_if_success (with_reducible show KswEnd _ _ _ _ _ _ _ _ _ _ _ _)); (fail_if_success (with_reducible show InvEndN _ _ _ _ _ _ _)))); (fail_if_success (with_reducible show wpAny _ _ (PySem.execs (Stmt.Assign [Expr.Name (Str.ofString "here") _] _ _ :: _) _) _ _ _)))); leave1; walk_say "STEP leave1"; try dsimp only) | fail "no step"))
    (( (rename Fr _ _ _ _ => lF'); (with_unfolding_all refine' For_invVF lF' ?k1u205 ?k2u205 ?_); (case k1u205 => exact rfl); (case k2u205 => exact rfl)))
    (repeat' (first | (k_unfold; (try dsimp only)) | (k_end; (( (( (fail_if_success (with_reducible show wpAny _ _ (PySem.exec (Stmt.While _ _ _ _) _) _ _ _)); (fail_if_success (with_reducible show wpAny _ _ (PySem.exec (Stmt.For _ _ _ _ _) _) _ _ _)); (fail_if_success (with_reducible show wpAny _ _ (PySem.call (Value.ref _) _ _) _ _ _)); (fail_if_success (with_reducible show wpAny _ _ (PySem.pyIter _) _ _ _)); (fail_if_success (with_reducible show KswEnd _ _ _ _ _ _ _ _ _ _ _ _)); (fail_if_success (with_reducible show InvEndN _ _ _ _ _ _ _)))); (fail_if_success (with_reducible show wpAny _ _ (PySem.execs (Stmt.Assign [Expr.Name (Str.ofString "here") _] _ _ :: _) _) _ _ _)))); wrow_close) | ((( (( (fail_if_success (with_reducible show wpAny _ _ (PySem.exec (Stmt.While _ _ _ _) _) _ _ _)); (fail_if_success (with_reducible show wpAny _ _ (PySem.exec (Stmt.For _ _ _ _ _) _) _ _ _)); (fail_if_success (with_reducible show wpAny _ _ (PySem.call (Value.ref _) _ _) _ _ _)); (fail_if_success (with_reducible show wpAny _ _ (PySem.pyIter _) _ _ _)); (fail_if_success (with_reducible show KswEnd _ _ _ _ _ _ _ _ _ _ _ _)); (fail_if_success (with_reducible show InvEndN _ _ _ _ _ _ _)))); (fail_if_success (with_reducible show wpAny _ _ (PySem.execs (Stmt.Assign [Expr.Name (Str.ofString "here") _] _ _ :: _) _) _ _ _)))); walk1) | ((( (( (fail_if_success (with_reducible show wpAny _ _ (PySem.exec (Stmt.While _ _ _ _) _) _ _ _)); (fail_if_success (with_reducible show wpAny _ _ (PySem.exec (Stmt.For _ _ _ _ _) _) _ _ _)); (fail_if_success (with_reducible show wpAny _ _ (PySem.call (Value.ref _) _ _) _ _ _)); (fail_if_success (with_reducible show wpAny _ _ (PySem.pyIter _) _ _ _)); (fail_if_success (with_reducible show KswEnd _ _ _ _ _ _ _ _ _ _ _ _)); (fail_if_success (with_reducible show InvEndN _ _ _ _ _ _ _)))); (fail_if_success (with_reducible show wpAny _ _ (PySem.execs (Stmt.Assign [Expr.Name (Str.ofString "here") _] _ _ :: _) _) _ _ _)))); dsimp only; (( (( (fail_if_success (with_reducible show wpAny _ _ (PySem.exec (Stmt.While _ _ _ _) _) _ _ _)); (fail_if_success (with_reducible show wpAny _ _ (PySem.exec (Stmt.For _ _ _ _ _) _) _ _ _)); (fail_if_success (with_reducible show wpAny _ _ (PySem.call (Value.ref _) _ _) _ _ _)); (fail_if_success (with_reducible show wpAny _ _ (PySem.pyIter _) _ _ _)); (fail_if_success (with_reducible show KswEnd _ _ _ _ _ _ _ _ _ _ _ _)); (fail_if_success (with_reducible show InvEndN _ _ _ _ _ _ _)))); (fail_if_success (with_reducible show wpAny _ _ (PySem.execs (Stmt.Assign [Expr.Name (Str.ofString "here") _] _ _ :: _) _) _ _ _)))); walk1) | ((( (( (fail_if_success (with_reducible show wpAny _ _ (PySem.exec (Stmt.While _ _ _ _) _) _ _ _)); (fail_if_success (with_reducible show wpAny _ _ (PySem.exec (Stmt.For _ _ _ _ _) _) _ _ _)); (fail_if_success (with_reducible show wpAny _ _ (PySem.call (Value.ref _) _ _) _ _ _)); (fail_if_success (with_reducible show wpAny _ _ (PySem.pyIter _) _ _ _)); (fail_if_success (with_reducible show KswEnd _ _ _ _ _ _ _ _ _ _ _ _)); (fail_if_success (with_reducible show InvEndN _ _ _ _ _ _ _)))); (fail_if_success (with_reducible show wpAny _ _ (PySem.execs (Stmt.Assign [Expr.Name (Str.ofString "here") _] _ _ :: _) _) _ _ _)))); leave1; walk_say "STEP leave1"; try dsimp only) | fail "no step"))
    (rename IsRange _ _ _ _ _ _ _ _ => lR)
    (rename Fr _ _ _ _ => lF')
    (rename News _ _ _ _ => lN')
    (with_unfolding_all refine' kst_range (σ := List Bool × CTok) (fun _ => [(l, listOf vs.toArray 0), (L + 1 + 1 + 1 + 1 + 1, o5), (L + 1 + 1 + 1 + 1, o4), (L + 1 + 1 + 1, o3), (L + 1 + 1, p2), (L + 1, p1)] ++ own) (fun c => [(Str.ofString "one", .int (worth c.1) c.2)]) (fun _ => True) [] (fun pre c => c.1 = bareN pre.length A) (A, _) ?hh lR ?hs (rangeSize_nat 0 n) lF' lN' trivial ?hk rfl ?turn ?done)
    case hh => with_unfolding_all rfl
    case hs => exact small_one (by omega) (by omega) (by omega) (by omega)
    case hk => kst_all
    case turn =>
      clear lF' lN'
      rintro ⟨A', t1'⟩ pre' k tk' u2 h tk2 own2 hk hlt hoff2 - hp lF lN
      dsimp only [kstB] at lF hp lN
      (repeat' (first | (k_unfold; (try dsimp only)) | (k_end; (( (fail_if_success (with_reducible show wpAny _ _ (PySem.exec (Stmt.While _ _ _ _) _) _ _ _)); (fail_if_success (with_reducible show wpAny _ _ (PySem.exec (Stmt.For _ _ _ _ _) _) _ _ _)); (fail_if_success (with_reducible show wpAny _ _ (PySem.call (Value.ref _) _ _) _ _ _)); (fail_if_success (with_reducible show wpAny _ _ (PySem.pyIter _) _ _ _)); (fail_if_success (with_reducible show KswEnd _ _ _ _ _ _ _ _ _ _ _ _)); (fail_if_success (with_reducible show InvEndN _ _ _ _ _ _ _)))); wrow_close) | ((( (fail_if_success (with_reducible show wpAny _ _ (PySem.exec (Stmt.While _ _ _ _) _) _ _ _)); (fail_if_success (with_reducible show wpAny _ _ (PySem.exec (Stmt.For _ _ _ _ _) _) _ _ _)); (fail_if_success (with_reducible show wpAny _ _ (PySem.call (Value.ref _) _ _) _ _ _)); (fail_if_success (with_reducible show wpAny _ _ (PySem.pyIter _) _ _ _)); (fail_if_success (with_reducible show KswEnd _ _ _ _ _ _ _ _ _ _ _ _)); (fail_if_success (with_reducible show InvEndN _ _ _ _ _ _ _)))); walk1) | ((( (fail_if_success (with_reducible show wpAny _ _ (PySem.exec (Stmt.While _ _ _ _) _) _ _ _)); (fail_if_success (with_reducible show wpAny _ _ (PySem.exec (Stmt.For _ _ _ _ _) _) _ _ _)); (fail_if_success (with_reducible show wpAny _ _ (PySem.call (Value.ref _) _ _) _ _ _)); (fail_if_success (with_reducible show wpAny _ _ (PySem.pyIter _) _ _ _)); (fail_if_success (with_reducible show KswEnd _ _ _ _ _ _ _ _ _ _ _ _)); (fail_if_success (with_reducible show InvEndN _ _ _ _ _ _ _)))); dsimp only; (( (fail_if_success (with_reducible show wpAny _ _ (PySem.exec (Stmt.While _ _ _ _) _) _ _ _)); (fail_if_success (with_reducible show wpAny _ _ (PySem.exec (Stmt.For _ _ _ _ _) _) _ _ _)); (fail_if_success (with_reducible show wpAny _ _ (PySem.call (Value.ref _) _ _) _ _ _)); (fail_if_success (with_reducible show wpAny _ _ (PySem.pyIter _) _ _ _)); (fail_if_success (with_reducible show KswEnd _ _ _ _ _ _ _ _ _ _ _ _)); (fail_if_success (with_reducible show InvEndN _ _ _ _ _ _ _)))); walk1) | ((( (fail_if_success (with_reducible show wpAny _ _ (PySem.exec (Stmt.While _ _ _ _) _) _ _ _)); (fail_if_success (with_reducible show wpAny _ _ (PySem.exec (Stmt.For _ _ _ _ _) _) _ _ _)); (fail_if_success (with_reducible show wpAny _ _ (PySem.call (Value.ref _) _ _) _ _ _)); (fail_if_success (with_reducible show wpAny _ _ (PySem.pyIter _) _ _ _)); (fail_if_success (with_reducible show KswEnd _ _ _ _ _ _ _ _ _ _ _ _)); (fail_if_success (with_reducible show InvEndN _ _ _ _ _ _ _)))); leave1; walk_say "STEP leave1"; try dsimp only) | fail "no step"))
      have hl' := bareN_len pre'.length A
      have hA' : A'.length ≤ 7 := by rw [hp]; omega
      (( k_dflt (refine' (baredC _ _ _ _ _ _ hA' _) _ _ _ _ _ _ _ _ _ _ _ _ _ _ _ _ _ _ ?k1u201 ?k2u201 ?k3u201 ?k4u201 ?k5u201 ?k6u201 ?k7u201 ?k8u201 ?k9u201); (case k1u201 => k_asm); (case k2u201 => k_asm); (case k3u201 => k_asm); (case k4u201 => k_asm); (case k5u201 => k_asm); (case k6u201 => first | exact rfl | assumption); (case k7u201 => ktr_room); (case k8u201 => ktr_units)))
      rintro _ g3 k3 ⟨t3, rfl⟩ F3 N3
      (repeat' (first | (k_unfold; (try dsimp only)) | (k_end; (( (fail_if_success (with_reducible show wpAny _ _ (PySem.exec (Stmt.While _ _ _ _) _) _ _ _)); (fail_if_success (with_reducible show wpAny _ _ (PySem.exec (Stmt.For _ _ _ _ _) _) _ _ _)); (fail_if_success (with_reducible show wpAny _ _ (PySem.call (Value.ref _) _ _) _ _ _)); (fail_if_success (with_reducible show wpAny _ _ (PySem.pyIter _) _ _ _)); (fail_if_success (with_reducible show KswEnd _ _ _ _ _ _ _ _ _ _ _ _)); (fail_if_success (with_reducible show InvEndN _ _ _ _ _ _ _)))); wrow_close) | ((( (fail_if_success (with_reducible show wpAny _ _ (PySem.exec (Stmt.While _ _ _ _) _) _ _ _)); (fail_if_success (with_reducible show wpAny _ _ (PySem.exec (Stmt.For _ _ _ _ _) _) _ _ _)); (fail_if_success (with_reducible show wpAny _ _ (PySem.call (Value.ref _) _ _) _ _ _)); (fail_if_success (with_reducible show wpAny _ _ (PySem.pyIter _) _ _ _)); (fail_if_success (with_reducible show KswEnd _ _ _ _ _ _ _ _ _ _ _ _)); (fail_if_success (with_reducible show InvEndN _ _ _ _ _ _ _)))); walk1) | ((( (fail_if_success (with_reducible show wpAny _ _ (PySem.exec (Stmt.While _ _ _ _) _) _ _ _)); (fail_if_success (with_reducible show wpAny _ _ (PySem.exec (Stmt.For _ _ _ _ _) _) _ _ _)); (fail_if_success (with_reducible show wpAny _ _ (PySem.call (Value.ref _) _ _) _ _ _)); (fail_if_success (with_reducible show wpAny _ _ (PySem.pyIter _) _ _ _)); (fail_if_success (with_reducible show KswEnd _ _ _ _ _ _ _ _ _ _ _ _)); (fail_if_success (with_reducible show InvEndN _ _ _ _ _ _ _)))); dsimp only; (( (fail_if_success (with_reducible show wpAny _ _ (PySem.exec (Stmt.While _ _ _ _) _) _ _ _)); (fail_if_success (with_reducible show wpAny _ _ (PySem.exec (Stmt.For _ _ _ _ _) _) _ _ _)); (fail_if_success (with_reducible show wpAny _ _ (PySem.call (Value.ref _) _ _) _ _ _)); (fail_if_success (with_reducible show wpAny _ _ (PySem.pyIter _) _ _ _)); (fail_if_success (with_reducible show KswEnd _ _ _ _ _ _ _ _ _ _ _ _)); (fail_if_success (with_reducible show InvEndN _ _ _ _ _ _ _)))); walk1) | ((( (fail_if_success (with_reducible show wpAny _ _ (PySem.exec (Stmt.While _ _ _ _) _) _ _ _)); (fail_if_success (with_reducible show wpAny _ _ (PySem.exec (Stmt.For _ _ _ _ _) _) _ _ _)); (fail_if_success (with_reducible show wpAny _ _ (PySem.call (Value.ref _) _ _) _ _ _)); (fail_if_success (with_reducible show wpAny _ _ (PySem.pyIter _) _ _ _)); (fail_if_success (with_reducible show KswEnd _ _ _ _ _ _ _ _ _ _ _ _)); (fail_if_success (with_reducible show InvEndN _ _ _ _ _ _ _)))); leave1; walk_say "STEP leave1"; try dsimp only) | fail "no step"))
      refine kst_end (bare A', _) (by k_asm) (by k_asm) (fun p hp => List.mem_append_left _ hp) (fun p hp => List.mem_append_right _ hp) rfl trivial (by kst_all) (by kst_same) ?_
      show bare A' = bareN (pre' ++ [k]).length A
      rw [List.length_append, List.length_singleton, bareN_succ, hp]
    case done =>
      clear lF' lN'
      rintro ⟨A', t1'⟩ u2 h tk2 - hp lF lN
      dsimp only [kstB] at lF hp lN
      rw [rangeKs_length] at hp
      have hn0 : (n - 0).toNat = n.toNat := by omega
      rw [hn0] at hp
      subst hp
      have hl' := bareN_len n.toNat A
      (repeat' (first | (k_unfold; (try dsimp only)) | (k_end; (( (( (fail_if_success (with_reducible show wpAny _ _ (PySem.exec (Stmt.While _ _ _ _) _) _ _ _)); (fail_if_success (with_reducible show wpAny _ _ (PySem.exec (Stmt.For _ _ _ _ _) _) _ _ _)); (fail_if_success (with_reducible show wpAny _ _ (PySem.call (Value.ref _) _ _) _ _ _)); (fail_if_success (with_reducible show wpAny _ _ (PySem.pyIter _) _ _ _)); (fail_if_success (with_reducible show KswEnd _ _ _ _ _ _ _ _ _ _ _ _)); (fail_if_success (with_reducible show InvEndN _ _ _ _ _ _ _)))); (fail_if_success (with_reducible show wpAny _ _ (PySem.execs (Stmt.Assign [Expr.Name (Str.ofString "here") _] _ _ :: _) _) _ _ _)))); wrow_close) | ((( (( (fail_if_success (with_reducible show wpAny _ _ (PySem.exec (Stmt.While _ _ _ _) _) _ _ _)); (fail_if_success (with_reducible show wpAny _ _ (PySem.exec (Stmt.For _ _ _ _ _) _) _ _ _)); (fail_if_success (with_reducible show wpAny _ _ (PySem.call (Value.ref _) _ _) _ _ _)); (fail_if_success (with_reducible show wpAny _ _ (PySem.pyIter _) _ _ _)); (fail_if_success (with_reducible show KswEnd _ _ _ _ _ _ _ _ _ _ _ _)); (fail_if_success (with_reducible show InvEndN _ _ _ _ _ _ _)))); (fail_if_success (with_reducible show wpAny _ _ (PySem.execs (Stmt.Assign [Expr.Name (Str.ofString "here") _] _ _ :: _) _) _ _ _)))); walk1) | ((( (( (fail_if_success (with_reducible show wpAny _ _ (PySem.exec (Stmt.While _ _ _ _) _) _ _ _)); (fail_if_success (with_reducible show wpAny _ _ (PySem.exec (Stmt.For _ _ _ _ _) _) _ _ _)); (fail_if_success (with_reducible show wpAny _ _ (PySem.call (Value.ref _) _ _) _ _ _)); (fail_if_success (with_reducible show wpAny _ _ (PySem.pyIter _) _ _ _)); (fail_if_success (with_reducible show KswEnd _ _ _ _ _ _ _ _ _ _ _ _)); (fail_if_success (with_reducible show InvEndN _ _ _ _ _ _ _)))); (fail_if_success (with_reducible show wpAny _ _ (PySem.execs (Stmt.Assign [Expr.Name (Str.ofString "here") _] _ _ :: _) _) _ _ _)))); dsimp only; (( (( (fail_if_success (with_reducible show wpAny _ _ (PySem.exec (Stmt.While _ _ _ _) _) _ _ _)); (fail_if_success (with_reducible show wpAny _ _ (PySem.exec (Stmt.For _ _ _ _ _) _) _ _ _)); (fail_if_success (with_reducible show wpAny _ _ (PySem.call (Value.ref _) _ _) _ _ _)); (fail_if_success (with_reducible show wpAny _ _ (PySem.pyIter _) _ _ _)); (fail_if_success (with_reducible show KswEnd _ _ _ _ _ _ _ _ _ _ _ _)); (fail_if_success (with_reducible show InvEndN _ _ _ _ _ _ _)))); (fail_if_success (with_reducible show wpAny _ _ (PySem.execs (Stmt.Assign [Expr.Name (Str.ofString "here") _] _ _ :: _) _) _ _ _)))); walk1) | ((( (( (fail_if_success (with_reducible show wpAny _ _ (PySem.exec (Stmt.While _ _ _ _) _) _ _ _)); (fail_if_success (with_reducible show wpAny _ _ (PySem.exec (Stmt.For _ _ _ _ _) _) _ _ _)); (fail_if_success (with_reducible show wpAny _ _ (PySem.call (Value.ref _) _ _) _ _ _)); (fail_if_success (with_reducible show wpAny _ _ (PySem.pyIter _) _ _ _)); (fail_if_success (with_reducible show KswEnd _ _ _ _ _ _ _ _ _ _ _ _)); (fail_if_success (with_reducible show InvEndN _ _ _ _ _ _ _)))); (fail_if_success (with_reducible show wpAny _ _ (PySem.execs (Stmt.Assign [Expr.Name (Str.ofString "here") _] _ _ :: _) _) _ _ _)))); leave1; walk_say "STEP leave1"; try dsimp only) | fail "no step"))
      refine rest_wp w p loose mean mg mb (bareN n.toNat A) B e _ _ _ _ p1 p2 o3 o4 o5 l vs pre n h₀ L fa cd _ m₀ own _ _ s Q E he (by omega) (by omega) hpre ⟨_, d1⟩ ⟨_, d2⟩ (by k_asm) (by with_unfolding_all rfl) (by with_unfolding_all rfl)
        (by with_unfolding_all rfl) (by with_unfolding_all rfl) (by intro z a0 a1 a2 a3 a4 a5; simp [a0, a1, a2, a3, a4, a5]) (by k_asm) hoff lt1' B0 X T
end Mine
end
section
open PySem PySem.W PyProof.Rows PySem.Calls
namespace Mine
set_option maxRecDepth 100000
theorem told_pre {told n : Int} {pre post : List Int} (h0 : 0 ≤ told) (h1 : told < 81) (e : [0, 1 + (told.fdiv 3).fmod 3, 1 + (told.fdiv 9).fmod 3, 1 + told.fdiv 27] = pre ++ n :: post) : pre.length ≤ 3 ∧ ((n = 0 ∧ pre = []) ∨ (1 ≤ pre.length ∧ 1 ≤ n ∧ n ≤ 3)) := by
  have a1 : 0 ≤ (told.fdiv 3).fmod 3 ∧ (told.fdiv 3).fmod 3 < 3 := ⟨Int.fmod_nonneg_of_pos _ (by decide), Int.fmod_lt_of_pos _ (by decide)⟩
  have a2 : 0 ≤ (told.fdiv 9).fmod 3 ∧ (told.fdiv 9).fmod 3 < 3 := ⟨Int.fmod_nonneg_of_pos _ (by decide), Int.fmod_lt_of_pos _ (by decide)⟩
  have a3 : 0 ≤ told.fdiv 27 ∧ told.fdiv 27 < 3 := by
    rw [Int.fdiv_eq_ediv_of_nonneg _ (by decide)]
    omega
  match pre, e with
  | [], e =>
    injection e with e1 e2
    exact ⟨by decide, .inl ⟨e1.symm, rfl⟩⟩
  | [_], e =>
    injection e with e1 e2
    injection e2 with e3 e4
    exact ⟨by simp, .inr ⟨by simp, by omega, by omega⟩⟩
  | [_, _], e =>
    injection e with e1 e2
    injection e2 with e3 e4
    injection e4 with e5 e6
    exact ⟨by simp, .inr ⟨by simp, by omega, by omega⟩⟩
  | [_, _, _], e =>
    injection e with e1 e2
    injection e2 with e3 e4
    injection e4 with e5 e6
    injection e6 with e7 e8
    exact ⟨by simp, .inr ⟨by simp, by omega, by omega⟩⟩
  | _ :: _ :: _ :: _ :: r, e =>
    have := congrArg List.length e
    simp at this
set_option maxHeartbeats 8000000 in
theorem deeds_wp {w : World} {p : Program} {loose : List Str} {mean : ExcName → Option Value} {mg mb : Str → Option Value} {A B : List Bool} {e : Str} {told : Int} {tm te t1 t2 q1 q2 k0 k1 k2 k3 : CTok} {p1 p2 o3 o4 o5 x1 x2 : Obj} {l ad1 ad2 : Addr}
    {h₀ : Heap} {L fa : Addr} {cd : Value} {m₀ : Str → Option Value} {g : Heap} {tk : Nat} {s : Shared} {Q : Flow → Shared → Prop} {E : Value → Shared → Prop}
    (N : News h₀ L g [(l, listOf #[.int 0 k0, .int (1 + (told.fdiv 3).fmod 3) k1, .int (1 + (told.fdiv 9).fmod 3) k2, .int (1 + told.fdiv 27) k3] 0), (ad2, x2), (ad1, x1), (L + 1 + 1 + 1 + 1 + 1, o5), (L + 1 + 1 + 1 + 1, o4), (L + 1 + 1 + 1, o3), (L + 1 + 1, p2), (L + 1, p1)])
    (F : Fr h₀ L g m₀) (u1 : m₀ (Str.ofString "mail") = some (.str (ml A e B) tm)) (u2 : m₀ (Str.ofString "edge") = some (.str e te)) (u3 : m₀ (Str.ofString "one") = some (.int (worth A) t1)) (u4 : m₀ (Str.ofString "two") = some (.int (worth B) t2))
    (h0 : 0 ≤ told) (h1 : told < 81) (he : isEdge e) (hA : A.length ≤ 4) (hB : B.length ≤ 4) (d1 : p1.data = .cell (some (.str (sg A) q1))) (d2 : p2.data = .cell (some (.str (sg B) q2)))
    (hlt : L + 1 + 1 + 1 + 1 + 1 < l ∧ L + 1 + 1 + 1 + 1 < l ∧ L + 1 + 1 + 1 < l ∧ L + 1 + 1 < l ∧ L + 1 < l)
    (B0 : Below callerA h₀ [] h₀) (X : (Mine.hd.heap_39 w.params).In h₀) (T : Top p loose mean mg mb h₀)
    (hdone : ∀ (A B : List Bool) (p1 p2 : Obj) (u : Str → Option Value) (g : Heap) (tk : Nat), A.length ≤ 7 → B.length ≤ 7 → (∃ t, p1.data = .cell (some (.str (sg A) t))) → (∃ t, p2.data = .cell (some (.str (sg B) t))) → Fr h₀ L g u →
      News h₀ L g [(L + 1 + 1 + 1 + 1 + 1, o5), (L + 1 + 1 + 1 + 1, o4), (L + 1 + 1 + 1, o3), (L + 1 + 1, p2), (L + 1, p1)] → Q .next { s with heap := g, toks := tk }) :
    wpAny (model PySem.Challenge.rw_wn0005_01.prog w) (callerA.deeper (lawE L fa cd)) (pyIter (.ref l))
      (fun it s₂ => LoopAtV PySem.Challenge.rw_wn0005_01.prog w (callerA.deeper (lawE L fa cd)) h₀ (lawE L fa cd) (Str.ofString "deed") (forBody (lawB.drop 10)) Q (fun e s' => wpAny (model PySem.Challenge.rw_wn0005_01.prog w) (callerA.deeper (lawE L fa cd)) (leaving (lawE L fa cd) e) (fun _ s'' => E e s'') (fun e' s'' => E e' s'') s') it s₂)
      (fun e s' => wpAny (model PySem.Challenge.rw_wn0005_01.prog w) (callerA.deeper (lawE L fa cd)) (leaving (lawE L fa cd) e) (fun _ s'' => E e s'') (fun e' s'' => E e' s'') s') { s with heap := g, toks := tk } := by
  refine kst_listL (σ := DS) (ns := [0, 1 + (told.fdiv 3).fmod 3, 1 + (told.fdiv 9).fmod 3, 1 + told.fdiv 27]) (vs := [.int 0 k0, .int (1 + (told.fdiv 3).fmod 3) k1, .int (1 + (told.fdiv 9).fmod 3) k2, .int (1 + told.fdiv 27) k3]) (nn := 0) (m₀ := m₀)
    (dLed l [.int 0 k0, .int (1 + (told.fdiv 3).fmod 3) k1, .int (1 + (told.fdiv 9).fmod 3) k2, .int (1 + told.fdiv 27) k3] L o3 o4 o5) dPs (fun _ => True) [Str.ofString "again"] dP (A, B, e, tm, te, t1, t2, p1, p2) rfl (fun c => List.Mem.head _)
    (IntsAre.cons _ _ (IntsAre.cons _ _ (IntsAre.cons _ _ (IntsAre.cons _ _ IntsAre.nil)))) F ?hn trivial ?hk ⟨he, hA, hB, ⟨_, d1⟩, ⟨_, d2⟩⟩ ?turn ?done
  case hn =>
    intro q hq
    refine N q ?_
    rcases List.mem_cons.mp hq with r | r
    · exact r ▸ List.Mem.head _
    · exact List.Mem.tail _ (List.Mem.tail _ (List.Mem.tail _ r))
  case hk =>
    intro q hq
    rcases List.mem_cons.mp hq with r | hq
    · subst r; exact u1
    rcases List.mem_cons.mp hq with r | hq
    · subst r; exact u2
    rcases List.mem_cons.mp hq with r | hq
    · subst r; exact u3
    rcases List.mem_cons.mp hq with r | hq
    · subst r; exact u4
    cases hq
  case turn =>
    rintro ⟨A, B, e, tm, te, t1, t2, p1, p2⟩ pre post n t u h tk own hns - hoff - hP lF lN
    obtain ⟨hpre, hn⟩ := told_pre h0 h1 hns
    dsimp only [kstB] at lF
    exact turn_wp w p loose mean mg mb A B e tm te t1 t2 p1 p2 o3 o4 o5 l _ pre n t h₀ L fa cd u m₀ own _ Q E hP hpre hn lF lN hoff ⟨hlt.1, hlt.2.1, hlt.2.2.1, hlt.2.2.2.1, hlt.2.2.2.2, trivial⟩ B0 X T
  case done =>
    rintro ⟨A, B, e, tm, te, t1, t2, p1, p2⟩ u h tk - ⟨he, hA, hB, d1, d2⟩ lF lN
    exact hdone A B p1 p2 _ h tk hA hB d1 d2 lF (fun q hq => lN q (List.Mem.tail _ hq))
end Mine
end
section
open PySem PySem.W PyProof.Rows PySem.Calls
namespace Mine
set_option maxRecDepth 100000
def LEnd (h₀ : Heap) (L it : Addr) (oI : Obj) (Jn : (Str → Option Value) → List (Addr × Obj) → Prop) (s : Shared) (Q : Flow → Shared → Prop) (f : Flow) (s' : Shared) : Prop :=
  match f with
  | .ret v => Q (.ret v) s'
  | .brk => Q .next s'
  | _ => ∃ h' tk m' news', s' = { s with heap := h', toks := tk } ∧ Fr h₀ L h' m' ∧ News h₀ L h' ((it, oI) :: news') ∧ (∀ p ∈ news', p.1 ≠ it) ∧ Jn m' news'
section
variable {prog : Program} {w : World} {A : Around} {E : Value → Shared → Prop} {s : Shared} {h₀ : Heap} {env : Env} {x : Str} {px : Pos} {body : List Stmt} {Q : Flow → Shared → Prop} {r : Addr} {n : Nat} {t u v : Tok} {m₀ : Str → Option Value} {news₀ : List (Addr × Obj)}
theorem loopL (hh : A.handled = none) (hx : env.kindOf x = some .local) (hp : (env.scope.kind == .class || (env.scope.kind == .module && env.locals != env.globals)) = false)
    (hr : IsRange s.heap r 0 (n : Int) 1 t u v) (hsm : Builtin.Range.small 0 (n : Int) 1 = true) (F : Fr h₀ env.locals s.heap m₀) (N : News h₀ env.locals s.heap news₀)
    (J : Nat → (Str → Option Value) → List (Addr × Obj) → Prop) (h0 : J 0 m₀ news₀) (hE : PassesOwn (model prog w) A env E)
    (step : ∀ (i : Nat) (t : Tok) m news h tk it oI, i < n → J i m news → (∀ p ∈ news, p.1 ≠ it) → Fr h₀ env.locals h (fun y => if y = x then some (.int (i : Int) t) else m y) → News h₀ env.locals h ((it, oI) :: news) →
      wpAny (model prog w) A (execs body env) (LEnd h₀ env.locals it oI (J (i + 1)) s Q) E { s with heap := h, toks := tk })
    (done : ∀ m news h tk, J n m news → Fr h₀ env.locals h m → News h₀ env.locals h news → Q .next { s with heap := h, toks := tk }) :
    wpAny (model prog w) A (pyIter (.ref r)) (fun it s₂ => codeAny (model prog w) A (.forLoop (.Name x px) it body [] env) (fun r s' => match r with | .ok f => Q f s' | .error e => cameBackBy (model prog w) A env E e s') s₂) E s := by
  refine wpAny_pyIter_range hr hsm ?_
  have hsz : Builtin.Range.rangeSize 0 (n : Int) 1 = (n : Int) := by rw [rangeSize_one]; split <;> omega
  rw [hsz]
  have hLlt : env.locals < s.heap.objs.size := F.ns.lt
  have hfr : h₀.get? s.heap.objs.size = none := F.fresh
  generalize hit : s.heap.objs.size = it at *
  have hLit : env.locals ≠ it := Nat.ne_of_lt hLlt
  have W := Walks.range (prog := prog) (w := w) hh it 0 1 n
  have N1 := N
  refine codeAny_forLoop
    (fun k s' => ∃ h' tk m' news' i, s' = { s with heap := h', toks := tk } ∧ IsRangeIter h' it (0 + ((i : Nat) : Int) * 1) ((n : Int) - (i : Nat)) 1 ∧ Fr h₀ env.locals h' m' ∧ News h₀ env.locals h' news' ∧ (∀ p ∈ news', p.1 ≠ it) ∧ J i m' news' ∧ i ≤ n ∧ k = n + 1 - i) ?_ (n + 1)
    ⟨_, s.toks, m₀, news₀, 0, rfl, ?_, ?_, ?_, ?_, h0, Nat.zero_le _, rfl⟩
  · rintro k s' ⟨h', tk, m', news', i, rfl, hst', F', N', hnw', hJ, hi, rfl⟩
    have old : ∀ b o, h₀.get? b = some o → b ∉ [it] := fun b o e hb => by rw [List.mem_singleton.mp hb, hfr] at e; cases e
    have next : ∀ h₁ : Heap, (∀ b o, b ∉ [it] → h'.get? b = some o → h₁.get? b = some o) → Fr h₀ env.locals h₁ m' ∧ News h₀ env.locals h₁ news' := fun h₁ hk₁ =>
      ⟨⟨F'.ns.at' fun o e => hk₁ _ o (by simpa using hLit) e, fun b o e => hk₁ b o (old b o e) (F'.keep b o e), F'.above⟩, fun p hp => ⟨hk₁ _ _ (by simpa using hnw' p hp) (N' p hp).1, (N' p hp).2⟩⟩
    by_cases hlt : i < n
    · refine W.item i _ _ _ hlt hst' fun v h₁ tk₁ hP hst₁ hk₁ => ?_
      obtain ⟨F₁, N₁⟩ := next h₁ hk₁
      obtain ⟨t, rfl⟩ := hP
      refine wpAny_assign_Name (wpAny_storeName_local hx F₁.ns (fun h₂ hn₂ hs₂ => ?_) hp)
      have F₂ := F₁.set hn₂ hs₂
      have N₂ := N₁.set hs₂
      have e0 : (0 + ((i : Nat) : Int) * 1) = (i : Int) := by omega
      rw [e0] at F₂
      have hst₂ : IsRangeIter h₂ it (0 + ((i + 1 : Nat) : Int) * 1) ((n : Int) - (i + 1 : Nat)) 1 := (hs₂.2 it (Ne.symm hLit)).trans hst₁
      have N₃ : News h₀ env.locals h₂ ((it, _) :: news') := fun p hp => by
        rcases List.mem_cons.mp hp with rfl | hp
        · exact ⟨hst₂, Ne.symm hLit, hfr⟩
        · exact N₂ p hp
      refine wpAny_passesOwn hE (wpAny_mono (step i t m' news' h₂ _ it _ hlt hJ hnw' F₂ N₃) (fun f s₃ h₃ => ?_) fun _ _ e => e)
      cases f with
      | ret v => exact h₃
      | brk => exact h₃
      | cont =>
        obtain ⟨h₃', tk₃, m₂, news₂, rfl, F₃, N₃, ha₃, hJ₃⟩ := h₃
        exact ⟨n + 1 - (i + 1), by omega, h₃', tk₃, m₂, news₂, i + 1, rfl, (N₃ _ (List.Mem.head _)).1, F₃, fun p hp => N₃ p (List.Mem.tail _ hp), ha₃, hJ₃, hlt, rfl⟩
      | next =>
        obtain ⟨h₃', tk₃, m₂, news₂, rfl, F₃, N₃, ha₃, hJ₃⟩ := h₃
        exact ⟨n + 1 - (i + 1), by omega, h₃', tk₃, m₂, news₂, i + 1, rfl, (N₃ _ (List.Mem.head _)).1, F₃, fun p hp => N₃ p (List.Mem.tail _ hp), ha₃, hJ₃, hlt, rfl⟩
    · have hin : i = n := by omega
      subst hin
      refine W.done _ _ _ hst' fun h₁ tk₁ hk₁ => wpAny_execs_nil ?_
      obtain ⟨F₁, N₁⟩ := next h₁ hk₁
      exact done m' news' h₁ tk₁ hJ F₁ N₁
  · show Heap.get? _ it = _
    rw [← hit]
    refine (Heap.get?_push_size _ rfl).trans ?_
    simp
  · exact F.push _
  · exact fun p hp => (N.push F _) p (List.Mem.tail _ hp)
  · exact fun p hp => hit ▸ N.ne_size p hp
theorem loopC {c : Addr} {o₀ : Obj} (hh : A.handled = none) (hk : env.scope.kind = .function) (hx : env.kindOf x = some .cell) (hcl : env.cells.lookup x = some c)
    (hr : IsRange s.heap r 0 (n : Int) 1 t u v) (hsm : Builtin.Range.small 0 (n : Int) 1 = true) (F : Fr h₀ env.locals s.heap m₀) (N : News h₀ env.locals s.heap ((c, o₀) :: news₀)) (hd : ∃ v₀, o₀.data = .cell v₀) (hc : ∀ p ∈ news₀, p.1 ≠ c)
    (J : Nat → (Str → Option Value) → List (Addr × Obj) → Prop) (h0 : J 0 m₀ news₀) (hE : PassesOwn (model prog w) A env E)
    (step : ∀ (i : Nat) (t : Tok) m news h tk it oI o, i < n → J i m news → (∀ p ∈ news, p.1 ≠ it) → (∀ p ∈ news, p.1 ≠ c) → c ≠ it → o.data = .cell (some (.int (i : Int) t)) → Fr h₀ env.locals h m → News h₀ env.locals h ((it, oI) :: (c, o) :: news) →
      wpAny (model prog w) A (execs body env) (LEnd h₀ env.locals it oI (fun m' nw => ∃ o' news', nw = (c, o') :: news' ∧ (∃ v₀, o'.data = .cell v₀) ∧ (∀ p ∈ news', p.1 ≠ c) ∧ J (i + 1) m' news') s Q) E { s with heap := h, toks := tk })
    (done : ∀ m news h tk o, J n m news → (∃ v₀, o.data = .cell v₀) → (∀ p ∈ news, p.1 ≠ c) → Fr h₀ env.locals h m → News h₀ env.locals h ((c, o) :: news) → Q .next { s with heap := h, toks := tk }) :
    wpAny (model prog w) A (pyIter (.ref r)) (fun it s₂ => codeAny (model prog w) A (.forLoop (.Name x px) it body [] env) (fun r s' => match r with | .ok f => Q f s' | .error e => cameBackBy (model prog w) A env E e s') s₂) E s := by
  refine wpAny_pyIter_range hr hsm ?_
  have hsz : Builtin.Range.rangeSize 0 (n : Int) 1 = (n : Int) := by rw [rangeSize_one]; split <;> omega
  rw [hsz]
  have hLlt : env.locals < s.heap.objs.size := F.ns.lt
  have hfr : h₀.get? s.heap.objs.size = none := F.fresh
  have hcit : c ≠ s.heap.objs.size := N.ne_size _ (List.Mem.head _)
  generalize hit : s.heap.objs.size = it at *
  have hLit : env.locals ≠ it := Nat.ne_of_lt hLlt
  have W := Walks.range (prog := prog) (w := w) hh it 0 1 n
  refine codeAny_forLoop
    (fun k s' => ∃ h' tk m' news' i o, s' = { s with heap := h', toks := tk } ∧ IsRangeIter h' it (0 + ((i : Nat) : Int) * 1) ((n : Int) - (i : Nat)) 1 ∧ Fr h₀ env.locals h' m' ∧ News h₀ env.locals h' ((c, o) :: news') ∧ (∃ v₀, o.data = .cell v₀) ∧ (∀ p ∈ news', p.1 ≠ it) ∧ (∀ p ∈ news', p.1 ≠ c) ∧ J i m' news' ∧ i ≤ n ∧ k = n + 1 - i) ?_ (n + 1)
    ⟨_, s.toks, m₀, news₀, 0, o₀, rfl, ?_, ?_, ?_, hd, ?_, hc, h0, Nat.zero_le _, rfl⟩
  · rintro k s' ⟨h', tk, m', news', i, o, rfl, hst', F', N', hd', hnw', hc', hJ, hi, rfl⟩
    have old : ∀ b o, h₀.get? b = some o → b ∉ [it] := fun b o e hb => by rw [List.mem_singleton.mp hb, hfr] at e; cases e
    have next : ∀ h₁ : Heap, (∀ b o, b ∉ [it] → h'.get? b = some o → h₁.get? b = some o) → Fr h₀ env.locals h₁ m' ∧ News h₀ env.locals h₁ ((c, o) :: news') := fun h₁ hk₁ =>
      ⟨⟨F'.ns.at' fun o e => hk₁ _ o (by simpa using hLit) e, fun b o e => hk₁ b o (old b o e) (F'.keep b o e), F'.above⟩, fun p hp => ⟨hk₁ _ _ (by
        rcases List.mem_cons.mp hp with rfl | hp
        · simpa using hcit
        · simpa using hnw' p hp) (N' p hp).1, (N' p hp).2⟩⟩
    by_cases hlt : i < n
    · refine W.item i _ _ _ hlt hst' fun v h₁ tk₁ hP hst₁ hk₁ => ?_
      obtain ⟨F₁, N₁⟩ := next h₁ hk₁
      obtain ⟨t, rfl⟩ := hP
      obtain ⟨v₀, hd₀⟩ := hd'
      have hmem := N₁ (c, o) (List.Mem.head _)
      refine wpAny_assign_Name (wpAny_storeName_cell hk hx hcl ⟨o, hmem.1, hd₀⟩ fun h₂ hv₂ hs₂ => ?_)
      obtain ⟨o', ho', hd₂⟩ := hv₂
      have F₂ : Fr h₀ env.locals h₂ m' := F₁.change hs₂ hmem.2.1 hmem.2.2
      have N₂ : News h₀ env.locals h₂ ((c, o') :: news') := N₁.setHead hc' hs₂ ho'
      have e0 : (0 + ((i : Nat) : Int) * 1) = (i : Int) := by omega
      rw [e0] at hd₂
      have hst₂ : IsRangeIter h₂ it (0 + ((i + 1 : Nat) : Int) * 1) ((n : Int) - (i + 1 : Nat)) 1 := (hs₂.2 it (Ne.symm hcit)).trans hst₁
      have N₃ : News h₀ env.locals h₂ ((it, _) :: (c, o') :: news') := fun p hp => by
        rcases List.mem_cons.mp hp with rfl | hp
        · exact ⟨hst₂, Ne.symm hLit, hfr⟩
        · exact N₂ p hp
      refine wpAny_passesOwn hE (wpAny_mono (step i t m' news' h₂ _ it _ o' hlt hJ hnw' hc' hcit hd₂ F₂ N₃) (fun f s₃ h₃ => ?_) fun _ _ e => e)
      cases f with
      | ret v => exact h₃
      | brk => exact h₃
      | cont =>
        obtain ⟨h₃', tk₃, m₂, _, rfl, F₃, N₃, ha₃, o₂, news₂, rfl, hd₃, hc₃, hJ₃⟩ := h₃
        exact ⟨n + 1 - (i + 1), by omega, h₃', tk₃, m₂, news₂, i + 1, o₂, rfl, (N₃ _ (List.Mem.head _)).1, F₃, fun p hp => N₃ p (List.Mem.tail _ hp), hd₃, fun p hp => ha₃ p (List.Mem.tail _ hp), hc₃, hJ₃, hlt, rfl⟩
      | next =>
        obtain ⟨h₃', tk₃, m₂, _, rfl, F₃, N₃, ha₃, o₂, news₂, rfl, hd₃, hc₃, hJ₃⟩ := h₃
        exact ⟨n + 1 - (i + 1), by omega, h₃', tk₃, m₂, news₂, i + 1, o₂, rfl, (N₃ _ (List.Mem.head _)).1, F₃, fun p hp => N₃ p (List.Mem.tail _ hp), hd₃, fun p hp => ha₃ p (List.Mem.tail _ hp), hc₃, hJ₃, hlt, rfl⟩
    · have hin : i = n := by omega
      subst hin
      refine W.done _ _ _ hst' fun h₁ tk₁ hk₁ => wpAny_execs_nil ?_
      obtain ⟨F₁, N₁⟩ := next h₁ hk₁
      exact done m' news' h₁ tk₁ o hJ hd' hc' F₁ N₁
  · show Heap.get? _ it = _
    rw [← hit]
    refine (Heap.get?_push_size _ rfl).trans ?_
    simp
  · exact F.push _
  · exact fun p hp => (N.push F _) p (List.Mem.tail _ hp)
  · exact fun p hp => hit ▸ N.ne_size p (List.Mem.tail _ hp)
end
end Mine
end
section
open PySem PySem.W PyProof.Rows
namespace Mine
end Mine
namespace Mine
open PySem PySem.W PyProof.Rows
end Mine
namespace Mine
open PySem PySem.W PyProof.Rows
theorem rs_one (i : Nat) : Builtin.Range.rangeSize 0 (i : Int) 1 = ((i : Nat) : Int) := by
  rw [rangeSize_one]; split <;> omega
end Mine
end
section
open PySem PySem.W PyProof.Rows
namespace Mine
set_option maxRecDepth 100000
def mir (B : List Bool) : List Bool := B.map (!·)
theorem mirror_list (B : List Bool) : List.map (fun a => if (a == Str.ofString ".") = true then PyData.str (Str.ofString " ") else PyData.str (Str.ofString ".")) (List.filter (fun _ => true) (signs (sg B))) = (B.map fun b => sg [!b]).map PyData.str := by
  have h1 : List.filter (fun _ => true) (signs (sg B)) = B.map fun b => sg [b] := by
    rw [filter_everyA]
    unfold signs
    rw [sg_list, List.map_map]
    apply List.map_congr_left
    intro b _
    cases b <;> rfl
  rw [h1, List.map_map, List.map_map]
  apply List.map_congr_left
  intro b _
  have e1 : Str.ofString "." = sg [true] := by decide +kernel
  have e2 : Str.ofString " " = sg [false] := by decide +kernel
  have e3 : (sg [false] == sg [true]) = false := by decide +kernel
  have e4 : (sg [true] == sg [true]) = true := by decide +kernel
  show (if (sg [b] == Str.ofString ".") = true then PyData.str (Str.ofString " ") else PyData.str (Str.ofString ".")) = PyData.str (sg [!b])
  rw [e1, e2]
  cases b
  · rw [e3, if_neg Bool.false_ne_true]; rfl
  · rw [e4, if_pos rfl]; rfl
theorem mirror_join : ∀ B : List Bool, Txt.join (Str.ofString "") (B.map fun b => sg [!b]) = sg (mir B) := by
  intro B
  show Builtin.Str.glued _ _ = _
  rw [StrLaws.glued_eq_join]
  have he : Str.ofString "" = ⟨#[]⟩ := by decide +kernel
  rw [he]
  have key : ∀ (r : List Bool), Str.join ⟨#[]⟩ (r.map fun b => sg [!b]) = sg (mir r) := by
    intro r
    induction r with
    | nil => rfl
    | cons b r ih =>
      cases r with
      | nil => rfl
      | cons c r =>
        show sg [!b] ++ ⟨#[]⟩ ++ Str.join ⟨#[]⟩ ((c :: r).map fun b => sg [!b]) = _
        rw [ih]
        apply str_of_list
        rw [cps_app, cps_app, sg_list, sg_list, sg_list]
        simp [mir]
  exact key B
theorem mirror_call {M : Program} {w : World} {A : Around} {E : Value → Shared → Prop} {s : Shared} {t : Tok} {Q : Value → Shared → Prop} {D : Addr} {ys : List Value} {B : List Bool} (hB : B.length ≤ 7)
    (hl : s.heap.IsList D ys.toArray)
    (hc : CarriedAll ys (List.map (fun a => if (a == Str.ofString ".") = true then PyData.str (Str.ofString " ") else PyData.str (Str.ofString ".")) (List.filter (fun _ => true) (signs (sg B)))))
    (h : ∀ t' k, Q (.str (sg (mir B)) t') { s with toks := k }) :
    wpAny (model M w) A (call (.builtin "str.join") [.str (Str.ofString "") t, .ref D]) Q E s := by
  rw [mirror_list] at hc
  rw [← mirror_join] at h
  refine join_listW hl (StrsAre.of_carried (by simpa using hc)) (by decide +kernel) ?_ h
  have := sumLen_of_ones (B.map fun b => sg [!b]) (by
    intro a ha
    obtain ⟨b, _, rfl⟩ := List.mem_map.mp ha
    rw [sg_len]; rfl)
  rw [this, List.length_map]
  omega
end Mine
end
section
open PySem PySem.W PyProof.Rows
namespace Mine
set_option maxRecDepth 100000
def gtB : List Bool → List Bool → Bool
  | [], [] => false
  | [], y :: _ => !y
  | x :: _, [] => x
  | x :: xs, y :: ys => if x = y then gtB xs ys else x
def PairAt (own : List (Addr × Obj)) (p : Addr) (X Y : List Bool) : Prop := ∃ n, (p, listOf #[.bool (gtB X Y), .bool (gtB Y X)] n) ∈ own
def RowTo (own : List (Addr × Obj)) (X B : List Bool) (j : Nat) (ps : List Value) : Prop := ps.length = j ∧ ∀ k, k < j → ∃ p, ps[k]? = some (.ref p) ∧ PairAt own p X (mir (B.take k))
def TabTo (own : List (Addr × Obj)) (A B : List Bool) (i : Nat) (rs : List Value) : Prop := rs.length = i ∧ ∀ k, k < i → ∃ r ps n, rs[k]? = some (.ref r) ∧ (r, listOf ps.toArray n) ∈ own ∧ RowTo own (A.take k) B (B.length + 1) ps
end Mine
end
section
open PySem PySem.W PyProof.Rows PySem.Calls
namespace Mine
set_option maxRecDepth 100000
def CBEl (h₀ : Heap) (L : Addr) (m : Str → Option Value) (news : List (Addr × Obj)) (s : Shared) (P : Value → Prop) (y : Value) (s' : Shared) : Prop :=
  ∃ h' tk', s' = { s with heap := h', toks := tk' } ∧ Fr h₀ L h' m ∧ News h₀ L h' news ∧ P y
theorem CBEl.mk' {h₀ : Heap} {L : Addr} {m : Str → Option Value} {news : List (Addr × Obj)} {s : Shared} {P : Value → Prop} {y : Value} {h' : Heap} {tk' : Nat} (F : Fr h₀ L h' m) (N : News h₀ L h' news) (h : P y) : CBEl h₀ L m news s P y { s with heap := h', toks := tk' } := ⟨h', tk', rfl, F, N, h⟩
section
variable {prog : Program} {w : World} {A : Around} {h₀ : Heap} {L : Addr} {m : Str → Option Value} {env : Env} {ct elt : Expr} {x : Str} {scope : Scope} {cl : List (Str × Addr)} {s : Shared} {Fin : List Value → List (Addr × Obj) → Prop} {news : List (Addr × Obj)}
theorem kcb_range {n : Nat} (Tst F : Nat → Bool)
    (turn : ∀ (k : Nat) t I oI C oC D m₂ ys h tk (S : Shared) (E' : Value → Shared → Prop), k < n → LCg.NsObj oC m₂ → m₂ x = some (.int (k : Int) t) → Fr h₀ L h m → News h₀ L h ((I, oI) :: (C, oC) :: (D, LCg.lst ys) :: news) → ((@Ne Nat I C) ∧ (@Ne Nat I D) ∧ (@Ne Nat C D)) →
      wpAny (model prog w) A (isTrue ct (compEnvC scope cl C env) (eval ct (compEnvC scope cl C env))) (fun b s' => if b = true then wpAny (model prog w) A (eval elt (compEnvC scope cl C env)) (CBEl h₀ L m ((I, oI) :: (C, oC) :: (D, LCg.lst ys) :: news) S (fun y => Tst k = true ∧ y = .bool (F k))) E' s'
        else CBEl h₀ L m ((I, oI) :: (C, oC) :: (D, LCg.lst ys) :: news) S (fun _ => Tst k = false) Value.none s') E' { S with heap := h, toks := tk })
    (fin : Fin (((List.range n).filter Tst).map fun k => Value.bool (F k)) news) :
    LCt.CompRestT prog w A h₀ L m env ct elt x scope cl s (fun _ => True) (fun i v => ∃ t, v = .int (0 + (i : Int)) t) Fin n 0 [] news := by
  have key : ∀ (j i : Nat), i + j = n → LCt.CompRestT prog w A h₀ L m env ct elt x scope cl s (fun _ => True) (fun i v => ∃ t, v = .int (0 + (i : Int)) t) Fin j i (((List.range i).filter Tst).map fun k => Value.bool (F k)) news := by
    intro j
    induction j with
    | zero =>
      intro i hi
      have e : i = n := by omega
      subst e
      exact LCt.CompRestT.zero fin
    | succ j ih =>
      intro i hi
      refine LCt.CompRestT.succ ?_
      intro v I oI C oC D m₂ h tk E' hv hC hx F1 N off ne
      obtain ⟨t, hv'⟩ := hv
      rw [hv', Int.zero_add] at hx
      have hs := ih (i + 1) (by omega)
      rw [List.range_succ, List.filter_append, List.map_append] at hs
      refine wpAny_mono (turn i t I oI C oC D m₂ _ h tk s E' (by omega) hC hx F1 N ne) (fun b s₂ hq => ?_) fun _ _ e => e
      cases b with
      | true =>
        simp only [if_true] at hq ⊢
        refine wpAny_mono hq (fun y s₃ hr => ?_) fun _ _ e => e
        obtain ⟨h', tk', e, F', N', ht, hy⟩ := hr
        refine ⟨h', tk', news, e, F', N', off, trivial, ?_⟩
        rw [hy]
        simpa [ht] using hs
      | false =>
        simp only [Bool.false_eq_true, if_false] at hq ⊢
        obtain ⟨h', tk', e, F', N', ht⟩ := hq
        refine ⟨h', tk', news, e, F', N', off, trivial, ?_⟩
        simpa [ht] using hs
  exact key n 0 (by omega)
end
theorem item_dot {A : List Bool} {k : Nat} (h : k < A.length) : (Txt.item (sg A) (k : Int) == Str.ofString ".") = A.getD k false := by
  rw [item_at (by omega) (by rw [sg_len]; omega), sg_list]
  have e1 : Str.ofString "." = ⟨#[46]⟩ := by decide +kernel
  rw [e1]
  show ((⟨#[(A.map cp).getD k 0]⟩ : Str) == ⟨#[46]⟩) = _
  have e2 : (A.map cp).getD k 0 = cp (A.getD k false) := by
    simp [List.getD_eq_getElem?_getD, h]
  rw [e2]
  cases A.getD k false <;> decide +kernel
theorem item_blk {A : List Bool} {k : Nat} (h : k < A.length) : (Txt.item (sg A) (k : Int) == Str.ofString " ") = !(A.getD k false) := by
  rw [item_at (by omega) (by rw [sg_len]; omega), sg_list, blank]
  show ((⟨#[(A.map cp).getD k 0]⟩ : Str) == ⟨#[32]⟩) = _
  have e2 : (A.map cp).getD k 0 = cp (A.getD k false) := by
    simp [List.getD_eq_getElem?_getD, h]
  rw [e2]
  cases A.getD k false <;> decide +kernel
end Mine
end
section
open PySem PySem.W PyProof.Rows PySem.Calls
namespace Mine
set_option maxRecDepth 100000
def forI : List Stmt := forBody (lawB.drop 15)
def forJ : List Stmt := forBody (forI.drop 1)
def dotsL (A B : List Bool) (i j : Nat) : List Bool := ((List.range i).filter (fun k => A.getD k false)).map (fun k => gtB (mir (B.take j)) (A.take k)) ++ ((List.range j).filter (fun k => B.getD k false)).map (fun k => gtB (mir (B.take k)) (A.take i))
def blksL (A B : List Bool) (i j : Nat) : List Bool := ((List.range i).filter (fun k => !(A.getD k false))).map (fun k => gtB (A.take k) (mir (B.take j))) ++ ((List.range j).filter (fun k => !(B.getD k false))).map (fun k => gtB (A.take i) (mir (B.take k)))
theorem size_le {α : Type} (p : Nat → Bool) (f : Nat → α) (n : Nat) : (((List.range n).filter p).map f).length ≤ n := by
  rw [List.length_map]
  exact Nat.le_trans (List.length_filter_le _ _) (by rw [List.length_range]; exact Nat.le_refl _)
end Mine
end
section
open PySem PySem.W PyProof.Rows PySem.Calls
namespace Mine
set_option maxRecDepth 100000
set_option maxHeartbeats 8000000 in
theorem dots_wp (w : World) (p : Program) (loose : List Str) (mean : ExcName → Option Value) (mg mb : Str → Option Value) (A B : List Bool) (hA : A.length ≤ 7) (hB : B.length ≤ 7) (o1 o2 o3 o4 o5 : Obj)
    (h₀ : Heap) (L fa : Addr) (cd : Value) (u : Str → Option Value) (g : Heap) (tk : Nat) (s : Shared) (Q : Flow → Shared → Prop) (E : Value → Shared → Prop)
    (i j : Nat) (hi : i ≤ A.length) (hj : j ≤ B.length) (ti tj t1 t2 : CTok) (aLn aT : Addr) (ps rs : List Value) (n nT : Nat) (own : List (Addr × Obj))
    (F : Fr h₀ L g (fun y => if y = Str.ofString "i" then some (.int (i : Int) ti) else u y))
    (N : News h₀ L g ((L + 1 + 1 + 1 + 1 + 1, o5) :: (aLn, listOf ps.toArray n) :: (aT, listOf rs.toArray nT) :: (L + 1 + 1 + 1 + 1, o4) :: (L + 1 + 1 + 1, o3) :: (L + 1 + 1, o2) :: (L + 1, o1) :: own))
    (d1 : o1.data = .cell (some (.str (sg A) t1))) (d2 : o2.data = .cell (some (.str (sg B) t2))) (d3 : o3.data = .cell (some (.ref aT))) (d4 : o4.data = .cell (some (.ref aLn))) (d5 : o5.data = .cell (some (.int (j : Int) tj)))
    (hT : TabTo own A B i rs) (hR : RowTo own (A.take i) B j ps)
    (B0 : Below callerA h₀ [] h₀) (X : (Mine.hd.heap_39 w.params).In h₀) (T : Top p loose mean mg mb h₀)
    (hQ : ∀ (D : Addr) (h' : Heap) (tk' : Nat), Fr h₀ L h' (fun y => if y = Str.ofString "dots" then some (.ref D) else if y = Str.ofString "i" then some (.int (i : Int) ti) else u y) →
      News h₀ L h' ((D, listOf ((dotsL A B i j).map Value.bool).toArray 0) :: (L + 1 + 1 + 1 + 1 + 1, o5) :: (aLn, listOf ps.toArray n) :: (aT, listOf rs.toArray nT) :: (L + 1 + 1 + 1 + 1, o4) :: (L + 1 + 1 + 1, o3) :: (L + 1 + 1, o2) :: (L + 1, o1) :: own) →
      (∀ p ∈ (L + 1 + 1 + 1 + 1 + 1, o5) :: (aLn, listOf ps.toArray n) :: (aT, listOf rs.toArray nT) :: (L + 1 + 1 + 1 + 1, o4) :: (L + 1 + 1 + 1, o3) :: (L + 1 + 1, o2) :: (L + 1, o1) :: own, p.1 < D) →
      wpAny (model PySem.Challenge.rw_wn0005_01.prog w) (callerA.deeper (lawE L fa cd)) (execs (forJ.drop 1) (lawE L fa cd)) Q E { s with heap := h', toks := tk' }) :
    wpAny (model PySem.Challenge.rw_wn0005_01.prog w) (callerA.deeper (lawE L fa cd)) (execs (forJ.drop 0) (lawE L fa cd)) Q E { s with heap := g, toks := tk } := by
  k_with_none
  w_top off
  have hl1 : (sg A).length ≤ 7 := by rw [sg_len]; exact hA
  have hl2 : (sg B).length ≤ 7 := by rw [sg_len]; exact hB
  (with_unfolding_all show wpAny _ (callerA.deeper (envOfC (Str.ofString "law") (Scope.mk _ _ _ _ _) L fa cd)) (execs (_ :: _ :: _ :: _ :: _ :: _ :: _ :: []) (envOfC (Str.ofString "law") (Scope.mk _ _ _ _ _) L fa cd)) _ _ _)
  (try k_fold)
  (repeat' (first | (k_unfold; (try dsimp only)) | (k_end; (( (( (fail_if_success (with_reducible show wpAny _ _ (PySem.exec (Stmt.While _ _ _ _) _) _ _ _)); (fail_if_success (with_reducible show wpAny _ _ (PySem.exec (Stmt.For _ _ _ _ _) _) _ _ _)); (fail_if_success (with_reducible show wpAny _ _ (PySem.call (Value.ref _) _ _) _ _ _)); (fail_if_success (with_reducible show wpAny _ _ (PySem.pyIter _) _ _ _)); (fail_if_success (with_reducible show KswEnd _ _ _ _ _ _ _ _ _ _ _ _)); (fail_if_success (with_reducible show InvEndN _ _ _ _ _ _ _)))); (fail_if_success (with_reducible show wpAny _ _ (PySem.eval (Expr.ListComp _ _ _ _) _) _ _ _)); (fail_if_success (with_reducible show PyProof.Rows.LCt.CompSrcT _ _ _ _ _ _ _ _ _ _ _ _ _ _ _)))); wrow_close) | ((( (( (fail_if_success (with_reducible show wpAny _ _ (PySem.exec (Stmt.While _ _ _ _) _) _ _ _)); (fail_if_success (with_reducible show wpAny _ _ (PySem.exec (Stmt.For _ _ _ _ _) _) _ _ _)); (fail_if_success (with_reducible show wpAny _ _ (PySem.call (Value.ref _) _ _) _ _ _)); (fail_if_success (with_reducible show wpAny _ _ (PySem.pyIter _) _ _ _)); (fail_if_success (with_reducible show KswEnd _ _ _ _ _ _ _ _ _ _ _ _)); (fail_if_success (with_reducible show InvEndN _ _ _ _ _ _ _)))); (fail_if_success (with_reducible show wpAny _ _ (PySem.eval (Expr.ListComp _ _ _ _) _) _ _ _)); (fail_if_success (with_reducible show PyProof.Rows.LCt.CompSrcT _ _ _ _ _ _ _ _ _ _ _ _ _ _ _)))); walk1) | ((( (( (fail_if_success (with_reducible show wpAny _ _ (PySem.exec (Stmt.While _ _ _ _) _) _ _ _)); (fail_if_success (with_reducible show wpAny _ _ (PySem.exec (Stmt.For _ _ _ _ _) _) _ _ _)); (fail_if_success (with_reducible show wpAny _ _ (PySem.call (Value.ref _) _ _) _ _ _)); (fail_if_success (with_reducible show wpAny _ _ (PySem.pyIter _) _ _ _)); (fail_if_success (with_reducible show KswEnd _ _ _ _ _ _ _ _ _ _ _ _)); (fail_if_success (with_reducible show InvEndN _ _ _ _ _ _ _)))); (fail_if_success (with_reducible show wpAny _ _ (PySem.eval (Expr.ListComp _ _ _ _) _) _ _ _)); (fail_if_success (with_reducible show PyProof.Rows.LCt.CompSrcT _ _ _ _ _ _ _ _ _ _ _ _ _ _ _)))); dsimp only; (( (( (fail_if_success (with_reducible show wpAny _ _ (PySem.exec (Stmt.While _ _ _ _) _) _ _ _)); (fail_if_success (with_reducible show wpAny _ _ (PySem.exec (Stmt.For _ _ _ _ _) _) _ _ _)); (fail_if_success (with_reducible show wpAny _ _ (PySem.call (Value.ref _) _ _) _ _ _)); (fail_if_success (with_reducible show wpAny _ _ (PySem.pyIter _) _ _ _)); (fail_if_success (with_reducible show KswEnd _ _ _ _ _ _ _ _ _ _ _ _)); (fail_if_success (with_reducible show InvEndN _ _ _ _ _ _ _)))); (fail_if_success (with_reducible show wpAny _ _ (PySem.eval (Expr.ListComp _ _ _ _) _) _ _ _)); (fail_if_success (with_reducible show PyProof.Rows.LCt.CompSrcT _ _ _ _ _ _ _ _ _ _ _ _ _ _ _)))); walk1) | ((( (( (fail_if_success (with_reducible show wpAny _ _ (PySem.exec (Stmt.While _ _ _ _) _) _ _ _)); (fail_if_success (with_reducible show wpAny _ _ (PySem.exec (Stmt.For _ _ _ _ _) _) _ _ _)); (fail_if_success (with_reducible show wpAny _ _ (PySem.call (Value.ref _) _ _) _ _ _)); (fail_if_success (with_reducible show wpAny _ _ (PySem.pyIter _) _ _ _)); (fail_if_success (with_reducible show KswEnd _ _ _ _ _ _ _ _ _ _ _ _)); (fail_if_success (with_reducible show InvEndN _ _ _ _ _ _ _)))); (fail_if_success (with_reducible show wpAny _ _ (PySem.eval (Expr.ListComp _ _ _ _) _) _ _ _)); (fail_if_success (with_reducible show PyProof.Rows.LCt.CompSrcT _ _ _ _ _ _ _ _ _ _ _ _ _ _ _)))); leave1; walk_say "STEP leave1"; try dsimp only) | fail "no step"))
  (( k_dflt (refine LCt.ListComp_T (F₀ := by k_asm) (by with_unfolding_all rfl) (by decide) (by rfl) (by decide) (by rfl) ?_); (repeat' (first | (k_unfold; (try dsimp only)) | (k_end; (( (( (fail_if_success (with_reducible show wpAny _ _ (PySem.exec (Stmt.While _ _ _ _) _) _ _ _)); (fail_if_success (with_reducible show wpAny _ _ (PySem.exec (Stmt.For _ _ _ _ _) _) _ _ _)); (fail_if_success (with_reducible show wpAny _ _ (PySem.call (Value.ref _) _ _) _ _ _)); (fail_if_success (with_reducible show wpAny _ _ (PySem.pyIter _) _ _ _)); (fail_if_success (with_reducible show KswEnd _ _ _ _ _ _ _ _ _ _ _ _)); (fail_if_success (with_reducible show InvEndN _ _ _ _ _ _ _)))); (fail_if_success (with_reducible show wpAny _ _ (PySem.eval (Expr.ListComp _ _ _ _) _) _ _ _)); (fail_if_success (with_reducible show PyProof.Rows.LCt.CompSrcT _ _ _ _ _ _ _ _ _ _ _ _ _ _ _)))); wrow_close) | ((( (( (fail_if_success (with_reducible show wpAny _ _ (PySem.exec (Stmt.While _ _ _ _) _) _ _ _)); (fail_if_success (with_reducible show wpAny _ _ (PySem.exec (Stmt.For _ _ _ _ _) _) _ _ _)); (fail_if_success (with_reducible show wpAny _ _ (PySem.call (Value.ref _) _ _) _ _ _)); (fail_if_success (with_reducible show wpAny _ _ (PySem.pyIter _) _ _ _)); (fail_if_success (with_reducible show KswEnd _ _ _ _ _ _ _ _ _ _ _ _)); (fail_if_success (with_reducible show InvEndN _ _ _ _ _ _ _)))); (fail_if_success (with_reducible show wpAny _ _ (PySem.eval (Expr.ListComp _ _ _ _) _) _ _ _)); (fail_if_success (with_reducible show PyProof.Rows.LCt.CompSrcT _ _ _ _ _ _ _ _ _ _ _ _ _ _ _)))); walk1) | ((( (( (fail_if_success (with_reducible show wpAny _ _ (PySem.exec (Stmt.While _ _ _ _) _) _ _ _)); (fail_if_success (with_reducible show wpAny _ _ (PySem.exec (Stmt.For _ _ _ _ _) _) _ _ _)); (fail_if_success (with_reducible show wpAny _ _ (PySem.call (Value.ref _) _ _) _ _ _)); (fail_if_success (with_reducible show wpAny _ _ (PySem.pyIter _) _ _ _)); (fail_if_success (with_reducible show KswEnd _ _ _ _ _ _ _ _ _ _ _ _)); (fail_if_success (with_reducible show InvEndN _ _ _ _ _ _ _)))); (fail_if_success (with_reducible show wpAny _ _ (PySem.eval (Expr.ListComp _ _ _ _) _) _ _ _)); (fail_if_success (with_reducible show PyProof.Rows.LCt.CompSrcT _ _ _ _ _ _ _ _ _ _ _ _ _ _ _)))); dsimp only; (( (( (fail_if_success (with_reducible show wpAny _ _ (PySem.exec (Stmt.While _ _ _ _) _) _ _ _)); (fail_if_success (with_reducible show wpAny _ _ (PySem.exec (Stmt.For _ _ _ _ _) _) _ _ _)); (fail_if_success (with_reducible show wpAny _ _ (PySem.call (Value.ref _) _ _) _ _ _)); (fail_if_success (with_reducible show wpAny _ _ (PySem.pyIter _) _ _ _)); (fail_if_success (with_reducible show KswEnd _ _ _ _ _ _ _ _ _ _ _ _)); (fail_if_success (with_reducible show InvEndN _ _ _ _ _ _ _)))); (fail_if_success (with_reducible show wpAny _ _ (PySem.eval (Expr.ListComp _ _ _ _) _) _ _ _)); (fail_if_success (with_reducible show PyProof.Rows.LCt.CompSrcT _ _ _ _ _ _ _ _ _ _ _ _ _ _ _)))); walk1) | ((( (( (fail_if_success (with_reducible show wpAny _ _ (PySem.exec (Stmt.While _ _ _ _) _) _ _ _)); (fail_if_success (with_reducible show wpAny _ _ (PySem.exec (Stmt.For _ _ _ _ _) _) _ _ _)); (fail_if_success (with_reducible show wpAny _ _ (PySem.call (Value.ref _) _ _) _ _ _)); (fail_if_success (with_reducible show wpAny _ _ (PySem.pyIter _) _ _ _)); (fail_if_success (with_reducible show KswEnd _ _ _ _ _ _ _ _ _ _ _ _)); (fail_if_success (with_reducible show InvEndN _ _ _ _ _ _ _)))); (fail_if_success (with_reducible show wpAny _ _ (PySem.eval (Expr.ListComp _ _ _ _) _) _ _ _)); (fail_if_success (with_reducible show PyProof.Rows.LCt.CompSrcT _ _ _ _ _ _ _ _ _ _ _ _ _ _ _)))); leave1; walk_say "STEP leave1"; try dsimp only) | fail "no step")); refine LCt.CompSrcT.range (by rfl) (by k_asm) (by k_asm) (by assumption) (by exact small_one (by l_bnd) (by l_bnd) (by l_bnd) (by l_bnd)) (rs_one _) (by rw [PySem.sizeLine_eq]; omega) ?_; intro g'; dsimp only))
  refine' kcb_range (fun k => A.getD k false) (fun k => gtB (mir (B.take j)) (A.take k)) (fun k' t' I' oI' C' oC' D' m' ys' h' tk' S' E' hk' hC' hx' F' N' ne' => ?turn1) ?fin1
  case turn1 =>
    have hk9 : k' < (sg A).length := by rw [sg_len]; omega
    (repeat' (first | (k_unfold; (try dsimp only)) | (k_end; (( (( (fail_if_success (with_reducible show wpAny _ _ (PySem.exec (Stmt.While _ _ _ _) _) _ _ _)); (fail_if_success (with_reducible show wpAny _ _ (PySem.exec (Stmt.For _ _ _ _ _) _) _ _ _)); (fail_if_success (with_reducible show wpAny _ _ (PySem.call (Value.ref _) _ _) _ _ _)); (fail_if_success (with_reducible show wpAny _ _ (PySem.pyIter _) _ _ _)); (fail_if_success (with_reducible show KswEnd _ _ _ _ _ _ _ _ _ _ _ _)); (fail_if_success (with_reducible show InvEndN _ _ _ _ _ _ _)))); (fail_if_success (with_reducible show wpAny _ _ (PySem.eval (Expr.ListComp _ _ _ _) _) _ _ _)); (fail_if_success (with_reducible show PyProof.Rows.LCt.CompSrcT _ _ _ _ _ _ _ _ _ _ _ _ _ _ _)))); wrow_close) | ((( (( (fail_if_success (with_reducible show wpAny _ _ (PySem.exec (Stmt.While _ _ _ _) _) _ _ _)); (fail_if_success (with_reducible show wpAny _ _ (PySem.exec (Stmt.For _ _ _ _ _) _) _ _ _)); (fail_if_success (with_reducible show wpAny _ _ (PySem.call (Value.ref _) _ _) _ _ _)); (fail_if_success (with_reducible show wpAny _ _ (PySem.pyIter _) _ _ _)); (fail_if_success (with_reducible show KswEnd _ _ _ _ _ _ _ _ _ _ _ _)); (fail_if_success (with_reducible show InvEndN _ _ _ _ _ _ _)))); (fail_if_success (with_reducible show wpAny _ _ (PySem.eval (Expr.ListComp _ _ _ _) _) _ _ _)); (fail_if_success (with_reducible show PyProof.Rows.LCt.CompSrcT _ _ _ _ _ _ _ _ _ _ _ _ _ _ _)))); walk1) | ((( (( (fail_if_success (with_reducible show wpAny _ _ (PySem.exec (Stmt.While _ _ _ _) _) _ _ _)); (fail_if_success (with_reducible show wpAny _ _ (PySem.exec (Stmt.For _ _ _ _ _) _) _ _ _)); (fail_if_success (with_reducible show wpAny _ _ (PySem.call (Value.ref _) _ _) _ _ _)); (fail_if_success (with_reducible show wpAny _ _ (PySem.pyIter _) _ _ _)); (fail_if_success (with_reducible show KswEnd _ _ _ _ _ _ _ _ _ _ _ _)); (fail_if_success (with_reducible show InvEndN _ _ _ _ _ _ _)))); (fail_if_success (with_reducible show wpAny _ _ (PySem.eval (Expr.ListComp _ _ _ _) _) _ _ _)); (fail_if_success (with_reducible show PyProof.Rows.LCt.CompSrcT _ _ _ _ _ _ _ _ _ _ _ _ _ _ _)))); dsimp only; (( (( (fail_if_success (with_reducible show wpAny _ _ (PySem.exec (Stmt.While _ _ _ _) _) _ _ _)); (fail_if_success (with_reducible show wpAny _ _ (PySem.exec (Stmt.For _ _ _ _ _) _) _ _ _)); (fail_if_success (with_reducible show wpAny _ _ (PySem.call (Value.ref _) _ _) _ _ _)); (fail_if_success (with_reducible show wpAny _ _ (PySem.pyIter _) _ _ _)); (fail_if_success (with_reducible show KswEnd _ _ _ _ _ _ _ _ _ _ _ _)); (fail_if_success (with_reducible show InvEndN _ _ _ _ _ _ _)))); (fail_if_success (with_reducible show wpAny _ _ (PySem.eval (Expr.ListComp _ _ _ _) _) _ _ _)); (fail_if_success (with_reducible show PyProof.Rows.LCt.CompSrcT _ _ _ _ _ _ _ _ _ _ _ _ _ _ _)))); walk1) | ((( (( (fail_if_success (with_reducible show wpAny _ _ (PySem.exec (Stmt.While _ _ _ _) _) _ _ _)); (fail_if_success (with_reducible show wpAny _ _ (PySem.exec (Stmt.For _ _ _ _ _) _) _ _ _)); (fail_if_success (with_reducible show wpAny _ _ (PySem.call (Value.ref _) _ _) _ _ _)); (fail_if_success (with_reducible show wpAny _ _ (PySem.pyIter _) _ _ _)); (fail_if_success (with_reducible show KswEnd _ _ _ _ _ _ _ _ _ _ _ _)); (fail_if_success (with_reducible show InvEndN _ _ _ _ _ _ _)))); (fail_if_success (with_reducible show wpAny _ _ (PySem.eval (Expr.ListComp _ _ _ _) _) _ _ _)); (fail_if_success (with_reducible show PyProof.Rows.LCt.CompSrcT _ _ _ _ _ _ _ _ _ _ _ _ _ _ _)))); leave1; walk_say "STEP leave1"; try dsimp only) | fail "no step"))
    · obtain ⟨r, ps1, n9, e1, e2, e3⟩ := hT.2 k' hk'
      obtain ⟨p9, e4, n8, e5⟩ := e3.2 j (by omega)
      refine item_listL (N'.isList (by k_mem)) (by omega) (by omega) e1 ?_
      (repeat' (first | (k_unfold; (try dsimp only)) | (k_end; (( (( (fail_if_success (with_reducible show wpAny _ _ (PySem.exec (Stmt.While _ _ _ _) _) _ _ _)); (fail_if_success (with_reducible show wpAny _ _ (PySem.exec (Stmt.For _ _ _ _ _) _) _ _ _)); (fail_if_success (with_reducible show wpAny _ _ (PySem.call (Value.ref _) _ _) _ _ _)); (fail_if_success (with_reducible show wpAny _ _ (PySem.pyIter _) _ _ _)); (fail_if_success (with_reducible show KswEnd _ _ _ _ _ _ _ _ _ _ _ _)); (fail_if_success (with_reducible show InvEndN _ _ _ _ _ _ _)))); (fail_if_success (with_reducible show wpAny _ _ (PySem.eval (Expr.ListComp _ _ _ _) _) _ _ _)); (fail_if_success (with_reducible show PyProof.Rows.LCt.CompSrcT _ _ _ _ _ _ _ _ _ _ _ _ _ _ _)))); wrow_close) | ((( (( (fail_if_success (with_reducible show wpAny _ _ (PySem.exec (Stmt.While _ _ _ _) _) _ _ _)); (fail_if_success (with_reducible show wpAny _ _ (PySem.exec (Stmt.For _ _ _ _ _) _) _ _ _)); (fail_if_success (with_reducible show wpAny _ _ (PySem.call (Value.ref _) _ _) _ _ _)); (fail_if_success (with_reducible show wpAny _ _ (PySem.pyIter _) _ _ _)); (fail_if_success (with_reducible show KswEnd _ _ _ _ _ _ _ _ _ _ _ _)); (fail_if_success (with_reducible show InvEndN _ _ _ _ _ _ _)))); (fail_if_success (with_reducible show wpAny _ _ (PySem.eval (Expr.ListComp _ _ _ _) _) _ _ _)); (fail_if_success (with_reducible show PyProof.Rows.LCt.CompSrcT _ _ _ _ _ _ _ _ _ _ _ _ _ _ _)))); walk1) | ((( (( (fail_if_success (with_reducible show wpAny _ _ (PySem.exec (Stmt.While _ _ _ _) _) _ _ _)); (fail_if_success (with_reducible show wpAny _ _ (PySem.exec (Stmt.For _ _ _ _ _) _) _ _ _)); (fail_if_success (with_reducible show wpAny _ _ (PySem.call (Value.ref _) _ _) _ _ _)); (fail_if_success (with_reducible show wpAny _ _ (PySem.pyIter _) _ _ _)); (fail_if_success (with_reducible show KswEnd _ _ _ _ _ _ _ _ _ _ _ _)); (fail_if_success (with_reducible show InvEndN _ _ _ _ _ _ _)))); (fail_if_success (with_reducible show wpAny _ _ (PySem.eval (Expr.ListComp _ _ _ _) _) _ _ _)); (fail_if_success (with_reducible show PyProof.Rows.LCt.CompSrcT _ _ _ _ _ _ _ _ _ _ _ _ _ _ _)))); dsimp only; (( (( (fail_if_success (with_reducible show wpAny _ _ (PySem.exec (Stmt.While _ _ _ _) _) _ _ _)); (fail_if_success (with_reducible show wpAny _ _ (PySem.exec (Stmt.For _ _ _ _ _) _) _ _ _)); (fail_if_success (with_reducible show wpAny _ _ (PySem.call (Value.ref _) _ _) _ _ _)); (fail_if_success (with_reducible show wpAny _ _ (PySem.pyIter _) _ _ _)); (fail_if_success (with_reducible show KswEnd _ _ _ _ _ _ _ _ _ _ _ _)); (fail_if_success (with_reducible show InvEndN _ _ _ _ _ _ _)))); (fail_if_success (with_reducible show wpAny _ _ (PySem.eval (Expr.ListComp _ _ _ _) _) _ _ _)); (fail_if_success (with_reducible show PyProof.Rows.LCt.CompSrcT _ _ _ _ _ _ _ _ _ _ _ _ _ _ _)))); walk1) | ((( (( (fail_if_success (with_reducible show wpAny _ _ (PySem.exec (Stmt.While _ _ _ _) _) _ _ _)); (fail_if_success (with_reducible show wpAny _ _ (PySem.exec (Stmt.For _ _ _ _ _) _) _ _ _)); (fail_if_success (with_reducible show wpAny _ _ (PySem.call (Value.ref _) _ _) _ _ _)); (fail_if_success (with_reducible show wpAny _ _ (PySem.pyIter _) _ _ _)); (fail_if_success (with_reducible show KswEnd _ _ _ _ _ _ _ _ _ _ _ _)); (fail_if_success (with_reducible show InvEndN _ _ _ _ _ _ _)))); (fail_if_success (with_reducible show wpAny _ _ (PySem.eval (Expr.ListComp _ _ _ _) _) _ _ _)); (fail_if_success (with_reducible show PyProof.Rows.LCt.CompSrcT _ _ _ _ _ _ _ _ _ _ _ _ _ _ _)))); leave1; walk_say "STEP leave1"; try dsimp only) | fail "no step"))
      refine item_listL (N'.isList (by repeat (first | exact e2 | apply List.mem_cons_of_mem))) (by omega) (by omega) e4 ?_
      (repeat' (first | (k_unfold; (try dsimp only)) | (k_end; (( (( (fail_if_success (with_reducible show wpAny _ _ (PySem.exec (Stmt.While _ _ _ _) _) _ _ _)); (fail_if_success (with_reducible show wpAny _ _ (PySem.exec (Stmt.For _ _ _ _ _) _) _ _ _)); (fail_if_success (with_reducible show wpAny _ _ (PySem.call (Value.ref _) _ _) _ _ _)); (fail_if_success (with_reducible show wpAny _ _ (PySem.pyIter _) _ _ _)); (fail_if_success (with_reducible show KswEnd _ _ _ _ _ _ _ _ _ _ _ _)); (fail_if_success (with_reducible show InvEndN _ _ _ _ _ _ _)))); (fail_if_success (with_reducible show wpAny _ _ (PySem.eval (Expr.ListComp _ _ _ _) _) _ _ _)); (fail_if_success (with_reducible show PyProof.Rows.LCt.CompSrcT _ _ _ _ _ _ _ _ _ _ _ _ _ _ _)))); wrow_close) | ((( (( (fail_if_success (with_reducible show wpAny _ _ (PySem.exec (Stmt.While _ _ _ _) _) _ _ _)); (fail_if_success (with_reducible show wpAny _ _ (PySem.exec (Stmt.For _ _ _ _ _) _) _ _ _)); (fail_if_success (with_reducible show wpAny _ _ (PySem.call (Value.ref _) _ _) _ _ _)); (fail_if_success (with_reducible show wpAny _ _ (PySem.pyIter _) _ _ _)); (fail_if_success (with_reducible show KswEnd _ _ _ _ _ _ _ _ _ _ _ _)); (fail_if_success (with_reducible show InvEndN _ _ _ _ _ _ _)))); (fail_if_success (with_reducible show wpAny _ _ (PySem.eval (Expr.ListComp _ _ _ _) _) _ _ _)); (fail_if_success (with_reducible show PyProof.Rows.LCt.CompSrcT _ _ _ _ _ _ _ _ _ _ _ _ _ _ _)))); walk1) | ((( (( (fail_if_success (with_reducible show wpAny _ _ (PySem.exec (Stmt.While _ _ _ _) _) _ _ _)); (fail_if_success (with_reducible show wpAny _ _ (PySem.exec (Stmt.For _ _ _ _ _) _) _ _ _)); (fail_if_success (with_reducible show wpAny _ _ (PySem.call (Value.ref _) _ _) _ _ _)); (fail_if_success (with_reducible show wpAny _ _ (PySem.pyIter _) _ _ _)); (fail_if_success (with_reducible show KswEnd _ _ _ _ _ _ _ _ _ _ _ _)); (fail_if_success (with_reducible show InvEndN _ _ _ _ _ _ _)))); (fail_if_success (with_reducible show wpAny _ _ (PySem.eval (Expr.ListComp _ _ _ _) _) _ _ _)); (fail_if_success (with_reducible show PyProof.Rows.LCt.CompSrcT _ _ _ _ _ _ _ _ _ _ _ _ _ _ _)))); dsimp only; (( (( (fail_if_success (with_reducible show wpAny _ _ (PySem.exec (Stmt.While _ _ _ _) _) _ _ _)); (fail_if_success (with_reducible show wpAny _ _ (PySem.exec (Stmt.For _ _ _ _ _) _) _ _ _)); (fail_if_success (with_reducible show wpAny _ _ (PySem.call (Value.ref _) _ _) _ _ _)); (fail_if_success (with_reducible show wpAny _ _ (PySem.pyIter _) _ _ _)); (fail_if_success (with_reducible show KswEnd _ _ _ _ _ _ _ _ _ _ _ _)); (fail_if_success (with_reducible show InvEndN _ _ _ _ _ _ _)))); (fail_if_success (with_reducible show wpAny _ _ (PySem.eval (Expr.ListComp _ _ _ _) _) _ _ _)); (fail_if_success (with_reducible show PyProof.Rows.LCt.CompSrcT _ _ _ _ _ _ _ _ _ _ _ _ _ _ _)))); walk1) | ((( (( (fail_if_success (with_reducible show wpAny _ _ (PySem.exec (Stmt.While _ _ _ _) _) _ _ _)); (fail_if_success (with_reducible show wpAny _ _ (PySem.exec (Stmt.For _ _ _ _ _) _) _ _ _)); (fail_if_success (with_reducible show wpAny _ _ (PySem.call (Value.ref _) _ _) _ _ _)); (fail_if_success (with_reducible show wpAny _ _ (PySem.pyIter _) _ _ _)); (fail_if_success (with_reducible show KswEnd _ _ _ _ _ _ _ _ _ _ _ _)); (fail_if_success (with_reducible show InvEndN _ _ _ _ _ _ _)))); (fail_if_success (with_reducible show wpAny _ _ (PySem.eval (Expr.ListComp _ _ _ _) _) _ _ _)); (fail_if_success (with_reducible show PyProof.Rows.LCt.CompSrcT _ _ _ _ _ _ _ _ _ _ _ _ _ _ _)))); leave1; walk_say "STEP leave1"; try dsimp only) | fail "no step"))
      refine item_list (N'.isList (by repeat (first | exact e5 | apply List.mem_cons_of_mem))) (by omega) (by omega) rfl ?_
      (repeat' (first | (k_unfold; (try dsimp only)) | (k_end; (( (( (fail_if_success (with_reducible show wpAny _ _ (PySem.exec (Stmt.While _ _ _ _) _) _ _ _)); (fail_if_success (with_reducible show wpAny _ _ (PySem.exec (Stmt.For _ _ _ _ _) _) _ _ _)); (fail_if_success (with_reducible show wpAny _ _ (PySem.call (Value.ref _) _ _) _ _ _)); (fail_if_success (with_reducible show wpAny _ _ (PySem.pyIter _) _ _ _)); (fail_if_success (with_reducible show KswEnd _ _ _ _ _ _ _ _ _ _ _ _)); (fail_if_success (with_reducible show InvEndN _ _ _ _ _ _ _)))); (fail_if_success (with_reducible show wpAny _ _ (PySem.eval (Expr.ListComp _ _ _ _) _) _ _ _)); (fail_if_success (with_reducible show PyProof.Rows.LCt.CompSrcT _ _ _ _ _ _ _ _ _ _ _ _ _ _ _)))); wrow_close) | ((( (( (fail_if_success (with_reducible show wpAny _ _ (PySem.exec (Stmt.While _ _ _ _) _) _ _ _)); (fail_if_success (with_reducible show wpAny _ _ (PySem.exec (Stmt.For _ _ _ _ _) _) _ _ _)); (fail_if_success (with_reducible show wpAny _ _ (PySem.call (Value.ref _) _ _) _ _ _)); (fail_if_success (with_reducible show wpAny _ _ (PySem.pyIter _) _ _ _)); (fail_if_success (with_reducible show KswEnd _ _ _ _ _ _ _ _ _ _ _ _)); (fail_if_success (with_reducible show InvEndN _ _ _ _ _ _ _)))); (fail_if_success (with_reducible show wpAny _ _ (PySem.eval (Expr.ListComp _ _ _ _) _) _ _ _)); (fail_if_success (with_reducible show PyProof.Rows.LCt.CompSrcT _ _ _ _ _ _ _ _ _ _ _ _ _ _ _)))); walk1) | ((( (( (fail_if_success (with_reducible show wpAny _ _ (PySem.exec (Stmt.While _ _ _ _) _) _ _ _)); (fail_if_success (with_reducible show wpAny _ _ (PySem.exec (Stmt.For _ _ _ _ _) _) _ _ _)); (fail_if_success (with_reducible show wpAny _ _ (PySem.call (Value.ref _) _ _) _ _ _)); (fail_if_success (with_reducible show wpAny _ _ (PySem.pyIter _) _ _ _)); (fail_if_success (with_reducible show KswEnd _ _ _ _ _ _ _ _ _ _ _ _)); (fail_if_success (with_reducible show InvEndN _ _ _ _ _ _ _)))); (fail_if_success (with_reducible show wpAny _ _ (PySem.eval (Expr.ListComp _ _ _ _) _) _ _ _)); (fail_if_success (with_reducible show PyProof.Rows.LCt.CompSrcT _ _ _ _ _ _ _ _ _ _ _ _ _ _ _)))); dsimp only; (( (( (fail_if_success (with_reducible show wpAny _ _ (PySem.exec (Stmt.While _ _ _ _) _) _ _ _)); (fail_if_success (with_reducible show wpAny _ _ (PySem.exec (Stmt.For _ _ _ _ _) _) _ _ _)); (fail_if_success (with_reducible show wpAny _ _ (PySem.call (Value.ref _) _ _) _ _ _)); (fail_if_success (with_reducible show wpAny _ _ (PySem.pyIter _) _ _ _)); (fail_if_success (with_reducible show KswEnd _ _ _ _ _ _ _ _ _ _ _ _)); (fail_if_success (with_reducible show InvEndN _ _ _ _ _ _ _)))); (fail_if_success (with_reducible show wpAny _ _ (PySem.eval (Expr.ListComp _ _ _ _) _) _ _ _)); (fail_if_success (with_reducible show PyProof.Rows.LCt.CompSrcT _ _ _ _ _ _ _ _ _ _ _ _ _ _ _)))); walk1) | ((( (( (fail_if_success (with_reducible show wpAny _ _ (PySem.exec (Stmt.While _ _ _ _) _) _ _ _)); (fail_if_success (with_reducible show wpAny _ _ (PySem.exec (Stmt.For _ _ _ _ _) _) _ _ _)); (fail_if_success (with_reducible show wpAny _ _ (PySem.call (Value.ref _) _ _) _ _ _)); (fail_if_success (with_reducible show wpAny _ _ (PySem.pyIter _) _ _ _)); (fail_if_success (with_reducible show KswEnd _ _ _ _ _ _ _ _ _ _ _ _)); (fail_if_success (with_reducible show InvEndN _ _ _ _ _ _ _)))); (fail_if_success (with_reducible show wpAny _ _ (PySem.eval (Expr.ListComp _ _ _ _) _) _ _ _)); (fail_if_success (with_reducible show PyProof.Rows.LCt.CompSrcT _ _ _ _ _ _ _ _ _ _ _ _ _ _ _)))); leave1; walk_say "STEP leave1"; try dsimp only) | fail "no step"))
      exact CBEl.mk' (by assumption) (by assumption) ⟨(item_dot (by omega)).symm.trans (by assumption), rfl⟩
    · exact CBEl.mk' (by assumption) (by assumption) ((item_dot (by omega)).symm.trans (by assumption))
  case fin1 =>
    intro D1 h1 tk1 F1 N1 off1
    (repeat' (first | (k_unfold; (try dsimp only)) | (k_end; (( (( (fail_if_success (with_reducible show wpAny _ _ (PySem.exec (Stmt.While _ _ _ _) _) _ _ _)); (fail_if_success (with_reducible show wpAny _ _ (PySem.exec (Stmt.For _ _ _ _ _) _) _ _ _)); (fail_if_success (with_reducible show wpAny _ _ (PySem.call (Value.ref _) _ _) _ _ _)); (fail_if_success (with_reducible show wpAny _ _ (PySem.pyIter _) _ _ _)); (fail_if_success (with_reducible show KswEnd _ _ _ _ _ _ _ _ _ _ _ _)); (fail_if_success (with_reducible show InvEndN _ _ _ _ _ _ _)))); (fail_if_success (with_reducible show wpAny _ _ (PySem.eval (Expr.ListComp _ _ _ _) _) _ _ _)); (fail_if_success (with_reducible show PyProof.Rows.LCt.CompSrcT _ _ _ _ _ _ _ _ _ _ _ _ _ _ _)))); wrow_close) | ((( (( (fail_if_success (with_reducible show wpAny _ _ (PySem.exec (Stmt.While _ _ _ _) _) _ _ _)); (fail_if_success (with_reducible show wpAny _ _ (PySem.exec (Stmt.For _ _ _ _ _) _) _ _ _)); (fail_if_success (with_reducible show wpAny _ _ (PySem.call (Value.ref _) _ _) _ _ _)); (fail_if_success (with_reducible show wpAny _ _ (PySem.pyIter _) _ _ _)); (fail_if_success (with_reducible show KswEnd _ _ _ _ _ _ _ _ _ _ _ _)); (fail_if_success (with_reducible show InvEndN _ _ _ _ _ _ _)))); (fail_if_success (with_reducible show wpAny _ _ (PySem.eval (Expr.ListComp _ _ _ _) _) _ _ _)); (fail_if_success (with_reducible show PyProof.Rows.LCt.CompSrcT _ _ _ _ _ _ _ _ _ _ _ _ _ _ _)))); walk1) | ((( (( (fail_if_success (with_reducible show wpAny _ _ (PySem.exec (Stmt.While _ _ _ _) _) _ _ _)); (fail_if_success (with_reducible show wpAny _ _ (PySem.exec (Stmt.For _ _ _ _ _) _) _ _ _)); (fail_if_success (with_reducible show wpAny _ _ (PySem.call (Value.ref _) _ _) _ _ _)); (fail_if_success (with_reducible show wpAny _ _ (PySem.pyIter _) _ _ _)); (fail_if_success (with_reducible show KswEnd _ _ _ _ _ _ _ _ _ _ _ _)); (fail_if_success (with_reducible show InvEndN _ _ _ _ _ _ _)))); (fail_if_success (with_reducible show wpAny _ _ (PySem.eval (Expr.ListComp _ _ _ _) _) _ _ _)); (fail_if_success (with_reducible show PyProof.Rows.LCt.CompSrcT _ _ _ _ _ _ _ _ _ _ _ _ _ _ _)))); dsimp only; (( (( (fail_if_success (with_reducible show wpAny _ _ (PySem.exec (Stmt.While _ _ _ _) _) _ _ _)); (fail_if_success (with_reducible show wpAny _ _ (PySem.exec (Stmt.For _ _ _ _ _) _) _ _ _)); (fail_if_success (with_reducible show wpAny _ _ (PySem.call (Value.ref _) _ _) _ _ _)); (fail_if_success (with_reducible show wpAny _ _ (PySem.pyIter _) _ _ _)); (fail_if_success (with_reducible show KswEnd _ _ _ _ _ _ _ _ _ _ _ _)); (fail_if_success (with_reducible show InvEndN _ _ _ _ _ _ _)))); (fail_if_success (with_reducible show wpAny _ _ (PySem.eval (Expr.ListComp _ _ _ _) _) _ _ _)); (fail_if_success (with_reducible show PyProof.Rows.LCt.CompSrcT _ _ _ _ _ _ _ _ _ _ _ _ _ _ _)))); walk1) | ((( (( (fail_if_success (with_reducible show wpAny _ _ (PySem.exec (Stmt.While _ _ _ _) _) _ _ _)); (fail_if_success (with_reducible show wpAny _ _ (PySem.exec (Stmt.For _ _ _ _ _) _) _ _ _)); (fail_if_success (with_reducible show wpAny _ _ (PySem.call (Value.ref _) _ _) _ _ _)); (fail_if_success (with_reducible show wpAny _ _ (PySem.pyIter _) _ _ _)); (fail_if_success (with_reducible show KswEnd _ _ _ _ _ _ _ _ _ _ _ _)); (fail_if_success (with_reducible show InvEndN _ _ _ _ _ _ _)))); (fail_if_success (with_reducible show wpAny _ _ (PySem.eval (Expr.ListComp _ _ _ _) _) _ _ _)); (fail_if_success (with_reducible show PyProof.Rows.LCt.CompSrcT _ _ _ _ _ _ _ _ _ _ _ _ _ _ _)))); leave1; walk_say "STEP leave1"; try dsimp only) | fail "no step"))
    (( k_dflt (refine LCt.ListComp_T (F₀ := by k_asm) (by with_unfolding_all rfl) (by decide) (by rfl) (by decide) (by rfl) ?_); (repeat' (first | (k_unfold; (try dsimp only)) | (k_end; (( (( (fail_if_success (with_reducible show wpAny _ _ (PySem.exec (Stmt.While _ _ _ _) _) _ _ _)); (fail_if_success (with_reducible show wpAny _ _ (PySem.exec (Stmt.For _ _ _ _ _) _) _ _ _)); (fail_if_success (with_reducible show wpAny _ _ (PySem.call (Value.ref _) _ _) _ _ _)); (fail_if_success (with_reducible show wpAny _ _ (PySem.pyIter _) _ _ _)); (fail_if_success (with_reducible show KswEnd _ _ _ _ _ _ _ _ _ _ _ _)); (fail_if_success (with_reducible show InvEndN _ _ _ _ _ _ _)))); (fail_if_success (with_reducible show wpAny _ _ (PySem.eval (Expr.ListComp _ _ _ _) _) _ _ _)); (fail_if_success (with_reducible show PyProof.Rows.LCt.CompSrcT _ _ _ _ _ _ _ _ _ _ _ _ _ _ _)))); wrow_close) | ((( (( (fail_if_success (with_reducible show wpAny _ _ (PySem.exec (Stmt.While _ _ _ _) _) _ _ _)); (fail_if_success (with_reducible show wpAny _ _ (PySem.exec (Stmt.For _ _ _ _ _) _) _ _ _)); (fail_if_success (with_reducible show wpAny _ _ (PySem.call (Value.ref _) _ _) _ _ _)); (fail_if_success (with_reducible show wpAny _ _ (PySem.pyIter _) _ _ _)); (fail_if_success (with_reducible show KswEnd _ _ _ _ _ _ _ _ _ _ _ _)); (fail_if_success (with_reducible show InvEndN _ _ _ _ _ _ _)))); (fail_if_success (with_reducible show wpAny _ _ (PySem.eval (Expr.ListComp _ _ _ _) _) _ _ _)); (fail_if_success (with_reducible show PyProof.Rows.LCt.CompSrcT _ _ _ _ _ _ _ _ _ _ _ _ _ _ _)))); walk1) | ((( (( (fail_if_success (with_reducible show wpAny _ _ (PySem.exec (Stmt.While _ _ _ _) _) _ _ _)); (fail_if_success (with_reducible show wpAny _ _ (PySem.exec (Stmt.For _ _ _ _ _) _) _ _ _)); (fail_if_success (with_reducible show wpAny _ _ (PySem.call (Value.ref _) _ _) _ _ _)); (fail_if_success (with_reducible show wpAny _ _ (PySem.pyIter _) _ _ _)); (fail_if_success (with_reducible show KswEnd _ _ _ _ _ _ _ _ _ _ _ _)); (fail_if_success (with_reducible show InvEndN _ _ _ _ _ _ _)))); (fail_if_success (with_reducible show wpAny _ _ (PySem.eval (Expr.ListComp _ _ _ _) _) _ _ _)); (fail_if_success (with_reducible show PyProof.Rows.LCt.CompSrcT _ _ _ _ _ _ _ _ _ _ _ _ _ _ _)))); dsimp only; (( (( (fail_if_success (with_reducible show wpAny _ _ (PySem.exec (Stmt.While _ _ _ _) _) _ _ _)); (fail_if_success (with_reducible show wpAny _ _ (PySem.exec (Stmt.For _ _ _ _ _) _) _ _ _)); (fail_if_success (with_reducible show wpAny _ _ (PySem.call (Value.ref _) _ _) _ _ _)); (fail_if_success (with_reducible show wpAny _ _ (PySem.pyIter _) _ _ _)); (fail_if_success (with_reducible show KswEnd _ _ _ _ _ _ _ _ _ _ _ _)); (fail_if_success (with_reducible show InvEndN _ _ _ _ _ _ _)))); (fail_if_success (with_reducible show wpAny _ _ (PySem.eval (Expr.ListComp _ _ _ _) _) _ _ _)); (fail_if_success (with_reducible show PyProof.Rows.LCt.CompSrcT _ _ _ _ _ _ _ _ _ _ _ _ _ _ _)))); walk1) | ((( (( (fail_if_success (with_reducible show wpAny _ _ (PySem.exec (Stmt.While _ _ _ _) _) _ _ _)); (fail_if_success (with_reducible show wpAny _ _ (PySem.exec (Stmt.For _ _ _ _ _) _) _ _ _)); (fail_if_success (with_reducible show wpAny _ _ (PySem.call (Value.ref _) _ _) _ _ _)); (fail_if_success (with_reducible show wpAny _ _ (PySem.pyIter _) _ _ _)); (fail_if_success (with_reducible show KswEnd _ _ _ _ _ _ _ _ _ _ _ _)); (fail_if_success (with_reducible show InvEndN _ _ _ _ _ _ _)))); (fail_if_success (with_reducible show wpAny _ _ (PySem.eval (Expr.ListComp _ _ _ _) _) _ _ _)); (fail_if_success (with_reducible show PyProof.Rows.LCt.CompSrcT _ _ _ _ _ _ _ _ _ _ _ _ _ _ _)))); leave1; walk_say "STEP leave1"; try dsimp only) | fail "no step")); refine LCt.CompSrcT.range (by rfl) (by k_asm) (by k_asm) (by assumption) (by exact small_one (by l_bnd) (by l_bnd) (by l_bnd) (by l_bnd)) (rs_one _) (by rw [PySem.sizeLine_eq]; omega) ?_; intro g'; dsimp only))
    refine' kcb_range (fun k => B.getD k false) (fun k => gtB (mir (B.take k)) (A.take i)) (fun k' t' I' oI' C' oC' D' m' ys' h' tk' S' E' hk' hC' hx' F' N' ne' => ?turn2) ?fin2
    case turn2 =>
      have hk9 : k' < (sg B).length := by rw [sg_len]; omega
      (repeat' (first | (k_unfold; (try dsimp only)) | (k_end; (( (( (fail_if_success (with_reducible show wpAny _ _ (PySem.exec (Stmt.While _ _ _ _) _) _ _ _)); (fail_if_success (with_reducible show wpAny _ _ (PySem.exec (Stmt.For _ _ _ _ _) _) _ _ _)); (fail_if_success (with_reducible show wpAny _ _ (PySem.call (Value.ref _) _ _) _ _ _)); (fail_if_success (with_reducible show wpAny _ _ (PySem.pyIter _) _ _ _)); (fail_if_success (with_reducible show KswEnd _ _ _ _ _ _ _ _ _ _ _ _)); (fail_if_success (with_reducible show InvEndN _ _ _ _ _ _ _)))); (fail_if_success (with_reducible show wpAny _ _ (PySem.eval (Expr.ListComp _ _ _ _) _) _ _ _)); (fail_if_success (with_reducible show PyProof.Rows.LCt.CompSrcT _ _ _ _ _ _ _ _ _ _ _ _ _ _ _)))); wrow_close) | ((( (( (fail_if_success (with_reducible show wpAny _ _ (PySem.exec (Stmt.While _ _ _ _) _) _ _ _)); (fail_if_success (with_reducible show wpAny _ _ (PySem.exec (Stmt.For _ _ _ _ _) _) _ _ _)); (fail_if_success (with_reducible show wpAny _ _ (PySem.call (Value.ref _) _ _) _ _ _)); (fail_if_success (with_reducible show wpAny _ _ (PySem.pyIter _) _ _ _)); (fail_if_success (with_reducible show KswEnd _ _ _ _ _ _ _ _ _ _ _ _)); (fail_if_success (with_reducible show InvEndN _ _ _ _ _ _ _)))); (fail_if_success (with_reducible show wpAny _ _ (PySem.eval (Expr.ListComp _ _ _ _) _) _ _ _)); (fail_if_success (with_reducible show PyProof.Rows.LCt.CompSrcT _ _ _ _ _ _ _ _ _ _ _ _ _ _ _)))); walk1) | ((( (( (fail_if_success (with_reducible show wpAny _ _ (PySem.exec (Stmt.While _ _ _ _) _) _ _ _)); (fail_if_success (with_reducible show wpAny _ _ (PySem.exec (Stmt.For _ _ _ _ _) _) _ _ _)); (fail_if_success (with_reducible show wpAny _ _ (PySem.call (Value.ref _) _ _) _ _ _)); (fail_if_success (with_reducible show wpAny _ _ (PySem.pyIter _) _ _ _)); (fail_if_success (with_reducible show KswEnd _ _ _ _ _ _ _ _ _ _ _ _)); (fail_if_success (with_reducible show InvEndN _ _ _ _ _ _ _)))); (fail_if_success (with_reducible show wpAny _ _ (PySem.eval (Expr.ListComp _ _ _ _) _) _ _ _)); (fail_if_success (with_reducible show PyProof.Rows.LCt.CompSrcT _ _ _ _ _ _ _ _ _ _ _ _ _ _ _)))); dsimp only; (( (( (fail_if_success (with_reducible show wpAny _ _ (PySem.exec (Stmt.While _ _ _ _) _) _ _ _)); (fail_if_success (with_reducible show wpAny _ _ (PySem.exec (Stmt.For _ _ _ _ _) _) _ _ _)); (fail_if_success (with_reducible show wpAny _ _ (PySem.call (Value.ref _) _ _) _ _ _)); (fail_if_success (with_reducible show wpAny _ _ (PySem.pyIter _) _ _ _)); (fail_if_success (with_reducible show KswEnd _ _ _ _ _ _ _ _ _ _ _ _)); (fail_if_success (with_reducible show InvEndN _ _ _ _ _ _ _)))); (fail_if_success (with_reducible show wpAny _ _ (PySem.eval (Expr.ListComp _ _ _ _) _) _ _ _)); (fail_if_success (with_reducible show PyProof.Rows.LCt.CompSrcT _ _ _ _ _ _ _ _ _ _ _ _ _ _ _)))); walk1) | ((( (( (fail_if_success (with_reducible show wpAny _ _ (PySem.exec (Stmt.While _ _ _ _) _) _ _ _)); (fail_if_success (with_reducible show wpAny _ _ (PySem.exec (Stmt.For _ _ _ _ _) _) _ _ _)); (fail_if_success (with_reducible show wpAny _ _ (PySem.call (Value.ref _) _ _) _ _ _)); (fail_if_success (with_reducible show wpAny _ _ (PySem.pyIter _) _ _ _)); (fail_if_success (with_reducible show KswEnd _ _ _ _ _ _ _ _ _ _ _ _)); (fail_if_success (with_reducible show InvEndN _ _ _ _ _ _ _)))); (fail_if_success (with_reducible show wpAny _ _ (PySem.eval (Expr.ListComp _ _ _ _) _) _ _ _)); (fail_if_success (with_reducible show PyProof.Rows.LCt.CompSrcT _ _ _ _ _ _ _ _ _ _ _ _ _ _ _)))); leave1; walk_say "STEP leave1"; try dsimp only) | fail "no step"))
      · obtain ⟨p9, e4, n8, e5⟩ := hR.2 k' hk'
        refine item_listL (N'.isList (by k_mem)) (by omega) (by omega) e4 ?_
        (repeat' (first | (k_unfold; (try dsimp only)) | (k_end; (( (( (fail_if_success (with_reducible show wpAny _ _ (PySem.exec (Stmt.While _ _ _ _) _) _ _ _)); (fail_if_success (with_reducible show wpAny _ _ (PySem.exec (Stmt.For _ _ _ _ _) _) _ _ _)); (fail_if_success (with_reducible show wpAny _ _ (PySem.call (Value.ref _) _ _) _ _ _)); (fail_if_success (with_reducible show wpAny _ _ (PySem.pyIter _) _ _ _)); (fail_if_success (with_reducible show KswEnd _ _ _ _ _ _ _ _ _ _ _ _)); (fail_if_success (with_reducible show InvEndN _ _ _ _ _ _ _)))); (fail_if_success (with_reducible show wpAny _ _ (PySem.eval (Expr.ListComp _ _ _ _) _) _ _ _)); (fail_if_success (with_reducible show PyProof.Rows.LCt.CompSrcT _ _ _ _ _ _ _ _ _ _ _ _ _ _ _)))); wrow_close) | ((( (( (fail_if_success (with_reducible show wpAny _ _ (PySem.exec (Stmt.While _ _ _ _) _) _ _ _)); (fail_if_success (with_reducible show wpAny _ _ (PySem.exec (Stmt.For _ _ _ _ _) _) _ _ _)); (fail_if_success (with_reducible show wpAny _ _ (PySem.call (Value.ref _) _ _) _ _ _)); (fail_if_success (with_reducible show wpAny _ _ (PySem.pyIter _) _ _ _)); (fail_if_success (with_reducible show KswEnd _ _ _ _ _ _ _ _ _ _ _ _)); (fail_if_success (with_reducible show InvEndN _ _ _ _ _ _ _)))); (fail_if_success (with_reducible show wpAny _ _ (PySem.eval (Expr.ListComp _ _ _ _) _) _ _ _)); (fail_if_success (with_reducible show PyProof.Rows.LCt.CompSrcT _ _ _ _ _ _ _ _ _ _ _ _ _ _ _)))); walk1) | ((( (( (fail_if_success (with_reducible show wpAny _ _ (PySem.exec (Stmt.While _ _ _ _) _) _ _ _)); (fail_if_success (with_reducible show wpAny _ _ (PySem.exec (Stmt.For _ _ _ _ _) _) _ _ _)); (fail_if_success (with_reducible show wpAny _ _ (PySem.call (Value.ref _) _ _) _ _ _)); (fail_if_success (with_reducible show wpAny _ _ (PySem.pyIter _) _ _ _)); (fail_if_success (with_reducible show KswEnd _ _ _ _ _ _ _ _ _ _ _ _)); (fail_if_success (with_reducible show InvEndN _ _ _ _ _ _ _)))); (fail_if_success (with_reducible show wpAny _ _ (PySem.eval (Expr.ListComp _ _ _ _) _) _ _ _)); (fail_if_success (with_reducible show PyProof.Rows.LCt.CompSrcT _ _ _ _ _ _ _ _ _ _ _ _ _ _ _)))); dsimp only; (( (( (fail_if_success (with_reducible show wpAny _ _ (PySem.exec (Stmt.While _ _ _ _) _) _ _ _)); (fail_if_success (with_reducible show wpAny _ _ (PySem.exec (Stmt.For _ _ _ _ _) _) _ _ _)); (fail_if_success (with_reducible show wpAny _ _ (PySem.call (Value.ref _) _ _) _ _ _)); (fail_if_success (with_reducible show wpAny _ _ (PySem.pyIter _) _ _ _)); (fail_if_success (with_reducible show KswEnd _ _ _ _ _ _ _ _ _ _ _ _)); (fail_if_success (with_reducible show InvEndN _ _ _ _ _ _ _)))); (fail_if_success (with_reducible show wpAny _ _ (PySem.eval (Expr.ListComp _ _ _ _) _) _ _ _)); (fail_if_success (with_reducible show PyProof.Rows.LCt.CompSrcT _ _ _ _ _ _ _ _ _ _ _ _ _ _ _)))); walk1) | ((( (( (fail_if_success (with_reducible show wpAny _ _ (PySem.exec (Stmt.While _ _ _ _) _) _ _ _)); (fail_if_success (with_reducible show wpAny _ _ (PySem.exec (Stmt.For _ _ _ _ _) _) _ _ _)); (fail_if_success (with_reducible show wpAny _ _ (PySem.call (Value.ref _) _ _) _ _ _)); (fail_if_success (with_reducible show wpAny _ _ (PySem.pyIter _) _ _ _)); (fail_if_success (with_reducible show KswEnd _ _ _ _ _ _ _ _ _ _ _ _)); (fail_if_success (with_reducible show InvEndN _ _ _ _ _ _ _)))); (fail_if_success (with_reducible show wpAny _ _ (PySem.eval (Expr.ListComp _ _ _ _) _) _ _ _)); (fail_if_success (with_reducible show PyProof.Rows.LCt.CompSrcT _ _ _ _ _ _ _ _ _ _ _ _ _ _ _)))); leave1; walk_say "STEP leave1"; try dsimp only) | fail "no step"))
        refine item_list (N'.isList (by repeat (first | exact e5 | apply List.mem_cons_of_mem))) (by omega) (by omega) rfl ?_
        (repeat' (first | (k_unfold; (try dsimp only)) | (k_end; (( (( (fail_if_success (with_reducible show wpAny _ _ (PySem.exec (Stmt.While _ _ _ _) _) _ _ _)); (fail_if_success (with_reducible show wpAny _ _ (PySem.exec (Stmt.For _ _ _ _ _) _) _ _ _)); (fail_if_success (with_reducible show wpAny _ _ (PySem.call (Value.ref _) _ _) _ _ _)); (fail_if_success (with_reducible show wpAny _ _ (PySem.pyIter _) _ _ _)); (fail_if_success (with_reducible show KswEnd _ _ _ _ _ _ _ _ _ _ _ _)); (fail_if_success (with_reducible show InvEndN _ _ _ _ _ _ _)))); (fail_if_success (with_reducible show wpAny _ _ (PySem.eval (Expr.ListComp _ _ _ _) _) _ _ _)); (fail_if_success (with_reducible show PyProof.Rows.LCt.CompSrcT _ _ _ _ _ _ _ _ _ _ _ _ _ _ _)))); wrow_close) | ((( (( (fail_if_success (with_reducible show wpAny _ _ (PySem.exec (Stmt.While _ _ _ _) _) _ _ _)); (fail_if_success (with_reducible show wpAny _ _ (PySem.exec (Stmt.For _ _ _ _ _) _) _ _ _)); (fail_if_success (with_reducible show wpAny _ _ (PySem.call (Value.ref _) _ _) _ _ _)); (fail_if_success (with_reducible show wpAny _ _ (PySem.pyIter _) _ _ _)); (fail_if_success (with_reducible show KswEnd _ _ _ _ _ _ _ _ _ _ _ _)); (fail_if_success (with_reducible show InvEndN _ _ _ _ _ _ _)))); (fail_if_success (with_reducible show wpAny _ _ (PySem.eval (Expr.ListComp _ _ _ _) _) _ _ _)); (fail_if_success (with_reducible show PyProof.Rows.LCt.CompSrcT _ _ _ _ _ _ _ _ _ _ _ _ _ _ _)))); walk1) | ((( (( (fail_if_success (with_reducible show wpAny _ _ (PySem.exec (Stmt.While _ _ _ _) _) _ _ _)); (fail_if_success (with_reducible show wpAny _ _ (PySem.exec (Stmt.For _ _ _ _ _) _) _ _ _)); (fail_if_success (with_reducible show wpAny _ _ (PySem.call (Value.ref _) _ _) _ _ _)); (fail_if_success (with_reducible show wpAny _ _ (PySem.pyIter _) _ _ _)); (fail_if_success (with_reducible show KswEnd _ _ _ _ _ _ _ _ _ _ _ _)); (fail_if_success (with_reducible show InvEndN _ _ _ _ _ _ _)))); (fail_if_success (with_reducible show wpAny _ _ (PySem.eval (Expr.ListComp _ _ _ _) _) _ _ _)); (fail_if_success (with_reducible show PyProof.Rows.LCt.CompSrcT _ _ _ _ _ _ _ _ _ _ _ _ _ _ _)))); dsimp only; (( (( (fail_if_success (with_reducible show wpAny _ _ (PySem.exec (Stmt.While _ _ _ _) _) _ _ _)); (fail_if_success (with_reducible show wpAny _ _ (PySem.exec (Stmt.For _ _ _ _ _) _) _ _ _)); (fail_if_success (with_reducible show wpAny _ _ (PySem.call (Value.ref _) _ _) _ _ _)); (fail_if_success (with_reducible show wpAny _ _ (PySem.pyIter _) _ _ _)); (fail_if_success (with_reducible show KswEnd _ _ _ _ _ _ _ _ _ _ _ _)); (fail_if_success (with_reducible show InvEndN _ _ _ _ _ _ _)))); (fail_if_success (with_reducible show wpAny _ _ (PySem.eval (Expr.ListComp _ _ _ _) _) _ _ _)); (fail_if_success (with_reducible show PyProof.Rows.LCt.CompSrcT _ _ _ _ _ _ _ _ _ _ _ _ _ _ _)))); walk1) | ((( (( (fail_if_success (with_reducible show wpAny _ _ (PySem.exec (Stmt.While _ _ _ _) _) _ _ _)); (fail_if_success (with_reducible show wpAny _ _ (PySem.exec (Stmt.For _ _ _ _ _) _) _ _ _)); (fail_if_success (with_reducible show wpAny _ _ (PySem.call (Value.ref _) _ _) _ _ _)); (fail_if_success (with_reducible show wpAny _ _ (PySem.pyIter _) _ _ _)); (fail_if_success (with_reducible show KswEnd _ _ _ _ _ _ _ _ _ _ _ _)); (fail_if_success (with_reducible show InvEndN _ _ _ _ _ _ _)))); (fail_if_success (with_reducible show wpAny _ _ (PySem.eval (Expr.ListComp _ _ _ _) _) _ _ _)); (fail_if_success (with_reducible show PyProof.Rows.LCt.CompSrcT _ _ _ _ _ _ _ _ _ _ _ _ _ _ _)))); leave1; walk_say "STEP leave1"; try dsimp only) | fail "no step"))
        exact CBEl.mk' (by assumption) (by assumption) ⟨(item_dot (by omega)).symm.trans (by assumption), rfl⟩
      · exact CBEl.mk' (by assumption) (by assumption) ((item_dot (by omega)).symm.trans (by assumption))
    case fin2 =>
      intro D2 h2 tk2 F2 N2 off2
      refine kmk_add_lit (zs := (dotsL A B i j).map Value.bool) F2 N2 (N2.isList (by k_mem)) (N2.isList (by k_mem)) (by simp [dotsL, Function.comp_def]) ?_ ?hz
      case hz =>
        rw [PySem.sizeLine_eq]
        have z1 := size_le (fun k => A.getD k false) (fun k => Value.bool (gtB (mir (B.take j)) (A.take k))) i
        have z2 := size_le (fun k => B.getD k false) (fun k => Value.bool (gtB (mir (B.take k)) (A.take i))) j
        simp only [List.length_map] at z1 z2 ⊢
        omega
      intro D3 h3 F3 N3 lt3
      (repeat' (first | (k_unfold; (try dsimp only)) | (k_end; (( (( (( (fail_if_success (with_reducible show wpAny _ _ (PySem.exec (Stmt.While _ _ _ _) _) _ _ _)); (fail_if_success (with_reducible show wpAny _ _ (PySem.exec (Stmt.For _ _ _ _ _) _) _ _ _)); (fail_if_success (with_reducible show wpAny _ _ (PySem.call (Value.ref _) _ _) _ _ _)); (fail_if_success (with_reducible show wpAny _ _ (PySem.pyIter _) _ _ _)); (fail_if_success (with_reducible show KswEnd _ _ _ _ _ _ _ _ _ _ _ _)); (fail_if_success (with_reducible show InvEndN _ _ _ _ _ _ _)))); (fail_if_success (with_reducible show wpAny _ _ (PySem.eval (Expr.ListComp _ _ _ _) _) _ _ _)); (fail_if_success (with_reducible show PyProof.Rows.LCt.CompSrcT _ _ _ _ _ _ _ _ _ _ _ _ _ _ _)))); (fail_if_success (with_reducible show wpAny _ _ (PySem.execs (Stmt.Assign [Expr.Name (Str.ofString "blanks") _] _ _ :: _) _) _ _ _)); (fail_if_success (with_reducible show wpAny _ _ (PySem.execs (PySem.Stmt.Expr _ _ :: _) _) _ _ _)))); wrow_close) | ((( (( (( (fail_if_success (with_reducible show wpAny _ _ (PySem.exec (Stmt.While _ _ _ _) _) _ _ _)); (fail_if_success (with_reducible show wpAny _ _ (PySem.exec (Stmt.For _ _ _ _ _) _) _ _ _)); (fail_if_success (with_reducible show wpAny _ _ (PySem.call (Value.ref _) _ _) _ _ _)); (fail_if_success (with_reducible show wpAny _ _ (PySem.pyIter _) _ _ _)); (fail_if_success (with_reducible show KswEnd _ _ _ _ _ _ _ _ _ _ _ _)); (fail_if_success (with_reducible show InvEndN _ _ _ _ _ _ _)))); (fail_if_success (with_reducible show wpAny _ _ (PySem.eval (Expr.ListComp _ _ _ _) _) _ _ _)); (fail_if_success (with_reducible show PyProof.Rows.LCt.CompSrcT _ _ _ _ _ _ _ _ _ _ _ _ _ _ _)))); (fail_if_success (with_reducible show wpAny _ _ (PySem.execs (Stmt.Assign [Expr.Name (Str.ofString "blanks") _] _ _ :: _) _) _ _ _)); (fail_if_success (with_reducible show wpAny _ _ (PySem.execs (PySem.Stmt.Expr _ _ :: _) _) _ _ _)))); walk1) | ((( (( (( (fail_if_success (with_reducible show wpAny _ _ (PySem.exec (Stmt.While _ _ _ _) _) _ _ _)); (fail_if_success (with_reducible show wpAny _ _ (PySem.exec (Stmt.For _ _ _ _ _) _) _ _ _)); (fail_if_success (with_reducible show wpAny _ _ (PySem.call (Value.ref _) _ _) _ _ _)); (fail_if_success (with_reducible show wpAny _ _ (PySem.pyIter _) _ _ _)); (fail_if_success (with_reducible show KswEnd _ _ _ _ _ _ _ _ _ _ _ _)); (fail_if_success (with_reducible show InvEndN _ _ _ _ _ _ _)))); (fail_if_success (with_reducible show wpAny _ _ (PySem.eval (Expr.ListComp _ _ _ _) _) _ _ _)); (fail_if_success (with_reducible show PyProof.Rows.LCt.CompSrcT _ _ _ _ _ _ _ _ _ _ _ _ _ _ _)))); (fail_if_success (with_reducible show wpAny _ _ (PySem.execs (Stmt.Assign [Expr.Name (Str.ofString "blanks") _] _ _ :: _) _) _ _ _)); (fail_if_success (with_reducible show wpAny _ _ (PySem.execs (PySem.Stmt.Expr _ _ :: _) _) _ _ _)))); dsimp only; (( (( (( (fail_if_success (with_reducible show wpAny _ _ (PySem.exec (Stmt.While _ _ _ _) _) _ _ _)); (fail_if_success (with_reducible show wpAny _ _ (PySem.exec (Stmt.For _ _ _ _ _) _) _ _ _)); (fail_if_success (with_reducible show wpAny _ _ (PySem.call (Value.ref _) _ _) _ _ _)); (fail_if_success (with_reducible show wpAny _ _ (PySem.pyIter _) _ _ _)); (fail_if_success (with_reducible show KswEnd _ _ _ _ _ _ _ _ _ _ _ _)); (fail_if_success (with_reducible show InvEndN _ _ _ _ _ _ _)))); (fail_if_success (with_reducible show wpAny _ _ (PySem.eval (Expr.ListComp _ _ _ _) _) _ _ _)); (fail_if_success (with_reducible show PyProof.Rows.LCt.CompSrcT _ _ _ _ _ _ _ _ _ _ _ _ _ _ _)))); (fail_if_success (with_reducible show wpAny _ _ (PySem.execs (Stmt.Assign [Expr.Name (Str.ofString "blanks") _] _ _ :: _) _) _ _ _)); (fail_if_success (with_reducible show wpAny _ _ (PySem.execs (PySem.Stmt.Expr _ _ :: _) _) _ _ _)))); walk1) | ((( (( (( (fail_if_success (with_reducible show wpAny _ _ (PySem.exec (Stmt.While _ _ _ _) _) _ _ _)); (fail_if_success (with_reducible show wpAny _ _ (PySem.exec (Stmt.For _ _ _ _ _) _) _ _ _)); (fail_if_success (with_reducible show wpAny _ _ (PySem.call (Value.ref _) _ _) _ _ _)); (fail_if_success (with_reducible show wpAny _ _ (PySem.pyIter _) _ _ _)); (fail_if_success (with_reducible show KswEnd _ _ _ _ _ _ _ _ _ _ _ _)); (fail_if_success (with_reducible show InvEndN _ _ _ _ _ _ _)))); (fail_if_success (with_reducible show wpAny _ _ (PySem.eval (Expr.ListComp _ _ _ _) _) _ _ _)); (fail_if_success (with_reducible show PyProof.Rows.LCt.CompSrcT _ _ _ _ _ _ _ _ _ _ _ _ _ _ _)))); (fail_if_success (with_reducible show wpAny _ _ (PySem.execs (Stmt.Assign [Expr.Name (Str.ofString "blanks") _] _ _ :: _) _) _ _ _)); (fail_if_success (with_reducible show wpAny _ _ (PySem.execs (PySem.Stmt.Expr _ _ :: _) _) _ _ _)))); leave1; walk_say "STEP leave1"; try dsimp only) | fail "no step"))
      (rename Fr _ _ _ _ => lF')
      (rename News _ _ _ _ => lN')
      (with_unfolding_all exact hQ _ _ _ lF' (fun q hq => lN' q (by
        rcases List.mem_cons.mp hq with e | e
        · exact e ▸ List.Mem.head _
        · exact List.Mem.tail _ (List.Mem.tail _ (List.Mem.tail _ e)))) (fun q hq => lt3 q (List.Mem.tail _ (List.Mem.tail _ hq))))
end Mine
end
section
open PySem PySem.W PyProof.Rows PySem.Calls
namespace Mine
set_option maxRecDepth 100000
set_option maxHeartbeats 8000000 in
theorem blks_wp (w : World) (p : Program) (loose : List Str) (mean : ExcName → Option Value) (mg mb : Str → Option Value) (A B : List Bool) (hA : A.length ≤ 7) (hB : B.length ≤ 7) (o1 o2 o3 o4 o5 : Obj)
    (h₀ : Heap) (L fa : Addr) (cd : Value) (u : Str → Option Value) (g : Heap) (tk : Nat) (s : Shared) (Q : Flow → Shared → Prop) (E : Value → Shared → Prop)
    (i j : Nat) (hi : i ≤ A.length) (hj : j ≤ B.length) (ti tj t1 t2 : CTok) (aLn aT : Addr) (ps rs : List Value) (n nT : Nat) (own : List (Addr × Obj))
    (F : Fr h₀ L g (fun y => if y = Str.ofString "i" then some (.int (i : Int) ti) else u y))
    (N : News h₀ L g ((L + 1 + 1 + 1 + 1 + 1, o5) :: (aLn, listOf ps.toArray n) :: (aT, listOf rs.toArray nT) :: (L + 1 + 1 + 1 + 1, o4) :: (L + 1 + 1 + 1, o3) :: (L + 1 + 1, o2) :: (L + 1, o1) :: own))
    (d1 : o1.data = .cell (some (.str (sg A) t1))) (d2 : o2.data = .cell (some (.str (sg B) t2))) (d3 : o3.data = .cell (some (.ref aT))) (d4 : o4.data = .cell (some (.ref aLn))) (d5 : o5.data = .cell (some (.int (j : Int) tj)))
    (hT : TabTo own A B i rs) (hR : RowTo own (A.take i) B j ps)
    (B0 : Below callerA h₀ [] h₀) (X : (Mine.hd.heap_39 w.params).In h₀) (T : Top p loose mean mg mb h₀)
    (hQ : ∀ (D : Addr) (h' : Heap) (tk' : Nat), Fr h₀ L h' (fun y => if y = Str.ofString "blanks" then some (.ref D) else if y = Str.ofString "i" then some (.int (i : Int) ti) else u y) →
      News h₀ L h' ((D, listOf ((blksL A B i j).map Value.bool).toArray 0) :: (L + 1 + 1 + 1 + 1 + 1, o5) :: (aLn, listOf ps.toArray n) :: (aT, listOf rs.toArray nT) :: (L + 1 + 1 + 1 + 1, o4) :: (L + 1 + 1 + 1, o3) :: (L + 1 + 1, o2) :: (L + 1, o1) :: own) →
      (∀ p ∈ (L + 1 + 1 + 1 + 1 + 1, o5) :: (aLn, listOf ps.toArray n) :: (aT, listOf rs.toArray nT) :: (L + 1 + 1 + 1 + 1, o4) :: (L + 1 + 1 + 1, o3) :: (L + 1 + 1, o2) :: (L + 1, o1) :: own, p.1 < D) →
      wpAny (model PySem.Challenge.rw_wn0005_01.prog w) (callerA.deeper (lawE L fa cd)) (execs (forJ.drop 2) (lawE L fa cd)) Q E { s with heap := h', toks := tk' }) :
    wpAny (model PySem.Challenge.rw_wn0005_01.prog w) (callerA.deeper (lawE L fa cd)) (execs (forJ.drop 1) (lawE L fa cd)) Q E { s with heap := g, toks := tk } := by
  k_with_none
  w_top off
  have hl1 : (sg A).length ≤ 7 := by rw [sg_len]; exact hA
  have hl2 : (sg B).length ≤ 7 := by rw [sg_len]; exact hB
  (with_unfolding_all show wpAny _ (callerA.deeper (envOfC (Str.ofString "law") (Scope.mk _ _ _ _ _) L fa cd)) (execs (_ :: _ :: _ :: _ :: _ :: _ :: []) (envOfC (Str.ofString "law") (Scope.mk _ _ _ _ _) L fa cd)) _ _ _)
  (try k_fold)
  (repeat' (first | (k_unfold; (try dsimp only)) | (k_end; (( (( (fail_if_success (with_reducible show wpAny _ _ (PySem.exec (Stmt.While _ _ _ _) _) _ _ _)); (fail_if_success (with_reducible show wpAny _ _ (PySem.exec (Stmt.For _ _ _ _ _) _) _ _ _)); (fail_if_success (with_reducible show wpAny _ _ (PySem.call (Value.ref _) _ _) _ _ _)); (fail_if_success (with_reducible show wpAny _ _ (PySem.pyIter _) _ _ _)); (fail_if_success (with_reducible show KswEnd _ _ _ _ _ _ _ _ _ _ _ _)); (fail_if_success (with_reducible show InvEndN _ _ _ _ _ _ _)))); (fail_if_success (with_reducible show wpAny _ _ (PySem.eval (Expr.ListComp _ _ _ _) _) _ _ _)); (fail_if_success (with_reducible show PyProof.Rows.LCt.CompSrcT _ _ _ _ _ _ _ _ _ _ _ _ _ _ _)))); wrow_close) | ((( (( (fail_if_success (with_reducible show wpAny _ _ (PySem.exec (Stmt.While _ _ _ _) _) _ _ _)); (fail_if_success (with_reducible show wpAny _ _ (PySem.exec (Stmt.For _ _ _ _ _) _) _ _ _)); (fail_if_success (with_reducible show wpAny _ _ (PySem.call (Value.ref _) _ _) _ _ _)); (fail_if_success (with_reducible show wpAny _ _ (PySem.pyIter _) _ _ _)); (fail_if_success (with_reducible show KswEnd _ _ _ _ _ _ _ _ _ _ _ _)); (fail_if_success (with_reducible show InvEndN _ _ _ _ _ _ _)))); (fail_if_success (with_reducible show wpAny _ _ (PySem.eval (Expr.ListComp _ _ _ _) _) _ _ _)); (fail_if_success (with_reducible show PyProof.Rows.LCt.CompSrcT _ _ _ _ _ _ _ _ _ _ _ _ _ _ _)))); walk1) | ((( (( (fail_if_success (with_reducible show wpAny _ _ (PySem.exec (Stmt.While _ _ _ _) _) _ _ _)); (fail_if_success (with_reducible show wpAny _ _ (PySem.exec (Stmt.For _ _ _ _ _) _) _ _ _)); (fail_if_success (with_reducible show wpAny _ _ (PySem.call (Value.ref _) _ _) _ _ _)); (fail_if_success (with_reducible show wpAny _ _ (PySem.pyIter _) _ _ _)); (fail_if_success (with_reducible show KswEnd _ _ _ _ _ _ _ _ _ _ _ _)); (fail_if_success (with_reducible show InvEndN _ _ _ _ _ _ _)))); (fail_if_success (with_reducible show wpAny _ _ (PySem.eval (Expr.ListComp _ _ _ _) _) _ _ _)); (fail_if_success (with_reducible show PyProof.Rows.LCt.CompSrcT _ _ _ _ _ _ _ _ _ _ _ _ _ _ _)))); dsimp only; (( (( (fail_if_success (with_reducible show wpAny _ _ (PySem.exec (Stmt.While _ _ _ _) _) _ _ _)); (fail_if_success (with_reducible show wpAny _ _ (PySem.exec (Stmt.For _ _ _ _ _) _) _ _ _)); (fail_if_success (with_reducible show wpAny _ _ (PySem.call (Value.ref _) _ _) _ _ _)); (fail_if_success (with_reducible show wpAny _ _ (PySem.pyIter _) _ _ _)); (fail_if_success (with_reducible show KswEnd _ _ _ _ _ _ _ _ _ _ _ _)); (fail_if_success (with_reducible show InvEndN _ _ _ _ _ _ _)))); (fail_if_success (with_reducible show wpAny _ _ (PySem.eval (Expr.ListComp _ _ _ _) _) _ _ _)); (fail_if_success (with_reducible show PyProof.Rows.LCt.CompSrcT _ _ _ _ _ _ _ _ _ _ _ _ _ _ _)))); walk1) | ((( (( (fail_if_success (with_reducible show wpAny _ _ (PySem.exec (Stmt.While _ _ _ _) _) _ _ _)); (fail_if_success (with_reducible show wpAny _ _ (PySem.exec (Stmt.For _ _ _ _ _) _) _ _ _)); (fail_if_success (with_reducible show wpAny _ _ (PySem.call (Value.ref _) _ _) _ _ _)); (fail_if_success (with_reducible show wpAny _ _ (PySem.pyIter _) _ _ _)); (fail_if_success (with_reducible show KswEnd _ _ _ _ _ _ _ _ _ _ _ _)); (fail_if_success (with_reducible show InvEndN _ _ _ _ _ _ _)))); (fail_if_success (with_reducible show wpAny _ _ (PySem.eval (Expr.ListComp _ _ _ _) _) _ _ _)); (fail_if_success (with_reducible show PyProof.Rows.LCt.CompSrcT _ _ _ _ _ _ _ _ _ _ _ _ _ _ _)))); leave1; walk_say "STEP leave1"; try dsimp only) | fail "no step"))
  (( k_dflt (refine LCt.ListComp_T (F₀ := by k_asm) (by with_unfolding_all rfl) (by decide) (by rfl) (by decide) (by rfl) ?_); (repeat' (first | (k_unfold; (try dsimp only)) | (k_end; (( (( (fail_if_success (with_reducible show wpAny _ _ (PySem.exec (Stmt.While _ _ _ _) _) _ _ _)); (fail_if_success (with_reducible show wpAny _ _ (PySem.exec (Stmt.For _ _ _ _ _) _) _ _ _)); (fail_if_success (with_reducible show wpAny _ _ (PySem.call (Value.ref _) _ _) _ _ _)); (fail_if_success (with_reducible show wpAny _ _ (PySem.pyIter _) _ _ _)); (fail_if_success (with_reducible show KswEnd _ _ _ _ _ _ _ _ _ _ _ _)); (fail_if_success (with_reducible show InvEndN _ _ _ _ _ _ _)))); (fail_if_success (with_reducible show wpAny _ _ (PySem.eval (Expr.ListComp _ _ _ _) _) _ _ _)); (fail_if_success (with_reducible show PyProof.Rows.LCt.CompSrcT _ _ _ _ _ _ _ _ _ _ _ _ _ _ _)))); wrow_close) | ((( (( (fail_if_success (with_reducible show wpAny _ _ (PySem.exec (Stmt.While _ _ _ _) _) _ _ _)); (fail_if_success (with_reducible show wpAny _ _ (PySem.exec (Stmt.For _ _ _ _ _) _) _ _ _)); (fail_if_success (with_reducible show wpAny _ _ (PySem.call (Value.ref _) _ _) _ _ _)); (fail_if_success (with_reducible show wpAny _ _ (PySem.pyIter _) _ _ _)); (fail_if_success (with_reducible show KswEnd _ _ _ _ _ _ _ _ _ _ _ _)); (fail_if_success (with_reducible show InvEndN _ _ _ _ _ _ _)))); (fail_if_success (with_reducible show wpAny _ _ (PySem.eval (Expr.ListComp _ _ _ _) _) _ _ _)); (fail_if_success (with_reducible show PyProof.Rows.LCt.CompSrcT _ _ _ _ _ _ _ _ _ _ _ _ _ _ _)))); walk1) | ((( (( (fail_if_success (with_reducible show wpAny _ _ (PySem.exec (Stmt.While _ _ _ _) _) _ _ _)); (fail_if_success (with_reducible show wpAny _ _ (PySem.exec (Stmt.For _ _ _ _ _) _) _ _ _)); (fail_if_success (with_reducible show wpAny _ _ (PySem.call (Value.ref _) _ _) _ _ _)); (fail_if_success (with_reducible show wpAny _ _ (PySem.pyIter _) _ _ _)); (fail_if_success (with_reducible show KswEnd _ _ _ _ _ _ _ _ _ _ _ _)); (fail_if_success (with_reducible show InvEndN _ _ _ _ _ _ _)))); (fail_if_success (with_reducible show wpAny _ _ (PySem.eval (Expr.ListComp _ _ _ _) _) _ _ _)); (fail_if_success (with_reducible show PyProof.Rows.LCt.CompSrcT _ _ _ _ _ _ _ _ _ _ _ _ _ _ _)))); dsimp only; (( (( (fail_if_success (with_reducible show wpAny _ _ (PySem.exec (Stmt.While _ _ _ _) _) _ _ _)); (fail_if_success (with_reducible show wpAny _ _ (PySem.exec (Stmt.For _ _ _ _ _) _) _ _ _)); (fail_if_success (with_reducible show wpAny _ _ (PySem.call (Value.ref _) _ _) _ _ _)); (fail_if_success (with_reducible show wpAny _ _ (PySem.pyIter _) _ _ _)); (fail_if_success (with_reducible show KswEnd _ _ _ _ _ _ _ _ _ _ _ _)); (fail_if_success (with_reducible show InvEndN _ _ _ _ _ _ _)))); (fail_if_success (with_reducible show wpAny _ _ (PySem.eval (Expr.ListComp _ _ _ _) _) _ _ _)); (fail_if_success (with_reducible show PyProof.Rows.LCt.CompSrcT _ _ _ _ _ _ _ _ _ _ _ _ _ _ _)))); walk1) | ((( (( (fail_if_success (with_reducible show wpAny _ _ (PySem.exec (Stmt.While _ _ _ _) _) _ _ _)); (fail_if_success (with_reducible show wpAny _ _ (PySem.exec (Stmt.For _ _ _ _ _) _) _ _ _)); (fail_if_success (with_reducible show wpAny _ _ (PySem.call (Value.ref _) _ _) _ _ _)); (fail_if_success (with_reducible show wpAny _ _ (PySem.pyIter _) _ _ _)); (fail_if_success (with_reducible show KswEnd _ _ _ _ _ _ _ _ _ _ _ _)); (fail_if_success (with_reducible show InvEndN _ _ _ _ _ _ _)))); (fail_if_success (with_reducible show wpAny _ _ (PySem.eval (Expr.ListComp _ _ _ _) _) _ _ _)); (fail_if_success (with_reducible show PyProof.Rows.LCt.CompSrcT _ _ _ _ _ _ _ _ _ _ _ _ _ _ _)))); leave1; walk_say "STEP leave1"; try dsimp only) | fail "no step")); refine LCt.CompSrcT.range (by rfl) (by k_asm) (by k_asm) (by assumption) (by exact small_one (by l_bnd) (by l_bnd) (by l_bnd) (by l_bnd)) (rs_one _) (by rw [PySem.sizeLine_eq]; omega) ?_; intro g'; dsimp only))
  refine' kcb_range (fun k => !(A.getD k false)) (fun k => gtB (A.take k) (mir (B.take j))) (fun k' t' I' oI' C' oC' D' m' ys' h' tk' S' E' hk' hC' hx' F' N' ne' => ?turn1) ?fin1
  case turn1 =>
    have hk9 : k' < (sg A).length := by rw [sg_len]; omega
    (repeat' (first | (k_unfold; (try dsimp only)) | (k_end; (( (( (fail_if_success (with_reducible show wpAny _ _ (PySem.exec (Stmt.While _ _ _ _) _) _ _ _)); (fail_if_success (with_reducible show wpAny _ _ (PySem.exec (Stmt.For _ _ _ _ _) _) _ _ _)); (fail_if_success (with_reducible show wpAny _ _ (PySem.call (Value.ref _) _ _) _ _ _)); (fail_if_success (with_reducible show wpAny _ _ (PySem.pyIter _) _ _ _)); (fail_if_success (with_reducible show KswEnd _ _ _ _ _ _ _ _ _ _ _ _)); (fail_if_success (with_reducible show InvEndN _ _ _ _ _ _ _)))); (fail_if_success (with_reducible show wpAny _ _ (PySem.eval (Expr.ListComp _ _ _ _) _) _ _ _)); (fail_if_success (with_reducible show PyProof.Rows.LCt.CompSrcT _ _ _ _ _ _ _ _ _ _ _ _ _ _ _)))); wrow_close) | ((( (( (fail_if_success (with_reducible show wpAny _ _ (PySem.exec (Stmt.While _ _ _ _) _) _ _ _)); (fail_if_success (with_reducible show wpAny _ _ (PySem.exec (Stmt.For _ _ _ _ _) _) _ _ _)); (fail_if_success (with_reducible show wpAny _ _ (PySem.call (Value.ref _) _ _) _ _ _)); (fail_if_success (with_reducible show wpAny _ _ (PySem.pyIter _) _ _ _)); (fail_if_success (with_reducible show KswEnd _ _ _ _ _ _ _ _ _ _ _ _)); (fail_if_success (with_reducible show InvEndN _ _ _ _ _ _ _)))); (fail_if_success (with_reducible show wpAny _ _ (PySem.eval (Expr.ListComp _ _ _ _) _) _ _ _)); (fail_if_success (with_reducible show PyProof.Rows.LCt.CompSrcT _ _ _ _ _ _ _ _ _ _ _ _ _ _ _)))); walk1) | ((( (( (fail_if_success (with_reducible show wpAny _ _ (PySem.exec (Stmt.While _ _ _ _) _) _ _ _)); (fail_if_success (with_reducible show wpAny _ _ (PySem.exec (Stmt.For _ _ _ _ _) _) _ _ _)); (fail_if_success (with_reducible show wpAny _ _ (PySem.call (Value.ref _) _ _) _ _ _)); (fail_if_success (with_reducible show wpAny _ _ (PySem.pyIter _) _ _ _)); (fail_if_success (with_reducible show KswEnd _ _ _ _ _ _ _ _ _ _ _ _)); (fail_if_success (with_reducible show InvEndN _ _ _ _ _ _ _)))); (fail_if_success (with_reducible show wpAny _ _ (PySem.eval (Expr.ListComp _ _ _ _) _) _ _ _)); (fail_if_success (with_reducible show PyProof.Rows.LCt.CompSrcT _ _ _ _ _ _ _ _ _ _ _ _ _ _ _)))); dsimp only; (( (( (fail_if_success (with_reducible show wpAny _ _ (PySem.exec (Stmt.While _ _ _ _) _) _ _ _)); (fail_if_success (with_reducible show wpAny _ _ (PySem.exec (Stmt.For _ _ _ _ _) _) _ _ _)); (fail_if_success (with_reducible show wpAny _ _ (PySem.call (Value.ref _) _ _) _ _ _)); (fail_if_success (with_reducible show wpAny _ _ (PySem.pyIter _) _ _ _)); (fail_if_success (with_reducible show KswEnd _ _ _ _ _ _ _ _ _ _ _ _)); (fail_if_success (with_reducible show InvEndN _ _ _ _ _ _ _)))); (fail_if_success (with_reducible show wpAny _ _ (PySem.eval (Expr.ListComp _ _ _ _) _) _ _ _)); (fail_if_success (with_reducible show PyProof.Rows.LCt.CompSrcT _ _ _ _ _ _ _ _ _ _ _ _ _ _ _)))); walk1) | ((( (( (fail_if_success (with_reducible show wpAny _ _ (PySem.exec (Stmt.While _ _ _ _) _) _ _ _)); (fail_if_success (with_reducible show wpAny _ _ (PySem.exec (Stmt.For _ _ _ _ _) _) _ _ _)); (fail_if_success (with_reducible show wpAny _ _ (PySem.call (Value.ref _) _ _) _ _ _)); (fail_if_success (with_reducible show wpAny _ _ (PySem.pyIter _) _ _ _)); (fail_if_success (with_reducible show KswEnd _ _ _ _ _ _ _ _ _ _ _ _)); (fail_if_success (with_reducible show InvEndN _ _ _ _ _ _ _)))); (fail_if_success (with_reducible show wpAny _ _ (PySem.eval (Expr.ListComp _ _ _ _) _) _ _ _)); (fail_if_success (with_reducible show PyProof.Rows.LCt.CompSrcT _ _ _ _ _ _ _ _ _ _ _ _ _ _ _)))); leave1; walk_say "STEP leave1"; try dsimp only) | fail "no step"))
    · obtain ⟨r, ps1, n9, e1, e2, e3⟩ := hT.2 k' hk'
      obtain ⟨p9, e4, n8, e5⟩ := e3.2 j (by omega)
      refine item_listL (N'.isList (by k_mem)) (by omega) (by omega) e1 ?_
      (repeat' (first | (k_unfold; (try dsimp only)) | (k_end; (( (( (fail_if_success (with_reducible show wpAny _ _ (PySem.exec (Stmt.While _ _ _ _) _) _ _ _)); (fail_if_success (with_reducible show wpAny _ _ (PySem.exec (Stmt.For _ _ _ _ _) _) _ _ _)); (fail_if_success (with_reducible show wpAny _ _ (PySem.call (Value.ref _) _ _) _ _ _)); (fail_if_success (with_reducible show wpAny _ _ (PySem.pyIter _) _ _ _)); (fail_if_success (with_reducible show KswEnd _ _ _ _ _ _ _ _ _ _ _ _)); (fail_if_success (with_reducible show InvEndN _ _ _ _ _ _ _)))); (fail_if_success (with_reducible show wpAny _ _ (PySem.eval (Expr.ListComp _ _ _ _) _) _ _ _)); (fail_if_success (with_reducible show PyProof.Rows.LCt.CompSrcT _ _ _ _ _ _ _ _ _ _ _ _ _ _ _)))); wrow_close) | ((( (( (fail_if_success (with_reducible show wpAny _ _ (PySem.exec (Stmt.While _ _ _ _) _) _ _ _)); (fail_if_success (with_reducible show wpAny _ _ (PySem.exec (Stmt.For _ _ _ _ _) _) _ _ _)); (fail_if_success (with_reducible show wpAny _ _ (PySem.call (Value.ref _) _ _) _ _ _)); (fail_if_success (with_reducible show wpAny _ _ (PySem.pyIter _) _ _ _)); (fail_if_success (with_reducible show KswEnd _ _ _ _ _ _ _ _ _ _ _ _)); (fail_if_success (with_reducible show InvEndN _ _ _ _ _ _ _)))); (fail_if_success (with_reducible show wpAny _ _ (PySem.eval (Expr.ListComp _ _ _ _) _) _ _ _)); (fail_if_success (with_reducible show PyProof.Rows.LCt.CompSrcT _ _ _ _ _ _ _ _ _ _ _ _ _ _ _)))); walk1) | ((( (( (fail_if_success (with_reducible show wpAny _ _ (PySem.exec (Stmt.While _ _ _ _) _) _ _ _)); (fail_if_success (with_reducible show wpAny _ _ (PySem.exec (Stmt.For _ _ _ _ _) _) _ _ _)); (fail_if_success (with_reducible show wpAny _ _ (PySem.call (Value.ref _) _ _) _ _ _)); (fail_if_success (with_reducible show wpAny _ _ (PySem.pyIter _) _ _ _)); (fail_if_success (with_reducible show KswEnd _ _ _ _ _ _ _ _ _ _ _ _)); (fail_if_success (with_reducible show InvEndN _ _ _ _ _ _ _)))); (fail_if_success (with_reducible show wpAny _ _ (PySem.eval (Expr.ListComp _ _ _ _) _) _ _ _)); (fail_if_success (with_reducible show PyProof.Rows.LCt.CompSrcT _ _ _ _ _ _ _ _ _ _ _ _ _ _ _)))); dsimp only; (( (( (fail_if_success (with_reducible show wpAny _ _ (PySem.exec (Stmt.While _ _ _ _) _) _ _ _)); (fail_if_success (with_reducible show wpAny _ _ (PySem.exec (Stmt.For _ _ _ _ _) _) _ _ _)); (fail_if_success (with_reducible show wpAny _ _ (PySem.call (Value.ref _) _ _) _ _ _)); (fail_if_success (with_reducible show wpAny _ _ (PySem.pyIter _) _ _ _)); (fail_if_success (with_reducible show KswEnd _ _ _ _ _ _ _ _ _ _ _ _)); (fail_if_success (with_reducible show InvEndN _ _ _ _ _ _ _)))); (fail_if_success (with_reducible show wpAny _ _ (PySem.eval (Expr.ListComp _ _ _ _) _) _ _ _)); (fail_if_success (with_reducible show PyProof.Rows.LCt.CompSrcT _ _ _ _ _ _ _ _ _ _ _ _ _ _ _)))); walk1) | ((( (( (fail_if_success (with_reducible show wpAny _ _ (PySem.exec (Stmt.While _ _ _ _) _) _ _ _)); (fail_if_success (with_reducible show wpAny _ _ (PySem.exec (Stmt.For _ _ _ _ _) _) _ _ _)); (fail_if_success (with_reducible show wpAny _ _ (PySem.call (Value.ref _) _ _) _ _ _)); (fail_if_success (with_reducible show wpAny _ _ (PySem.pyIter _) _ _ _)); (fail_if_success (with_reducible show KswEnd _ _ _ _ _ _ _ _ _ _ _ _)); (fail_if_success (with_reducible show InvEndN _ _ _ _ _ _ _)))); (fail_if_success (with_reducible show wpAny _ _ (PySem.eval (Expr.ListComp _ _ _ _) _) _ _ _)); (fail_if_success (with_reducible show PyProof.Rows.LCt.CompSrcT _ _ _ _ _ _ _ _ _ _ _ _ _ _ _)))); leave1; walk_say "STEP leave1"; try dsimp only) | fail "no step"))
      refine item_listL (N'.isList (by repeat (first | exact e2 | apply List.mem_cons_of_mem))) (by omega) (by omega) e4 ?_
      (repeat' (first | (k_unfold; (try dsimp only)) | (k_end; (( (( (fail_if_success (with_reducible show wpAny _ _ (PySem.exec (Stmt.While _ _ _ _) _) _ _ _)); (fail_if_success (with_reducible show wpAny _ _ (PySem.exec (Stmt.For _ _ _ _ _) _) _ _ _)); (fail_if_success (with_reducible show wpAny _ _ (PySem.call (Value.ref _) _ _) _ _ _)); (fail_if_success (with_reducible show wpAny _ _ (PySem.pyIter _) _ _ _)); (fail_if_success (with_reducible show KswEnd _ _ _ _ _ _ _ _ _ _ _ _)); (fail_if_success (with_reducible show InvEndN _ _ _ _ _ _ _)))); (fail_if_success (with_reducible show wpAny _ _ (PySem.eval (Expr.ListComp _ _ _ _) _) _ _ _)); (fail_if_success (with_reducible show PyProof.Rows.LCt.CompSrcT _ _ _ _ _ _ _ _ _ _ _ _ _ _ _)))); wrow_close) | ((( (( (fail_if_success (with_reducible show wpAny _ _ (PySem.exec (Stmt.While _ _ _ _) _) _ _ _)); (fail_if_success (with_reducible show wpAny _ _ (PySem.exec (Stmt.For _ _ _ _ _) _) _ _ _)); (fail_if_success (with_reducible show wpAny _ _ (PySem.call (Value.ref _) _ _) _ _ _)); (fail_if_success (with_reducible show wpAny _ _ (PySem.pyIter _) _ _ _)); (fail_if_success (with_reducible show KswEnd _ _ _ _ _ _ _ _ _ _ _ _)); (fail_if_success (with_reducible show InvEndN _ _ _ _ _ _ _)))); (fail_if_success (with_reducible show wpAny _ _ (PySem.eval (Expr.ListComp _ _ _ _) _) _ _ _)); (fail_if_success (with_reducible show PyProof.Rows.LCt.CompSrcT _ _ _ _ _ _ _ _ _ _ _ _ _ _ _)))); walk1) | ((( (( (fail_if_success (with_reducible show wpAny _ _ (PySem.exec (Stmt.While _ _ _ _) _) _ _ _)); (fail_if_success (with_reducible show wpAny _ _ (PySem.exec (Stmt.For _ _ _ _ _) _) _ _ _)); (fail_if_success (with_reducible show wpAny _ _ (PySem.call (Value.ref _) _ _) _ _ _)); (fail_if_success (with_reducible show wpAny _ _ (PySem.pyIter _) _ _ _)); (fail_if_success (with_reducible show KswEnd _ _ _ _ _ _ _ _ _ _ _ _)); (fail_if_success (with_reducible show InvEndN _ _ _ _ _ _ _)))); (fail_if_success (with_reducible show wpAny _ _ (PySem.eval (Expr.ListComp _ _ _ _) _) _ _ _)); (fail_if_success (with_reducible show PyProof.Rows.LCt.CompSrcT _ _ _ _ _ _ _ _ _ _ _ _ _ _ _)))); dsimp only; (( (( (fail_if_success (with_reducible show wpAny _ _ (PySem.exec (Stmt.While _ _ _ _) _) _ _ _)); (fail_if_success (with_reducible show wpAny _ _ (PySem.exec (Stmt.For _ _ _ _ _) _) _ _ _)); (fail_if_success (with_reducible show wpAny _ _ (PySem.call (Value.ref _) _ _) _ _ _)); (fail_if_success (with_reducible show wpAny _ _ (PySem.pyIter _) _ _ _)); (fail_if_success (with_reducible show KswEnd _ _ _ _ _ _ _ _ _ _ _ _)); (fail_if_success (with_reducible show InvEndN _ _ _ _ _ _ _)))); (fail_if_success (with_reducible show wpAny _ _ (PySem.eval (Expr.ListComp _ _ _ _) _) _ _ _)); (fail_if_success (with_reducible show PyProof.Rows.LCt.CompSrcT _ _ _ _ _ _ _ _ _ _ _ _ _ _ _)))); walk1) | ((( (( (fail_if_success (with_reducible show wpAny _ _ (PySem.exec (Stmt.While _ _ _ _) _) _ _ _)); (fail_if_success (with_reducible show wpAny _ _ (PySem.exec (Stmt.For _ _ _ _ _) _) _ _ _)); (fail_if_success (with_reducible show wpAny _ _ (PySem.call (Value.ref _) _ _) _ _ _)); (fail_if_success (with_reducible show wpAny _ _ (PySem.pyIter _) _ _ _)); (fail_if_success (with_reducible show KswEnd _ _ _ _ _ _ _ _ _ _ _ _)); (fail_if_success (with_reducible show InvEndN _ _ _ _ _ _ _)))); (fail_if_success (with_reducible show wpAny _ _ (PySem.eval (Expr.ListComp _ _ _ _) _) _ _ _)); (fail_if_success (with_reducible show PyProof.Rows.LCt.CompSrcT _ _ _ _ _ _ _ _ _ _ _ _ _ _ _)))); leave1; walk_say "STEP leave1"; try dsimp only) | fail "no step"))
      refine item_list (N'.isList (by repeat (first | exact e5 | apply List.mem_cons_of_mem))) (by omega) (by omega) rfl ?_
      (repeat' (first | (k_unfold; (try dsimp only)) | (k_end; (( (( (fail_if_success (with_reducible show wpAny _ _ (PySem.exec (Stmt.While _ _ _ _) _) _ _ _)); (fail_if_success (with_reducible show wpAny _ _ (PySem.exec (Stmt.For _ _ _ _ _) _) _ _ _)); (fail_if_success (with_reducible show wpAny _ _ (PySem.call (Value.ref _) _ _) _ _ _)); (fail_if_success (with_reducible show wpAny _ _ (PySem.pyIter _) _ _ _)); (fail_if_success (with_reducible show KswEnd _ _ _ _ _ _ _ _ _ _ _ _)); (fail_if_success (with_reducible show InvEndN _ _ _ _ _ _ _)))); (fail_if_success (with_reducible show wpAny _ _ (PySem.eval (Expr.ListComp _ _ _ _) _) _ _ _)); (fail_if_success (with_reducible show PyProof.Rows.LCt.CompSrcT _ _ _ _ _ _ _ _ _ _ _ _ _ _ _)))); wrow_close) | ((( (( (fail_if_success (with_reducible show wpAny _ _ (PySem.exec (Stmt.While _ _ _ _) _) _ _ _)); (fail_if_success (with_reducible show wpAny _ _ (PySem.exec (Stmt.For _ _ _ _ _) _) _ _ _)); (fail_if_success (with_reducible show wpAny _ _ (PySem.call (Value.ref _) _ _) _ _ _)); (fail_if_success (with_reducible show wpAny _ _ (PySem.pyIter _) _ _ _)); (fail_if_success (with_reducible show KswEnd _ _ _ _ _ _ _ _ _ _ _ _)); (fail_if_success (with_reducible show InvEndN _ _ _ _ _ _ _)))); (fail_if_success (with_reducible show wpAny _ _ (PySem.eval (Expr.ListComp _ _ _ _) _) _ _ _)); (fail_if_success (with_reducible show PyProof.Rows.LCt.CompSrcT _ _ _ _ _ _ _ _ _ _ _ _ _ _ _)))); walk1) | ((( (( (fail_if_success (with_reducible show wpAny _ _ (PySem.exec (Stmt.While _ _ _ _) _) _ _ _)); (fail_if_success (with_reducible show wpAny _ _ (PySem.exec (Stmt.For _ _ _ _ _) _) _ _ _)); (fail_if_success (with_reducible show wpAny _ _ (PySem.call (Value.ref _) _ _) _ _ _)); (fail_if_success (with_reducible show wpAny _ _ (PySem.pyIter _) _ _ _)); (fail_if_success (with_reducible show KswEnd _ _ _ _ _ _ _ _ _ _ _ _)); (fail_if_success (with_reducible show InvEndN _ _ _ _ _ _ _)))); (fail_if_success (with_reducible show wpAny _ _ (PySem.eval (Expr.ListComp _ _ _ _) _) _ _ _)); (fail_if_success (with_reducible show PyProof.Rows.LCt.CompSrcT _ _ _ _ _ _ _ _ _ _ _ _ _ _ _)))); dsimp only; (( (( (fail_if_success (with_reducible show wpAny _ _ (PySem.exec (Stmt.While _ _ _ _) _) _ _ _)); (fail_if_success (with_reducible show wpAny _ _ (PySem.exec (Stmt.For _ _ _ _ _) _) _ _ _)); (fail_if_success (with_reducible show wpAny _ _ (PySem.call (Value.ref _) _ _) _ _ _)); (fail_if_success (with_reducible show wpAny _ _ (PySem.pyIter _) _ _ _)); (fail_if_success (with_reducible show KswEnd _ _ _ _ _ _ _ _ _ _ _ _)); (fail_if_success (with_reducible show InvEndN _ _ _ _ _ _ _)))); (fail_if_success (with_reducible show wpAny _ _ (PySem.eval (Expr.ListComp _ _ _ _) _) _ _ _)); (fail_if_success (with_reducible show PyProof.Rows.LCt.CompSrcT _ _ _ _ _ _ _ _ _ _ _ _ _ _ _)))); walk1) | ((( (( (fail_if_success (with_reducible show wpAny _ _ (PySem.exec (Stmt.While _ _ _ _) _) _ _ _)); (fail_if_success (with_reducible show wpAny _ _ (PySem.exec (Stmt.For _ _ _ _ _) _) _ _ _)); (fail_if_success (with_reducible show wpAny _ _ (PySem.call (Value.ref _) _ _) _ _ _)); (fail_if_success (with_reducible show wpAny _ _ (PySem.pyIter _) _ _ _)); (fail_if_success (with_reducible show KswEnd _ _ _ _ _ _ _ _ _ _ _ _)); (fail_if_success (with_reducible show InvEndN _ _ _ _ _ _ _)))); (fail_if_success (with_reducible show wpAny _ _ (PySem.eval (Expr.ListComp _ _ _ _) _) _ _ _)); (fail_if_success (with_reducible show PyProof.Rows.LCt.CompSrcT _ _ _ _ _ _ _ _ _ _ _ _ _ _ _)))); leave1; walk_say "STEP leave1"; try dsimp only) | fail "no step"))
      exact CBEl.mk' (by assumption) (by assumption) ⟨(item_blk (by omega)).symm.trans (by assumption), rfl⟩
    · exact CBEl.mk' (by assumption) (by assumption) ((item_blk (by omega)).symm.trans (by assumption))
  case fin1 =>
    intro D1 h1 tk1 F1 N1 off1
    (repeat' (first | (k_unfold; (try dsimp only)) | (k_end; (( (( (fail_if_success (with_reducible show wpAny _ _ (PySem.exec (Stmt.While _ _ _ _) _) _ _ _)); (fail_if_success (with_reducible show wpAny _ _ (PySem.exec (Stmt.For _ _ _ _ _) _) _ _ _)); (fail_if_success (with_reducible show wpAny _ _ (PySem.call (Value.ref _) _ _) _ _ _)); (fail_if_success (with_reducible show wpAny _ _ (PySem.pyIter _) _ _ _)); (fail_if_success (with_reducible show KswEnd _ _ _ _ _ _ _ _ _ _ _ _)); (fail_if_success (with_reducible show InvEndN _ _ _ _ _ _ _)))); (fail_if_success (with_reducible show wpAny _ _ (PySem.eval (Expr.ListComp _ _ _ _) _) _ _ _)); (fail_if_success (with_reducible show PyProof.Rows.LCt.CompSrcT _ _ _ _ _ _ _ _ _ _ _ _ _ _ _)))); wrow_close) | ((( (( (fail_if_success (with_reducible show wpAny _ _ (PySem.exec (Stmt.While _ _ _ _) _) _ _ _)); (fail_if_success (with_reducible show wpAny _ _ (PySem.exec (Stmt.For _ _ _ _ _) _) _ _ _)); (fail_if_success (with_reducible show wpAny _ _ (PySem.call (Value.ref _) _ _) _ _ _)); (fail_if_success (with_reducible show wpAny _ _ (PySem.pyIter _) _ _ _)); (fail_if_success (with_reducible show KswEnd _ _ _ _ _ _ _ _ _ _ _ _)); (fail_if_success (with_reducible show InvEndN _ _ _ _ _ _ _)))); (fail_if_success (with_reducible show wpAny _ _ (PySem.eval (Expr.ListComp _ _ _ _) _) _ _ _)); (fail_if_success (with_reducible show PyProof.Rows.LCt.CompSrcT _ _ _ _ _ _ _ _ _ _ _ _ _ _ _)))); walk1) | ((( (( (fail_if_success (with_reducible show wpAny _ _ (PySem.exec (Stmt.While _ _ _ _) _) _ _ _)); (fail_if_success (with_reducible show wpAny _ _ (PySem.exec (Stmt.For _ _ _ _ _) _) _ _ _)); (fail_if_success (with_reducible show wpAny _ _ (PySem.call (Value.ref _) _ _) _ _ _)); (fail_if_success (with_reducible show wpAny _ _ (PySem.pyIter _) _ _ _)); (fail_if_success (with_reducible show KswEnd _ _ _ _ _ _ _ _ _ _ _ _)); (fail_if_success (with_reducible show InvEndN _ _ _ _ _ _ _)))); (fail_if_success (with_reducible show wpAny _ _ (PySem.eval (Expr.ListComp _ _ _ _) _) _ _ _)); (fail_if_success (with_reducible show PyProof.Rows.LCt.CompSrcT _ _ _ _ _ _ _ _ _ _ _ _ _ _ _)))); dsimp only; (( (( (fail_if_success (with_reducible show wpAny _ _ (PySem.exec (Stmt.While _ _ _ _) _) _ _ _)); (fail_if_success (with_reducible show wpAny _ _ (PySem.exec (Stmt.For _ _ _ _ _) _) _ _ _)); (fail_if_success (with_reducible show wpAny _ _ (PySem.call (Value.ref _) _ _) _ _ _)); (fail_if_success (with_reducible show wpAny _ _ (PySem.pyIter _) _ _ _)); (fail_if_success (with_reducible show KswEnd _ _ _ _ _ _ _ _ _ _ _ _)); (fail_if_success (with_reducible show InvEndN _ _ _ _ _ _ _)))); (fail_if_success (with_reducible show wpAny _ _ (PySem.eval (Expr.ListComp _ _ _ _) _) _ _ _)); (fail_if_success (with_reducible show PyProof.Rows.LCt.CompSrcT _ _ _ _ _ _ _ _ _ _ _ _ _ _ _)))); walk1) | ((( (( (fail_if_success (with_reducible show wpAny _ _ (PySem.exec (Stmt.While _ _ _ _) _) _ _ _)); (fail_if_success (with_reducible show wpAny _ _ (PySem.exec (Stmt.For _ _ _ _ _) _) _ _ _)); (fail_if_success (with_reducible show wpAny _ _ (PySem.call (Value.ref _) _ _) _ _ _)); (fail_if_success (with_reducible show wpAny _ _ (PySem.pyIter _) _ _ _)); (fail_if_success (with_reducible show KswEnd _ _ _ _ _ _ _ _ _ _ _ _)); (fail_if_success (with_reducible show InvEndN _ _ _ _ _ _ _)))); (fail_if_success (with_reducible show wpAny _ _ (PySem.eval (Expr.ListComp _ _ _ _) _) _ _ _)); (fail_if_success (with_reducible show PyProof.Rows.LCt.CompSrcT _ _ _ _ _ _ _ _ _ _ _ _ _ _ _)))); leave1; walk_say "STEP leave1"; try dsimp only) | fail "no step"))
    (( k_dflt (refine LCt.ListComp_T (F₀ := by k_asm) (by with_unfolding_all rfl) (by decide) (by rfl) (by decide) (by rfl) ?_); (repeat' (first | (k_unfold; (try dsimp only)) | (k_end; (( (( (fail_if_success (with_reducible show wpAny _ _ (PySem.exec (Stmt.While _ _ _ _) _) _ _ _)); (fail_if_success (with_reducible show wpAny _ _ (PySem.exec (Stmt.For _ _ _ _ _) _) _ _ _)); (fail_if_success (with_reducible show wpAny _ _ (PySem.call (Value.ref _) _ _) _ _ _)); (fail_if_success (with_reducible show wpAny _ _ (PySem.pyIter _) _ _ _)); (fail_if_success (with_reducible show KswEnd _ _ _ _ _ _ _ _ _ _ _ _)); (fail_if_success (with_reducible show InvEndN _ _ _ _ _ _ _)))); (fail_if_success (with_reducible show wpAny _ _ (PySem.eval (Expr.ListComp _ _ _ _) _) _ _ _)); (fail_if_success (with_reducible show PyProof.Rows.LCt.CompSrcT _ _ _ _ _ _ _ _ _ _ _ _ _ _ _)))); wrow_close) | ((( (( (fail_if_success (with_reducible show wpAny _ _ (PySem.exec (Stmt.While _ _ _ _) _) _ _ _)); (fail_if_success (with_reducible show wpAny _ _ (PySem.exec (Stmt.For _ _ _ _ _) _) _ _ _)); (fail_if_success (with_reducible show wpAny _ _ (PySem.call (Value.ref _) _ _) _ _ _)); (fail_if_success (with_reducible show wpAny _ _ (PySem.pyIter _) _ _ _)); (fail_if_success (with_reducible show KswEnd _ _ _ _ _ _ _ _ _ _ _ _)); (fail_if_success (with_reducible show InvEndN _ _ _ _ _ _ _)))); (fail_if_success (with_reducible show wpAny _ _ (PySem.eval (Expr.ListComp _ _ _ _) _) _ _ _)); (fail_if_success (with_reducible show PyProof.Rows.LCt.CompSrcT _ _ _ _ _ _ _ _ _ _ _ _ _ _ _)))); walk1) | ((( (( (fail_if_success (with_reducible show wpAny _ _ (PySem.exec (Stmt.While _ _ _ _) _) _ _ _)); (fail_if_success (with_reducible show wpAny _ _ (PySem.exec (Stmt.For _ _ _ _ _) _) _ _ _)); (fail_if_success (with_reducible show wpAny _ _ (PySem.call (Value.ref _) _ _) _ _ _)); (fail_if_success (with_reducible show wpAny _ _ (PySem.pyIter _) _ _ _)); (fail_if_success (with_reducible show KswEnd _ _ _ _ _ _ _ _ _ _ _ _)); (fail_if_success (with_reducible show InvEndN _ _ _ _ _ _ _)))); (fail_if_success (with_reducible show wpAny _ _ (PySem.eval (Expr.ListComp _ _ _ _) _) _ _ _)); (fail_if_success (with_reducible show PyProof.Rows.LCt.CompSrcT _ _ _ _ _ _ _ _ _ _ _ _ _ _ _)))); dsimp only; (( (( (fail_if_success (with_reducible show wpAny _ _ (PySem.exec (Stmt.While _ _ _ _) _) _ _ _)); (fail_if_success (with_reducible show wpAny _ _ (PySem.exec (Stmt.For _ _ _ _ _) _) _ _ _)); (fail_if_success (with_reducible show wpAny _ _ (PySem.call (Value.ref _) _ _) _ _ _)); (fail_if_success (with_reducible show wpAny _ _ (PySem.pyIter _) _ _ _)); (fail_if_success (with_reducible show KswEnd _ _ _ _ _ _ _ _ _ _ _ _)); (fail_if_success (with_reducible show InvEndN _ _ _ _ _ _ _)))); (fail_if_success (with_reducible show wpAny _ _ (PySem.eval (Expr.ListComp _ _ _ _) _) _ _ _)); (fail_if_success (with_reducible show PyProof.Rows.LCt.CompSrcT _ _ _ _ _ _ _ _ _ _ _ _ _ _ _)))); walk1) | ((( (( (fail_if_success (with_reducible show wpAny _ _ (PySem.exec (Stmt.While _ _ _ _) _) _ _ _)); (fail_if_success (with_reducible show wpAny _ _ (PySem.exec (Stmt.For _ _ _ _ _) _) _ _ _)); (fail_if_success (with_reducible show wpAny _ _ (PySem.call (Value.ref _) _ _) _ _ _)); (fail_if_success (with_reducible show wpAny _ _ (PySem.pyIter _) _ _ _)); (fail_if_success (with_reducible show KswEnd _ _ _ _ _ _ _ _ _ _ _ _)); (fail_if_success (with_reducible show InvEndN _ _ _ _ _ _ _)))); (fail_if_success (with_reducible show wpAny _ _ (PySem.eval (Expr.ListComp _ _ _ _) _) _ _ _)); (fail_if_success (with_reducible show PyProof.Rows.LCt.CompSrcT _ _ _ _ _ _ _ _ _ _ _ _ _ _ _)))); leave1; walk_say "STEP leave1"; try dsimp only) | fail "no step")); refine LCt.CompSrcT.range (by rfl) (by k_asm) (by k_asm) (by assumption) (by exact small_one (by l_bnd) (by l_bnd) (by l_bnd) (by l_bnd)) (rs_one _) (by rw [PySem.sizeLine_eq]; omega) ?_; intro g'; dsimp only))
    refine' kcb_range (fun k => !(B.getD k false)) (fun k => gtB (A.take i) (mir (B.take k))) (fun k' t' I' oI' C' oC' D' m' ys' h' tk' S' E' hk' hC' hx' F' N' ne' => ?turn2) ?fin2
    case turn2 =>
      have hk9 : k' < (sg B).length := by rw [sg_len]; omega
      (repeat' (first | (k_unfold; (try dsimp only)) | (k_end; (( (( (fail_if_success (with_reducible show wpAny _ _ (PySem.exec (Stmt.While _ _ _ _) _) _ _ _)); (fail_if_success (with_reducible show wpAny _ _ (PySem.exec (Stmt.For _ _ _ _ _) _) _ _ _)); (fail_if_success (with_reducible show wpAny _ _ (PySem.call (Value.ref _) _ _) _ _ _)); (fail_if_success (with_reducible show wpAny _ _ (PySem.pyIter _) _ _ _)); (fail_if_success (with_reducible show KswEnd _ _ _ _ _ _ _ _ _ _ _ _)); (fail_if_success (with_reducible show InvEndN _ _ _ _ _ _ _)))); (fail_if_success (with_reducible show wpAny _ _ (PySem.eval (Expr.ListComp _ _ _ _) _) _ _ _)); (fail_if_success (with_reducible show PyProof.Rows.LCt.CompSrcT _ _ _ _ _ _ _ _ _ _ _ _ _ _ _)))); wrow_close) | ((( (( (fail_if_success (with_reducible show wpAny _ _ (PySem.exec (Stmt.While _ _ _ _) _) _ _ _)); (fail_if_success (with_reducible show wpAny _ _ (PySem.exec (Stmt.For _ _ _ _ _) _) _ _ _)); (fail_if_success (with_reducible show wpAny _ _ (PySem.call (Value.ref _) _ _) _ _ _)); (fail_if_success (with_reducible show wpAny _ _ (PySem.pyIter _) _ _ _)); (fail_if_success (with_reducible show KswEnd _ _ _ _ _ _ _ _ _ _ _ _)); (fail_if_success (with_reducible show InvEndN _ _ _ _ _ _ _)))); (fail_if_success (with_reducible show wpAny _ _ (PySem.eval (Expr.ListComp _ _ _ _) _) _ _ _)); (fail_if_success (with_reducible show PyProof.Rows.LCt.CompSrcT _ _ _ _ _ _ _ _ _ _ _ _ _ _ _)))); walk1) | ((( (( (fail_if_success (with_reducible show wpAny _ _ (PySem.exec (Stmt.While _ _ _ _) _) _ _ _)); (fail_if_success (with_reducible show wpAny _ _ (PySem.exec (Stmt.For _ _ _ _ _) _) _ _ _)); (fail_if_success (with_reducible show wpAny _ _ (PySem.call (Value.ref _) _ _) _ _ _)); (fail_if_success (with_reducible show wpAny _ _ (PySem.pyIter _) _ _ _)); (fail_if_success (with_reducible show KswEnd _ _ _ _ _ _ _ _ _ _ _ _)); (fail_if_success (with_reducible show InvEndN _ _ _ _ _ _ _)))); (fail_if_success (with_reducible show wpAny _ _ (PySem.eval (Expr.ListComp _ _ _ _) _) _ _ _)); (fail_if_success (with_reducible show PyProof.Rows.LCt.CompSrcT _ _ _ _ _ _ _ _ _ _ _ _ _ _ _)))); dsimp only; (( (( (fail_if_success (with_reducible show wpAny _ _ (PySem.exec (Stmt.While _ _ _ _) _) _ _ _)); (fail_if_success (with_reducible show wpAny _ _ (PySem.exec (Stmt.For _ _ _ _ _) _) _ _ _)); (fail_if_success (with_reducible show wpAny _ _ (PySem.call (Value.ref _) _ _) _ _ _)); (fail_if_success (with_reducible show wpAny _ _ (PySem.pyIter _) _ _ _)); (fail_if_success (with_reducible show KswEnd _ _ _ _ _ _ _ _ _ _ _ _)); (fail_if_success (with_reducible show InvEndN _ _ _ _ _ _ _)))); (fail_if_success (with_reducible show wpAny _ _ (PySem.eval (Expr.ListComp _ _ _ _) _) _ _ _)); (fail_if_success (with_reducible show PyProof.Rows.LCt.CompSrcT _ _ _ _ _ _ _ _ _ _ _ _ _ _ _)))); walk1) | ((( (( (fail_if_success (with_reducible show wpAny _ _ (PySem.exec (Stmt.While _ _ _ _) _) _ _ _)); (fail_if_success (with_reducible show wpAny _ _ (PySem.exec (Stmt.For _ _ _ _ _) _) _ _ _)); (fail_if_success (with_reducible show wpAny _ _ (PySem.call (Value.ref _) _ _) _ _ _)); (fail_if_success (with_reducible show wpAny _ _ (PySem.pyIter _) _ _ _)); (fail_if_success (with_reducible show KswEnd _ _ _ _ _ _ _ _ _ _ _ _)); (fail_if_success (with_reducible show InvEndN _ _ _ _ _ _ _)))); (fail_if_success (with_reducible show wpAny _ _ (PySem.eval (Expr.ListComp _ _ _ _) _) _ _ _)); (fail_if_success (with_reducible show PyProof.Rows.LCt.CompSrcT _ _ _ _ _ _ _ _ _ _ _ _ _ _ _)))); leave1; walk_say "STEP leave1"; try dsimp only) | fail "no step"))
      · obtain ⟨p9, e4, n8, e5⟩ := hR.2 k' hk'
        refine item_listL (N'.isList (by k_mem)) (by omega) (by omega) e4 ?_
        (repeat' (first | (k_unfold; (try dsimp only)) | (k_end; (( (( (fail_if_success (with_reducible show wpAny _ _ (PySem.exec (Stmt.While _ _ _ _) _) _ _ _)); (fail_if_success (with_reducible show wpAny _ _ (PySem.exec (Stmt.For _ _ _ _ _) _) _ _ _)); (fail_if_success (with_reducible show wpAny _ _ (PySem.call (Value.ref _) _ _) _ _ _)); (fail_if_success (with_reducible show wpAny _ _ (PySem.pyIter _) _ _ _)); (fail_if_success (with_reducible show KswEnd _ _ _ _ _ _ _ _ _ _ _ _)); (fail_if_success (with_reducible show InvEndN _ _ _ _ _ _ _)))); (fail_if_success (with_reducible show wpAny _ _ (PySem.eval (Expr.ListComp _ _ _ _) _) _ _ _)); (fail_if_success (with_reducible show PyProof.Rows.LCt.CompSrcT _ _ _ _ _ _ _ _ _ _ _ _ _ _ _)))); wrow_close) | ((( (( (fail_if_success (with_reducible show wpAny _ _ (PySem.exec (Stmt.While _ _ _ _) _) _ _ _)); (fail_if_success (with_reducible show wpAny _ _ (PySem.exec (Stmt.For _ _ _ _ _) _) _ _ _)); (fail_if_success (with_reducible show wpAny _ _ (PySem.call (Value.ref _) _ _) _ _ _)); (fail_if_success (with_reducible show wpAny _ _ (PySem.pyIter _) _ _ _)); (fail_if_success (with_reducible show KswEnd _ _ _ _ _ _ _ _ _ _ _ _)); (fail_if_success (with_reducible show InvEndN _ _ _ _ _ _ _)))); (fail_if_success (with_reducible show wpAny _ _ (PySem.eval (Expr.ListComp _ _ _ _) _) _ _ _)); (fail_if_success (with_reducible show PyProof.Rows.LCt.CompSrcT _ _ _ _ _ _ _ _ _ _ _ _ _ _ _)))); walk1) | ((( (( (fail_if_success (with_reducible show wpAny _ _ (PySem.exec (Stmt.While _ _ _ _) _) _ _ _)); (fail_if_success (with_reducible show wpAny _ _ (PySem.exec (Stmt.For _ _ _ _ _) _) _ _ _)); (fail_if_success (with_reducible show wpAny _ _ (PySem.call (Value.ref _) _ _) _ _ _)); (fail_if_success (with_reducible show wpAny _ _ (PySem.pyIter _) _ _ _)); (fail_if_success (with_reducible show KswEnd _ _ _ _ _ _ _ _ _ _ _ _)); (fail_if_success (with_reducible show InvEndN _ _ _ _ _ _ _)))); (fail_if_success (with_reducible show wpAny _ _ (PySem.eval (Expr.ListComp _ _ _ _) _) _ _ _)); (fail_if_success (with_reducible show PyProof.Rows.LCt.CompSrcT _ _ _ _ _ _ _ _ _ _ _ _ _ _ _)))); dsimp only; (( (( (fail_if_success (with_reducible show wpAny _ _ (PySem.exec (Stmt.While _ _ _ _) _) _ _ _)); (fail_if_success (with_reducible show wpAny _ _ (PySem.exec (Stmt.For _ _ _ _ _) _) _ _ _)); (fail_if_success (with_reducible show wpAny _ _ (PySem.call (Value.ref _) _ _) _ _ _)); (fail_if_success (with_reducible show wpAny _ _ (PySem.pyIter _) _ _ _)); (fail_if_success (with_reducible show KswEnd _ _ _ _ _ _ _ _ _ _ _ _)); (fail_if_success (with_reducible show InvEndN _ _ _ _ _ _ _)))); (fail_if_success (with_reducible show wpAny _ _ (PySem.eval (Expr.ListComp _ _ _ _) _) _ _ _)); (fail_if_success (with_reducible show PyProof.Rows.LCt.CompSrcT _ _ _ _ _ _ _ _ _ _ _ _ _ _ _)))); walk1) | ((( (( (fail_if_success (with_reducible show wpAny _ _ (PySem.exec (Stmt.While _ _ _ _) _) _ _ _)); (fail_if_success (with_reducible show wpAny _ _ (PySem.exec (Stmt.For _ _ _ _ _) _) _ _ _)); (fail_if_success (with_reducible show wpAny _ _ (PySem.call (Value.ref _) _ _) _ _ _)); (fail_if_success (with_reducible show wpAny _ _ (PySem.pyIter _) _ _ _)); (fail_if_success (with_reducible show KswEnd _ _ _ _ _ _ _ _ _ _ _ _)); (fail_if_success (with_reducible show InvEndN _ _ _ _ _ _ _)))); (fail_if_success (with_reducible show wpAny _ _ (PySem.eval (Expr.ListComp _ _ _ _) _) _ _ _)); (fail_if_success (with_reducible show PyProof.Rows.LCt.CompSrcT _ _ _ _ _ _ _ _ _ _ _ _ _ _ _)))); leave1; walk_say "STEP leave1"; try dsimp only) | fail "no step"))
        refine item_list (N'.isList (by repeat (first | exact e5 | apply List.mem_cons_of_mem))) (by omega) (by omega) rfl ?_
        (repeat' (first | (k_unfold; (try dsimp only)) | (k_end; (( (( (fail_if_success (with_reducible show wpAny _ _ (PySem.exec (Stmt.While _ _ _ _) _) _ _ _)); (fail_if_success (with_reducible show wpAny _ _ (PySem.exec (Stmt.For _ _ _ _ _) _) _ _ _)); (fail_if_success (with_reducible show wpAny _ _ (PySem.call (Value.ref _) _ _) _ _ _)); (fail_if_success (with_reducible show wpAny _ _ (PySem.pyIter _) _ _ _)); (fail_if_success (with_reducible show KswEnd _ _ _ _ _ _ _ _ _ _ _ _)); (fail_if_success (with_reducible show InvEndN _ _ _ _ _ _ _)))); (fail_if_success (with_reducible show wpAny _ _ (PySem.eval (Expr.ListComp _ _ _ _) _) _ _ _)); (fail_if_success (with_reducible show PyProof.Rows.LCt.CompSrcT _ _ _ _ _ _ _ _ _ _ _ _ _ _ _)))); wrow_close) | ((( (( (fail_if_success (with_reducible show wpAny _ _ (PySem.exec (Stmt.While _ _ _ _) _) _ _ _)); (fail_if_success (with_reducible show wpAny _ _ (PySem.exec (Stmt.For _ _ _ _ _) _) _ _ _)); (fail_if_success (with_reducible show wpAny _ _ (PySem.call (Value.ref _) _ _) _ _ _)); (fail_if_success (with_reducible show wpAny _ _ (PySem.pyIter _) _ _ _)); (fail_if_success (with_reducible show KswEnd _ _ _ _ _ _ _ _ _ _ _ _)); (fail_if_success (with_reducible show InvEndN _ _ _ _ _ _ _)))); (fail_if_success (with_reducible show wpAny _ _ (PySem.eval (Expr.ListComp _ _ _ _) _) _ _ _)); (fail_if_success (with_reducible show PyProof.Rows.LCt.CompSrcT _ _ _ _ _ _ _ _ _ _ _ _ _ _ _)))); walk1) | ((( (( (fail_if_success (with_reducible show wpAny _ _ (PySem.exec (Stmt.While _ _ _ _) _) _ _ _)); (fail_if_success (with_reducible show wpAny _ _ (PySem.exec (Stmt.For _ _ _ _ _) _) _ _ _)); (fail_if_success (with_reducible show wpAny _ _ (PySem.call (Value.ref _) _ _) _ _ _)); (fail_if_success (with_reducible show wpAny _ _ (PySem.pyIter _) _ _ _)); (fail_if_success (with_reducible show KswEnd _ _ _ _ _ _ _ _ _ _ _ _)); (fail_if_success (with_reducible show InvEndN _ _ _ _ _ _ _)))); (fail_if_success (with_reducible show wpAny _ _ (PySem.eval (Expr.ListComp _ _ _ _) _) _ _ _)); (fail_if_success (with_reducible show PyProof.Rows.LCt.CompSrcT _ _ _ _ _ _ _ _ _ _ _ _ _ _ _)))); dsimp only; (( (( (fail_if_success (with_reducible show wpAny _ _ (PySem.exec (Stmt.While _ _ _ _) _) _ _ _)); (fail_if_success (with_reducible show wpAny _ _ (PySem.exec (Stmt.For _ _ _ _ _) _) _ _ _)); (fail_if_success (with_reducible show wpAny _ _ (PySem.call (Value.ref _) _ _) _ _ _)); (fail_if_success (with_reducible show wpAny _ _ (PySem.pyIter _) _ _ _)); (fail_if_success (with_reducible show KswEnd _ _ _ _ _ _ _ _ _ _ _ _)); (fail_if_success (with_reducible show InvEndN _ _ _ _ _ _ _)))); (fail_if_success (with_reducible show wpAny _ _ (PySem.eval (Expr.ListComp _ _ _ _) _) _ _ _)); (fail_if_success (with_reducible show PyProof.Rows.LCt.CompSrcT _ _ _ _ _ _ _ _ _ _ _ _ _ _ _)))); walk1) | ((( (( (fail_if_success (with_reducible show wpAny _ _ (PySem.exec (Stmt.While _ _ _ _) _) _ _ _)); (fail_if_success (with_reducible show wpAny _ _ (PySem.exec (Stmt.For _ _ _ _ _) _) _ _ _)); (fail_if_success (with_reducible show wpAny _ _ (PySem.call (Value.ref _) _ _) _ _ _)); (fail_if_success (with_reducible show wpAny _ _ (PySem.pyIter _) _ _ _)); (fail_if_success (with_reducible show KswEnd _ _ _ _ _ _ _ _ _ _ _ _)); (fail_if_success (with_reducible show InvEndN _ _ _ _ _ _ _)))); (fail_if_success (with_reducible show wpAny _ _ (PySem.eval (Expr.ListComp _ _ _ _) _) _ _ _)); (fail_if_success (with_reducible show PyProof.Rows.LCt.CompSrcT _ _ _ _ _ _ _ _ _ _ _ _ _ _ _)))); leave1; walk_say "STEP leave1"; try dsimp only) | fail "no step"))
        exact CBEl.mk' (by assumption) (by assumption) ⟨(item_blk (by omega)).symm.trans (by assumption), rfl⟩
      · exact CBEl.mk' (by assumption) (by assumption) ((item_blk (by omega)).symm.trans (by assumption))
    case fin2 =>
      intro D2 h2 tk2 F2 N2 off2
      refine kmk_add_lit (zs := (blksL A B i j).map Value.bool) F2 N2 (N2.isList (by k_mem)) (N2.isList (by k_mem)) (by simp [blksL, Function.comp_def]) ?_ ?hz
      case hz =>
        rw [PySem.sizeLine_eq]
        have z1 := size_le (fun k => !(A.getD k false)) (fun k => Value.bool (gtB (A.take k) (mir (B.take j)))) i
        have z2 := size_le (fun k => !(B.getD k false)) (fun k => Value.bool (gtB (A.take i) (mir (B.take k)))) j
        simp only [List.length_map] at z1 z2 ⊢
        omega
      intro D3 h3 F3 N3 lt3
      (repeat' (first | (k_unfold; (try dsimp only)) | (k_end; (( (( (( (fail_if_success (with_reducible show wpAny _ _ (PySem.exec (Stmt.While _ _ _ _) _) _ _ _)); (fail_if_success (with_reducible show wpAny _ _ (PySem.exec (Stmt.For _ _ _ _ _) _) _ _ _)); (fail_if_success (with_reducible show wpAny _ _ (PySem.call (Value.ref _) _ _) _ _ _)); (fail_if_success (with_reducible show wpAny _ _ (PySem.pyIter _) _ _ _)); (fail_if_success (with_reducible show KswEnd _ _ _ _ _ _ _ _ _ _ _ _)); (fail_if_success (with_reducible show InvEndN _ _ _ _ _ _ _)))); (fail_if_success (with_reducible show wpAny _ _ (PySem.eval (Expr.ListComp _ _ _ _) _) _ _ _)); (fail_if_success (with_reducible show PyProof.Rows.LCt.CompSrcT _ _ _ _ _ _ _ _ _ _ _ _ _ _ _)))); (fail_if_success (with_reducible show wpAny _ _ (PySem.execs (Stmt.Assign [Expr.Name (Str.ofString "blanks") _] _ _ :: _) _) _ _ _)); (fail_if_success (with_reducible show wpAny _ _ (PySem.execs (PySem.Stmt.Expr _ _ :: _) _) _ _ _)))); wrow_close) | ((( (( (( (fail_if_success (with_reducible show wpAny _ _ (PySem.exec (Stmt.While _ _ _ _) _) _ _ _)); (fail_if_success (with_reducible show wpAny _ _ (PySem.exec (Stmt.For _ _ _ _ _) _) _ _ _)); (fail_if_success (with_reducible show wpAny _ _ (PySem.call (Value.ref _) _ _) _ _ _)); (fail_if_success (with_reducible show wpAny _ _ (PySem.pyIter _) _ _ _)); (fail_if_success (with_reducible show KswEnd _ _ _ _ _ _ _ _ _ _ _ _)); (fail_if_success (with_reducible show InvEndN _ _ _ _ _ _ _)))); (fail_if_success (with_reducible show wpAny _ _ (PySem.eval (Expr.ListComp _ _ _ _) _) _ _ _)); (fail_if_success (with_reducible show PyProof.Rows.LCt.CompSrcT _ _ _ _ _ _ _ _ _ _ _ _ _ _ _)))); (fail_if_success (with_reducible show wpAny _ _ (PySem.execs (Stmt.Assign [Expr.Name (Str.ofString "blanks") _] _ _ :: _) _) _ _ _)); (fail_if_success (with_reducible show wpAny _ _ (PySem.execs (PySem.Stmt.Expr _ _ :: _) _) _ _ _)))); walk1) | ((( (( (( (fail_if_success (with_reducible show wpAny _ _ (PySem.exec (Stmt.While _ _ _ _) _) _ _ _)); (fail_if_success (with_reducible show wpAny _ _ (PySem.exec (Stmt.For _ _ _ _ _) _) _ _ _)); (fail_if_success (with_reducible show wpAny _ _ (PySem.call (Value.ref _) _ _) _ _ _)); (fail_if_success (with_reducible show wpAny _ _ (PySem.pyIter _) _ _ _)); (fail_if_success (with_reducible show KswEnd _ _ _ _ _ _ _ _ _ _ _ _)); (fail_if_success (with_reducible show InvEndN _ _ _ _ _ _ _)))); (fail_if_success (with_reducible show wpAny _ _ (PySem.eval (Expr.ListComp _ _ _ _) _) _ _ _)); (fail_if_success (with_reducible show PyProof.Rows.LCt.CompSrcT _ _ _ _ _ _ _ _ _ _ _ _ _ _ _)))); (fail_if_success (with_reducible show wpAny _ _ (PySem.execs (Stmt.Assign [Expr.Name (Str.ofString "blanks") _] _ _ :: _) _) _ _ _)); (fail_if_success (with_reducible show wpAny _ _ (PySem.execs (PySem.Stmt.Expr _ _ :: _) _) _ _ _)))); dsimp only; (( (( (( (fail_if_success (with_reducible show wpAny _ _ (PySem.exec (Stmt.While _ _ _ _) _) _ _ _)); (fail_if_success (with_reducible show wpAny _ _ (PySem.exec (Stmt.For _ _ _ _ _) _) _ _ _)); (fail_if_success (with_reducible show wpAny _ _ (PySem.call (Value.ref _) _ _) _ _ _)); (fail_if_success (with_reducible show wpAny _ _ (PySem.pyIter _) _ _ _)); (fail_if_success (with_reducible show KswEnd _ _ _ _ _ _ _ _ _ _ _ _)); (fail_if_success (with_reducible show InvEndN _ _ _ _ _ _ _)))); (fail_if_success (with_reducible show wpAny _ _ (PySem.eval (Expr.ListComp _ _ _ _) _) _ _ _)); (fail_if_success (with_reducible show PyProof.Rows.LCt.CompSrcT _ _ _ _ _ _ _ _ _ _ _ _ _ _ _)))); (fail_if_success (with_reducible show wpAny _ _ (PySem.execs (Stmt.Assign [Expr.Name (Str.ofString "blanks") _] _ _ :: _) _) _ _ _)); (fail_if_success (with_reducible show wpAny _ _ (PySem.execs (PySem.Stmt.Expr _ _ :: _) _) _ _ _)))); walk1) | ((( (( (( (fail_if_success (with_reducible show wpAny _ _ (PySem.exec (Stmt.While _ _ _ _) _) _ _ _)); (fail_if_success (with_reducible show wpAny _ _ (PySem.exec (Stmt.For _ _ _ _ _) _) _ _ _)); (fail_if_success (with_reducible show wpAny _ _ (PySem.call (Value.ref _) _ _) _ _ _)); (fail_if_success (with_reducible show wpAny _ _ (PySem.pyIter _) _ _ _)); (fail_if_success (with_reducible show KswEnd _ _ _ _ _ _ _ _ _ _ _ _)); (fail_if_success (with_reducible show InvEndN _ _ _ _ _ _ _)))); (fail_if_success (with_reducible show wpAny _ _ (PySem.eval (Expr.ListComp _ _ _ _) _) _ _ _)); (fail_if_success (with_reducible show PyProof.Rows.LCt.CompSrcT _ _ _ _ _ _ _ _ _ _ _ _ _ _ _)))); (fail_if_success (with_reducible show wpAny _ _ (PySem.execs (Stmt.Assign [Expr.Name (Str.ofString "blanks") _] _ _ :: _) _) _ _ _)); (fail_if_success (with_reducible show wpAny _ _ (PySem.execs (PySem.Stmt.Expr _ _ :: _) _) _ _ _)))); leave1; walk_say "STEP leave1"; try dsimp only) | fail "no step"))
      (rename Fr _ _ _ _ => lF')
      (rename News _ _ _ _ => lN')
      (with_unfolding_all exact hQ _ _ _ lF' (fun q hq => lN' q (by
        rcases List.mem_cons.mp hq with e | e
        · exact e ▸ List.Mem.head _
        · exact List.Mem.tail _ (List.Mem.tail _ (List.Mem.tail _ e)))) (fun q hq => lt3 q (List.Mem.tail _ (List.Mem.tail _ hq))))
end Mine
end
section
open PySem PySem.W PyProof.Rows
namespace Mine
set_option maxRecDepth 100000
theorem gt_irr : ∀ X : List Bool, gtB X X = false
  | [] => rfl
  | x :: r => by
    show (if x = x then gtB r r else x) = false
    rw [if_pos rfl]; exact gt_irr r
theorem gt_asym : ∀ X Y : List Bool, gtB X Y = true → gtB Y X = false
  | [], [], h => by cases h
  | [], y :: _, h => by cases y <;> simp_all [gtB]
  | x :: _, [], h => by cases x <;> simp_all [gtB]
  | x :: xs, y :: ys, h => by
    have ih := gt_asym xs ys
    cases x <;> cases y <;> simp_all [gtB]
theorem gt_tri : ∀ X Y : List Bool, gtB X Y = false → gtB Y X = false → X = Y
  | [], [], _, _ => rfl
  | [], y :: _, h, h' => by cases y <;> simp_all [gtB]
  | x :: _, [], h, h' => by cases x <;> simp_all [gtB]
  | x :: xs, y :: ys, h, h' => by
    have ih := gt_tri xs ys
    cases x <;> cases y <;> simp_all [gtB]
theorem mir_mir (X : List Bool) : mir (mir X) = X := by
  unfold mir
  rw [List.map_map]
  have : ((fun b : Bool => !b) ∘ fun b => !b) = id := by funext b; cases b <;> rfl
  rw [this, List.map_id]
theorem gt_mir : ∀ X Y : List Bool, gtB (mir X) (mir Y) = gtB Y X
  | [], [] => rfl
  | [], y :: _ => by cases y <;> rfl
  | x :: _, [] => by cases x <;> rfl
  | x :: xs, y :: ys => by
    have ih := gt_mir xs ys
    cases x <;> cases y <;> simp_all [gtB, mir]
theorem gt_step : ∀ X Y : List Bool, gtB X Y = true ↔ (∃ k, k < X.length ∧ X.getD k false = true ∧ gtB Y (X.take k) = false) ∨ (∃ k, k < Y.length ∧ Y.getD k true = false ∧ gtB (Y.take k) X = false)
  | [], [] => by simp [gtB]
  | [], y :: ys => by
    cases y
    · simp only [gtB, Bool.not_false, true_iff]
      refine .inr ⟨0, by simp, rfl, rfl⟩
    · simp only [gtB, Bool.not_true, Bool.false_eq_true, false_iff]
      rintro (⟨k, h, _⟩ | ⟨k, h1, h2, h3⟩)
      · simp at h
      · cases k with
        | zero => cases h2
        | succ k => simp [gtB] at h3
  | x :: xs, [] => by
    cases x
    · simp only [gtB, Bool.false_eq_true, false_iff]
      rintro (⟨k, h1, h2, h3⟩ | ⟨k, h, _⟩)
      · cases k with
        | zero => cases h2
        | succ k => simp [gtB] at h3
      · simp at h
    · simp only [gtB, true_iff]
      exact .inl ⟨0, by simp, rfl, rfl⟩
  | x :: xs, y :: ys => by
    have ih := gt_step xs ys
    by_cases hxy : x = y
    · subst hxy
      have e : gtB (x :: xs) (x :: ys) = gtB xs ys := by simp [gtB]
      rw [e, ih]
      constructor
      · rintro (⟨k, h1, h2, h3⟩ | ⟨k, h1, h2, h3⟩)
        · exact .inl ⟨k + 1, by simpa using h1, by simpa using h2, by simpa [gtB] using h3⟩
        · exact .inr ⟨k + 1, by simpa using h1, by simpa using h2, by simpa [gtB] using h3⟩
      · rintro (⟨k, h1, h2, h3⟩ | ⟨k, h1, h2, h3⟩)
        · cases k with
          | zero =>
            have hx : x = true := by simpa using h2
            subst hx
            simp [gtB] at h3
          | succ k => exact .inl ⟨k, by simpa using h1, by simpa using h2, by simpa [gtB] using h3⟩
        · cases k with
          | zero =>
            have hx : x = false := by simpa using h2
            subst hx
            simp [gtB] at h3
          | succ k => exact .inr ⟨k, by simpa using h1, by simpa using h2, by simpa [gtB] using h3⟩
    · cases x
      · have hy : y = true := by cases y <;> simp_all
        subst hy
        simp only [gtB, Bool.false_eq_true, if_false, false_iff]
        rintro (⟨k, h1, h2, h3⟩ | ⟨k, h1, h2, h3⟩)
        · cases k with
          | zero => cases h2
          | succ k => simp [gtB] at h3
        · cases k with
          | zero => cases h2
          | succ k => simp [gtB] at h3
      · have hy : y = false := by cases y <;> simp_all
        subst hy
        simp only [gtB, Bool.true_eq_false, if_false, true_iff]
        exact .inl ⟨0, by simp, rfl, by simp [gtB]⟩
end Mine
end
section
open PySem PySem.W PyProof.Rows
namespace Mine
set_option maxRecDepth 100000
theorem gt_trans : ∀ X Y Z : List Bool, gtB X Y = true → gtB Y Z = true → gtB X Z = true
  | [], [], _, h, _ => by cases h
  | [], y :: ys, [], h, h' => by cases y <;> simp_all [gtB]
  | [], y :: ys, z :: zs, h, h' => by cases y <;> cases z <;> simp_all [gtB]
  | x :: xs, [], [], h, h' => by cases h'
  | x :: xs, [], z :: zs, h, h' => by cases x <;> cases z <;> simp_all [gtB]
  | x :: xs, y :: ys, [], h, h' => by cases x <;> cases y <;> simp_all [gtB]
  | x :: xs, y :: ys, z :: zs, h, h' => by
    have ih := gt_trans xs ys zs
    cases x <;> cases y <;> cases z <;> simp_all [gtB]
def inord : Nat → List Bool → List (List Bool)
  | 0, p => [p]
  | n + 1, p => inord n (p ++ [false]) ++ p :: inord n (p ++ [true])
theorem mem_inord : ∀ (n : Nat) (p Y : List Bool), Y.length ≤ n → p ++ Y ∈ inord n p
  | 0, p, [], _ => by simp [inord]
  | 0, p, _ :: _, h => by simp at h
  | n + 1, p, [], _ => by simp [inord]
  | n + 1, p, y :: r, h => by
    have ih := mem_inord n (p ++ [y]) r (by simpa using h)
    rw [List.append_assoc, List.singleton_append] at ih
    cases y
    · exact List.mem_append_left _ ih
    · exact List.mem_append_right _ (List.mem_cons_of_mem _ ih)
def RR (a b : List Bool) : Prop := wB a < wB b ∧ gtB b a = true
def chainB : List (List Bool × Int) → Bool
  | a :: b :: r => decide (a.2 < b.2) && gtB b.1 a.1 && chainB (b :: r)
  | _ => true
theorem chain_ok : chainB ((inord 7 []).map fun a => (a, wB a)) = true := by decide +kernel
theorem chain_pw : ∀ l : List (List Bool), chainB (l.map fun a => (a, wB a)) = true → l.Pairwise RR
  | [], _ => .nil
  | [a], _ => by simp
  | a :: b :: r, h => by
    have h' : (decide (wB a < wB b) && gtB b a && chainB ((b :: r).map fun a => (a, wB a))) = true := h
    rw [Bool.and_eq_true, Bool.and_eq_true, decide_eq_true_eq] at h'
    have ih := chain_pw (b :: r) h'.2
    refine List.pairwise_cons.mpr ⟨fun c hc => ?_, ih⟩
    rcases List.mem_cons.mp hc with e | hc
    · rw [e]; exact h'.1
    · have := (List.pairwise_cons.mp ih).1 c hc
      exact ⟨Int.lt_trans h'.1.1 this.1, gt_trans _ _ _ this.2 h'.1.2⟩
theorem pw_tri {R : List Bool → List Bool → Prop} : ∀ l : List (List Bool), l.Pairwise R → ∀ a ∈ l, ∀ b ∈ l, a = b ∨ R a b ∨ R b a
  | [], _, _, h, _, _ => nomatch h
  | c :: r, h, a, ha, b, hb => by
    have h' := List.pairwise_cons.mp h
    rcases List.mem_cons.mp ha with ea | ha
    · rcases List.mem_cons.mp hb with eb | hb
      · exact .inl (ea.trans eb.symm)
      · exact .inr (.inl (ea ▸ h'.1 b hb))
    · rcases List.mem_cons.mp hb with eb | hb
      · exact .inr (.inr (eb ▸ h'.1 a ha))
      · exact pw_tri r h'.2 a ha b hb
theorem worth_gt {X Y : List Bool} (hX : X.length ≤ 7) (hY : Y.length ≤ 7) : decide (worth Y < worth X) = gtB X Y := by
  rw [worth_eq, worth_eq]
  have pw := chain_pw _ chain_ok
  rcases pw_tri _ pw X (mem_inord 7 [] X hX) Y (mem_inord 7 [] Y hY) with e | e | e
  · rw [e, gt_irr]; simp
  · rw [gt_asym _ _ e.2]
    have := e.1
    simp; omega
  · rw [e.2]
    have := e.1
    simp; omega
theorem worth_mir (B : List Bool) : worth (mir B) = - worth B := worth_neg B
theorem lt_lists : ∀ X Y : List Bool, decide (Y.map cp ++ [44] < X.map cp ++ [44]) = gtB X Y
  | [], [] => by decide
  | [], y :: ys => by
    rw [Bool.eq_iff_iff, decide_eq_true_iff]
    show (cp y :: (ys.map cp ++ [44]) < 44 :: []) ↔ _
    rw [List.cons_lt_cons_iff]
    cases y <;> simp [gtB, cp]
  | x :: xs, [] => by
    rw [Bool.eq_iff_iff, decide_eq_true_iff]
    show (44 :: [] < cp x :: (xs.map cp ++ [44])) ↔ _
    rw [List.cons_lt_cons_iff]
    cases x <;> simp [gtB, cp]
  | x :: xs, y :: ys => by
    have ih := lt_lists xs ys
    rw [Bool.eq_iff_iff, decide_eq_true_iff] at ih ⊢
    show (cp y :: (ys.map cp ++ [44]) < cp x :: (xs.map cp ++ [44])) ↔ _
    rw [List.cons_lt_cons_iff, ih]
    cases x <;> cases y <;> simp [gtB, cp]
theorem text_gt (X Y : List Bool) : decide ((sg Y ++ Str.ofString ",").cps.toList < (sg X ++ Str.ofString ",").cps.toList) = gtB X Y := by
  rw [cps_app, cps_app, sg_list, sg_list, comma]
  exact lt_lists X Y
end Mine
end
section
open PySem PySem.W PyProof.Rows PySem.Calls
namespace Mine
set_option maxRecDepth 100000
theorem in_bools {prog : Program} {w : World} {A : Around} {E : Value → Shared → Prop} {s : Shared} {Q : Value → Shared → Prop} {l : Addr} {bs : List Bool} (hl : s.heap.IsList l (bs.map Value.bool).toArray) (h : Q (.bool (bs.any fun b => b == false)) s) :
    wpAny (model prog w) A (compareOp .In (.bool false) (.ref l)) Q E s := by
  refine SeqAt.in_listAt (fun v => match v with | .bool b => b == false | _ => false) hl (fun y hy => ?_) ?_
  · obtain ⟨b, _, rfl⟩ := List.mem_map.mp (List.mem_toArray.mp hy)
    exact SeqAt.EqAt.bool_bool b false
  · rw [← Array.any_toList]
    simpa [List.any_map, Function.comp_def] using h
theorem dots_any {A B : List Bool} {i j : Nat} (hi : i ≤ A.length) (hj : j ≤ B.length) : ((dotsL A B i j).any fun b => b == false) = gtB (A.take i) (mir (B.take j)) := by
  rw [Bool.eq_iff_iff, gt_step]
  unfold dotsL
  rw [List.any_append, Bool.or_eq_true, List.any_map, List.any_map, List.any_eq_true, List.any_eq_true]
  refine or_congr ⟨?_, ?_⟩ ⟨?_, ?_⟩
  · rintro ⟨k, hk, h⟩
    rw [List.mem_filter, List.mem_range] at hk
    refine ⟨k, by rw [List.length_take]; omega, ?_, ?_⟩
    · simpa [List.getD_eq_getElem?_getD, List.getElem?_take, hk.1] using hk.2
    · rw [List.take_take, Nat.min_eq_left (by omega)]
      simpa using h
  · rintro ⟨k, h1, h2, h3⟩
    rw [List.length_take] at h1
    refine ⟨k, ?_, ?_⟩
    · rw [List.mem_filter, List.mem_range]
      refine ⟨by omega, ?_⟩
      have hk : k < i := by omega
      simpa [List.getD_eq_getElem?_getD, List.getElem?_take, hk] using h2
    · rw [List.take_take, Nat.min_eq_left (by omega)] at h3
      simpa using h3
  · rintro ⟨k, hk, h⟩
    rw [List.mem_filter, List.mem_range] at hk
    refine ⟨k, by unfold mir; rw [List.length_map, List.length_take]; omega, ?_, ?_⟩
    · have hk2 : k < B.length := by omega
      have := hk.2
      simp [mir, List.getD_eq_getElem?_getD, List.getElem?_take, hk.1, hk2] at this ⊢
      exact this
    · have e : (mir (B.take j)).take k = mir (B.take k) := by
        unfold mir
        rw [← List.map_take, List.take_take, Nat.min_eq_left (by omega)]
      rw [e]
      simpa using h
  · rintro ⟨k, h1, h2, h3⟩
    unfold mir at h1
    rw [List.length_map, List.length_take] at h1
    have hk : k < j := by omega
    have hk2 : k < B.length := by omega
    refine ⟨k, ?_, ?_⟩
    · rw [List.mem_filter, List.mem_range]
      refine ⟨hk, ?_⟩
      simp [mir, List.getD_eq_getElem?_getD, List.getElem?_take, hk, hk2] at h2 ⊢
      exact h2
    · have e : (mir (B.take j)).take k = mir (B.take k) := by
        unfold mir
        rw [← List.map_take, List.take_take, Nat.min_eq_left (by omega)]
      rw [e] at h3
      simpa using h3
theorem blks_any {A B : List Bool} {i j : Nat} (hi : i ≤ A.length) (hj : j ≤ B.length) : ((blksL A B i j).any fun b => b == false) = gtB (mir (B.take j)) (A.take i) := by
  rw [Bool.eq_iff_iff, gt_step, or_comm]
  unfold blksL
  rw [List.any_append, Bool.or_eq_true, List.any_map, List.any_map, List.any_eq_true, List.any_eq_true]
  refine or_congr ⟨?_, ?_⟩ ⟨?_, ?_⟩
  · rintro ⟨k, hk, h⟩
    rw [List.mem_filter, List.mem_range] at hk
    have hk2 : k < A.length := by omega
    refine ⟨k, by rw [List.length_take]; omega, ?_, ?_⟩
    · have := hk.2
      simp [List.getD_eq_getElem?_getD, List.getElem?_take, hk.1, hk2] at this ⊢
      exact this
    · rw [List.take_take, Nat.min_eq_left (by omega)]
      simpa using h
  · rintro ⟨k, h1, h2, h3⟩
    rw [List.length_take] at h1
    have hk : k < i := by omega
    have hk2 : k < A.length := by omega
    refine ⟨k, ?_, ?_⟩
    · rw [List.mem_filter, List.mem_range]
      refine ⟨by omega, ?_⟩
      simp [List.getD_eq_getElem?_getD, List.getElem?_take, hk, hk2] at h2 ⊢
      exact h2
    · rw [List.take_take, Nat.min_eq_left (by omega)] at h3
      simpa using h3
  · rintro ⟨k, hk, h⟩
    rw [List.mem_filter, List.mem_range] at hk
    have hk2 : k < B.length := by omega
    refine ⟨k, by unfold mir; rw [List.length_map, List.length_take]; omega, ?_, ?_⟩
    · have := hk.2
      simp [mir, List.getD_eq_getElem?_getD, List.getElem?_take, hk.1, hk2] at this ⊢
      exact this
    · have e : (mir (B.take j)).take k = mir (B.take k) := by
        unfold mir
        rw [← List.map_take, List.take_take, Nat.min_eq_left (by omega)]
      rw [e]
      simpa using h
  · rintro ⟨k, h1, h2, h3⟩
    unfold mir at h1
    rw [List.length_map, List.length_take] at h1
    have hk : k < j := by omega
    have hk2 : k < B.length := by omega
    refine ⟨k, ?_, ?_⟩
    · rw [List.mem_filter, List.mem_range]
      refine ⟨hk, ?_⟩
      simp [mir, List.getD_eq_getElem?_getD, List.getElem?_take, hk, hk2] at h2 ⊢
      exact h2
    · have e : (mir (B.take j)).take k = mir (B.take k) := by
        unfold mir
        rw [← List.map_take, List.take_take, Nat.min_eq_left (by omega)]
      rw [e] at h3
      simpa using h3
end Mine
end
section
open PySem PySem.W PyProof.Rows PySem.Calls
namespace Mine
set_option maxRecDepth 100000
theorem slice_take {A : List Bool} {i : Nat} (hi : i ≤ A.length) : Txt.slice (sg A) none (some (i : Int)) = sg (A.take i) := by
  unfold Txt.slice
  rw [StrLaws.sliceIdx_none_lo]
  refine (show _ = StrLaws.sliceText (sg A) (some ((0 : Nat) : Int)) (some (i : Int)) from rfl).trans ?_
  rw [StrLaws.sliceText_nat _ (Nat.zero_le i) (by rw [sg_len]; exact hi)]
  apply str_of_list
  show (((sg A).cps.toList.drop 0).take (i - 0)) = _
  rw [List.drop_zero, Nat.sub_zero, sg_list, sg_list, List.map_take]
theorem gt_cases (X Y : List Bool) : (gtB X Y = true ∧ gtB Y X = false) ∨ (gtB X Y = false ∧ gtB Y X = true) ∨ (gtB X Y = false ∧ gtB Y X = false) := by
  have h := gt_asym X Y
  cases h1 : gtB X Y
  · cases h2 : gtB Y X
    · exact .inr (.inr ⟨rfl, rfl⟩)
    · exact .inr (.inl ⟨rfl, rfl⟩)
  · exact .inl ⟨rfl, h h1⟩
theorem collX (w : World) (p : Program) (loose : List Str) (mean : ExcName → Option Value) (mg mb : Str → Option Value) {A B : List Bool} {i j : Nat} (hi : i ≤ A.length) (hj : j ≤ B.length) (t u : CTok) :
    CL w p loose mean mg mb 1 8 38 [.str (Txt.slice (sg A) none (some (i : Int)) ++ Str.ofString ",") t, .str (Txt.slice (sg (mir B)) none (some (j : Int)) ++ Str.ofString ",") u] (IsI (if gtB (A.take i) (mir (B.take j)) = true then 1 else if gtB (mir (B.take j)) (A.take i) = true then -1 else 0)) := by
  have h := collC w p loose mean mg mb (Txt.slice (sg A) none (some (i : Int)) ++ Str.ofString ",") (Txt.slice (sg (mir B)) none (some (j : Int)) ++ Str.ofString ",") t u
  rw [slice_take hi, slice_take (by unfold mir; rw [List.length_map]; exact hj)] at h ⊢
  have e : (mir B).take j = mir (B.take j) := by unfold mir; rw [List.map_take]
  rw [e] at h ⊢
  rw [text_gt, text_gt] at h
  rcases gt_cases (A.take i) (mir (B.take j)) with ⟨e1, e2⟩ | ⟨e1, e2⟩ | ⟨e1, e2⟩
  · rw [e1, e2] at h ⊢; exact h
  · rw [e1, e2] at h ⊢; exact h
  · rw [e1, e2] at h ⊢; exact h
theorem sum_pos {A B : List Bool} {i j : Nat} (hA : A.length ≤ 7) (hB : B.length ≤ 7) (hi : i ≤ A.length) (hj : j ≤ B.length) :
    decide (0 < (worthsF (sg A)).getD (i : Int).toNat 0 + (worthsF (sg B)).getD (j : Int).toNat 0) = gtB (A.take i) (mir (B.take j)) := by
  have h1 : (A.take i).length ≤ 7 := by rw [List.length_take]; omega
  have h2 : (B.take j).length ≤ 7 := by rw [List.length_take]; omega
  have h3 : (mir (B.take j)).length ≤ 7 := by unfold mir; rw [List.length_map]; exact h2
  rw [Int.toNat_natCast, Int.toNat_natCast, worth_take hi, worth_take hj, ← worth_gt h1 h3, worth_mir]
  have : (0 < worth (A.take i) + worth (B.take j)) ↔ (-worth (B.take j) < worth (A.take i)) := by omega
  exact decide_eq_decide.mpr this
theorem sum_neg {A B : List Bool} {i j : Nat} (hA : A.length ≤ 7) (hB : B.length ≤ 7) (hi : i ≤ A.length) (hj : j ≤ B.length) :
    decide ((worthsF (sg A)).getD (i : Int).toNat 0 + (worthsF (sg B)).getD (j : Int).toNat 0 < 0) = gtB (mir (B.take j)) (A.take i) := by
  have h1 : (A.take i).length ≤ 7 := by rw [List.length_take]; omega
  have h2 : (B.take j).length ≤ 7 := by rw [List.length_take]; omega
  have h3 : (mir (B.take j)).length ≤ 7 := by unfold mir; rw [List.length_map]; exact h2
  rw [Int.toNat_natCast, Int.toNat_natCast, worth_take hi, worth_take hj, ← worth_gt h3 h1, worth_mir]
  have : (worth (A.take i) + worth (B.take j) < 0) ↔ (worth (A.take i) < -worth (B.take j)) := by omega
  exact decide_eq_decide.mpr this
theorem news_pick {h₀ h : Heap} {L : Addr} {a b c d : Addr × Obj} {r : List (Addr × Obj)} (N : News h₀ L h (a :: b :: c :: d :: r)) : News h₀ L h (b :: r) := fun p hp => by
  rcases List.mem_cons.mp hp with e | e
  · exact e ▸ N b (.tail _ (.head _))
  · exact N p (.tail _ (.tail _ (.tail _ (.tail _ e))))
set_option maxHeartbeats 8000000 in
theorem rest3_wp (w : World) (p : Program) (loose : List Str) (mean : ExcName → Option Value) (mg mb : Str → Option Value) (A B : List Bool) (hA : A.length ≤ 7) (hB : B.length ≤ 7) (o1 o2 o3 o4 o5 oO oI : Obj)
    (h₀ : Heap) (L fa : Addr) (cd : Value) (u : Str → Option Value) (g : Heap) (tk : Nat) (s : Shared) (Q : Flow → Shared → Prop) (E : Value → Shared → Prop)
    (i j : Nat) (hi : i ≤ A.length) (hj : j ≤ B.length) (ti tj tm t1 t2 : CTok) (itO itI aLn aT ad1 ad2 D1 D2 : Addr) (ps rs us1 us2 : List Value) (n nT n1 n2 : Nat) (own : List (Addr × Obj))
    (F : Fr h₀ L g (fun y => if y = Str.ofString "blanks" then some (.ref D2) else if y = Str.ofString "dots" then some (.ref D1) else if y = Str.ofString "i" then some (.int (i : Int) ti) else if y = Str.ofString "twos" then some (.ref ad2) else if y = Str.ofString "ones" then some (.ref ad1) else if y = Str.ofString "mirrored" then some (.str (sg (mir B)) tm) else u y))
    (N : News h₀ L g ((D2, listOf ((blksL A B i j).map Value.bool).toArray 0) :: (D1, listOf ((dotsL A B i j).map Value.bool).toArray 0) :: (itI, oI) :: (L + 1 + 1 + 1 + 1 + 1, o5) :: (aLn, listOf ps.toArray n) :: (itO, oO) :: (aT, listOf rs.toArray nT) :: (ad2, listOf us2.toArray n2) :: (ad1, listOf us1.toArray n1) :: (L + 1 + 1 + 1 + 1, o4) :: (L + 1 + 1 + 1, o3) :: (L + 1 + 1, o2) :: (L + 1, o1) :: own))
    (d1 : o1.data = .cell (some (.str (sg A) t1))) (d2 : o2.data = .cell (some (.str (sg B) t2))) (d3 : o3.data = .cell (some (.ref aT))) (d4 : o4.data = .cell (some (.ref aLn))) (d5 : o5.data = .cell (some (.int (j : Int) tj)))
    (hI1 : IntsAre us1 (worthsF (sg A))) (hI2 : IntsAre us2 (worthsF (sg B))) (hps : ps.length = j)
    (hoff : OwnOff own [itI, L + 1 + 1 + 1 + 1 + 1, aLn, itO, aT, ad2, ad1, L + 1 + 1 + 1 + 1, L + 1 + 1 + 1, L + 1 + 1, L + 1])
    (lt1 : AllLt aLn [(itO, oO), (aT, listOf rs.toArray nT), (ad2, listOf us2.toArray n2), (ad1, listOf us1.toArray n1), (L + 1 + 1 + 1 + 1 + 1, o5), (L + 1 + 1 + 1 + 1, o4), (L + 1 + 1 + 1, o3), (L + 1 + 1, o2), (L + 1, o1)]) (lt2 : @Ne Nat aLn itI ∧ @LT.lt Nat _ aLn D1 ∧ @LT.lt Nat _ aLn D2)
    (B0 : Below callerA h₀ [] h₀) (X : (Mine.hd.heap_39 w.params).In h₀) (T : Top p loose mean mg mb h₀)
    (hQ : ∀ (P : Addr) (h' : Heap) (tk' : Nat) (m' : Str → Option Value), Fr h₀ L h' m' → m' (Str.ofString "i") = some (.int (i : Int) ti) → m' (Str.ofString "twos") = some (.ref ad2) → m' (Str.ofString "ones") = some (.ref ad1) → m' (Str.ofString "mirrored") = some (.str (sg (mir B)) tm) →
      News h₀ L h' ((P, listOf #[.bool (gtB (A.take i) (mir (B.take j))), .bool (gtB (mir (B.take j)) (A.take i))] 0) :: (itI, oI) :: (L + 1 + 1 + 1 + 1 + 1, o5) :: (aLn, listOf (ps ++ [Value.ref P]).toArray (n + 1)) :: (itO, oO) :: (aT, listOf rs.toArray nT) :: (ad2, listOf us2.toArray n2) :: (ad1, listOf us1.toArray n1) :: (L + 1 + 1 + 1 + 1, o4) :: (L + 1 + 1 + 1, o3) :: (L + 1 + 1, o2) :: (L + 1, o1) :: own) →
      (@LT.lt Nat _ itI P ∧ @LT.lt Nat _ (L + 1 + 1 + 1 + 1 + 1) P ∧ @LT.lt Nat _ aLn P ∧ @LT.lt Nat _ itO P ∧ @LT.lt Nat _ aT P ∧ @LT.lt Nat _ ad2 P ∧ @LT.lt Nat _ ad1 P) → Q .next { s with heap := h', toks := tk' }) :
    wpAny (model PySem.Challenge.rw_wn0005_01.prog w) (callerA.deeper (lawE L fa cd)) (execs (forJ.drop 2) (lawE L fa cd)) Q E { s with heap := g, toks := tk } := by
  k_with_none
  w_top off
  have hl1 : (sg A).length ≤ 7 := by rw [sg_len]; exact hA
  have hl2 : (sg B).length ≤ 7 := by rw [sg_len]; exact hB
  have hl3 : (sg (mir B)).length ≤ 7 := by rw [sg_len]; unfold mir; rw [List.length_map]; exact hB
  simp only [AllLt, and_true] at lt1
  have hz1 := worthsF_len (sg A)
  rw [sg_len] at hz1
  have hz2 := worthsF_len (sg B)
  rw [sg_len] at hz2
  (with_unfolding_all show wpAny _ (callerA.deeper (envOfC (Str.ofString "law") (Scope.mk _ _ _ _ _) L fa cd)) (execs (_ :: _ :: _ :: _ :: _ :: []) (envOfC (Str.ofString "law") (Scope.mk _ _ _ _ _) L fa cd)) _ _ _)
  (try k_fold)
  (repeat' (first | (k_unfold; (try dsimp only)) | (k_end; (( (fail_if_success (with_reducible show wpAny _ _ (PySem.exec (Stmt.While _ _ _ _) _) _ _ _)); (fail_if_success (with_reducible show wpAny _ _ (PySem.exec (Stmt.For _ _ _ _ _) _) _ _ _)); (fail_if_success (with_reducible show wpAny _ _ (PySem.call (Value.ref _) _ _) _ _ _)); (fail_if_success (with_reducible show wpAny _ _ (PySem.pyIter _) _ _ _)); (fail_if_success (with_reducible show KswEnd _ _ _ _ _ _ _ _ _ _ _ _)); (fail_if_success (with_reducible show InvEndN _ _ _ _ _ _ _)))); wrow_close) | ((( (fail_if_success (with_reducible show wpAny _ _ (PySem.exec (Stmt.While _ _ _ _) _) _ _ _)); (fail_if_success (with_reducible show wpAny _ _ (PySem.exec (Stmt.For _ _ _ _ _) _) _ _ _)); (fail_if_success (with_reducible show wpAny _ _ (PySem.call (Value.ref _) _ _) _ _ _)); (fail_if_success (with_reducible show wpAny _ _ (PySem.pyIter _) _ _ _)); (fail_if_success (with_reducible show KswEnd _ _ _ _ _ _ _ _ _ _ _ _)); (fail_if_success (with_reducible show InvEndN _ _ _ _ _ _ _)))); walk1) | ((( (fail_if_success (with_reducible show wpAny _ _ (PySem.exec (Stmt.While _ _ _ _) _) _ _ _)); (fail_if_success (with_reducible show wpAny _ _ (PySem.exec (Stmt.For _ _ _ _ _) _) _ _ _)); (fail_if_success (with_reducible show wpAny _ _ (PySem.call (Value.ref _) _ _) _ _ _)); (fail_if_success (with_reducible show wpAny _ _ (PySem.pyIter _) _ _ _)); (fail_if_success (with_reducible show KswEnd _ _ _ _ _ _ _ _ _ _ _ _)); (fail_if_success (with_reducible show InvEndN _ _ _ _ _ _ _)))); dsimp only; (( (fail_if_success (with_reducible show wpAny _ _ (PySem.exec (Stmt.While _ _ _ _) _) _ _ _)); (fail_if_success (with_reducible show wpAny _ _ (PySem.exec (Stmt.For _ _ _ _ _) _) _ _ _)); (fail_if_success (with_reducible show wpAny _ _ (PySem.call (Value.ref _) _ _) _ _ _)); (fail_if_success (with_reducible show wpAny _ _ (PySem.pyIter _) _ _ _)); (fail_if_success (with_reducible show KswEnd _ _ _ _ _ _ _ _ _ _ _ _)); (fail_if_success (with_reducible show InvEndN _ _ _ _ _ _ _)))); walk1) | ((( (fail_if_success (with_reducible show wpAny _ _ (PySem.exec (Stmt.While _ _ _ _) _) _ _ _)); (fail_if_success (with_reducible show wpAny _ _ (PySem.exec (Stmt.For _ _ _ _ _) _) _ _ _)); (fail_if_success (with_reducible show wpAny _ _ (PySem.call (Value.ref _) _ _) _ _ _)); (fail_if_success (with_reducible show wpAny _ _ (PySem.pyIter _) _ _ _)); (fail_if_success (with_reducible show KswEnd _ _ _ _ _ _ _ _ _ _ _ _)); (fail_if_success (with_reducible show InvEndN _ _ _ _ _ _ _)))); leave1; walk_say "STEP leave1"; try dsimp only) | fail "no step"))
  (rename News _ _ _ _ => lN')
  refine in_bools (lN'.isList (by k_mem)) ?_
  rw [dots_any hi hj]
  (repeat' (first | (k_unfold; (try dsimp only)) | (k_end; (( (fail_if_success (with_reducible show wpAny _ _ (PySem.exec (Stmt.While _ _ _ _) _) _ _ _)); (fail_if_success (with_reducible show wpAny _ _ (PySem.exec (Stmt.For _ _ _ _ _) _) _ _ _)); (fail_if_success (with_reducible show wpAny _ _ (PySem.call (Value.ref _) _ _) _ _ _)); (fail_if_success (with_reducible show wpAny _ _ (PySem.pyIter _) _ _ _)); (fail_if_success (with_reducible show KswEnd _ _ _ _ _ _ _ _ _ _ _ _)); (fail_if_success (with_reducible show InvEndN _ _ _ _ _ _ _)))); wrow_close) | ((( (fail_if_success (with_reducible show wpAny _ _ (PySem.exec (Stmt.While _ _ _ _) _) _ _ _)); (fail_if_success (with_reducible show wpAny _ _ (PySem.exec (Stmt.For _ _ _ _ _) _) _ _ _)); (fail_if_success (with_reducible show wpAny _ _ (PySem.call (Value.ref _) _ _) _ _ _)); (fail_if_success (with_reducible show wpAny _ _ (PySem.pyIter _) _ _ _)); (fail_if_success (with_reducible show KswEnd _ _ _ _ _ _ _ _ _ _ _ _)); (fail_if_success (with_reducible show InvEndN _ _ _ _ _ _ _)))); walk1) | ((( (fail_if_success (with_reducible show wpAny _ _ (PySem.exec (Stmt.While _ _ _ _) _) _ _ _)); (fail_if_success (with_reducible show wpAny _ _ (PySem.exec (Stmt.For _ _ _ _ _) _) _ _ _)); (fail_if_success (with_reducible show wpAny _ _ (PySem.call (Value.ref _) _ _) _ _ _)); (fail_if_success (with_reducible show wpAny _ _ (PySem.pyIter _) _ _ _)); (fail_if_success (with_reducible show KswEnd _ _ _ _ _ _ _ _ _ _ _ _)); (fail_if_success (with_reducible show InvEndN _ _ _ _ _ _ _)))); dsimp only; (( (fail_if_success (with_reducible show wpAny _ _ (PySem.exec (Stmt.While _ _ _ _) _) _ _ _)); (fail_if_success (with_reducible show wpAny _ _ (PySem.exec (Stmt.For _ _ _ _ _) _) _ _ _)); (fail_if_success (with_reducible show wpAny _ _ (PySem.call (Value.ref _) _ _) _ _ _)); (fail_if_success (with_reducible show wpAny _ _ (PySem.pyIter _) _ _ _)); (fail_if_success (with_reducible show KswEnd _ _ _ _ _ _ _ _ _ _ _ _)); (fail_if_success (with_reducible show InvEndN _ _ _ _ _ _ _)))); walk1) | ((( (fail_if_success (with_reducible show wpAny _ _ (PySem.exec (Stmt.While _ _ _ _) _) _ _ _)); (fail_if_success (with_reducible show wpAny _ _ (PySem.exec (Stmt.For _ _ _ _ _) _) _ _ _)); (fail_if_success (with_reducible show wpAny _ _ (PySem.call (Value.ref _) _ _) _ _ _)); (fail_if_success (with_reducible show wpAny _ _ (PySem.pyIter _) _ _ _)); (fail_if_success (with_reducible show KswEnd _ _ _ _ _ _ _ _ _ _ _ _)); (fail_if_success (with_reducible show InvEndN _ _ _ _ _ _ _)))); leave1; walk_say "STEP leave1"; try dsimp only) | fail "no step"))
  (rename News _ _ _ _ => lN')
  refine in_bools (lN'.isList (by k_mem)) ?_
  rw [blks_any hi hj]
  (repeat' (first | (k_unfold; (try dsimp only)) | (k_end; (( (fail_if_success (with_reducible show wpAny _ _ (PySem.exec (Stmt.While _ _ _ _) _) _ _ _)); (fail_if_success (with_reducible show wpAny _ _ (PySem.exec (Stmt.For _ _ _ _ _) _) _ _ _)); (fail_if_success (with_reducible show wpAny _ _ (PySem.call (Value.ref _) _ _) _ _ _)); (fail_if_success (with_reducible show wpAny _ _ (PySem.pyIter _) _ _ _)); (fail_if_success (with_reducible show KswEnd _ _ _ _ _ _ _ _ _ _ _ _)); (fail_if_success (with_reducible show InvEndN _ _ _ _ _ _ _)))); wrow_close) | ((( (fail_if_success (with_reducible show wpAny _ _ (PySem.exec (Stmt.While _ _ _ _) _) _ _ _)); (fail_if_success (with_reducible show wpAny _ _ (PySem.exec (Stmt.For _ _ _ _ _) _) _ _ _)); (fail_if_success (with_reducible show wpAny _ _ (PySem.call (Value.ref _) _ _) _ _ _)); (fail_if_success (with_reducible show wpAny _ _ (PySem.pyIter _) _ _ _)); (fail_if_success (with_reducible show KswEnd _ _ _ _ _ _ _ _ _ _ _ _)); (fail_if_success (with_reducible show InvEndN _ _ _ _ _ _ _)))); walk1) | ((( (fail_if_success (with_reducible show wpAny _ _ (PySem.exec (Stmt.While _ _ _ _) _) _ _ _)); (fail_if_success (with_reducible show wpAny _ _ (PySem.exec (Stmt.For _ _ _ _ _) _) _ _ _)); (fail_if_success (with_reducible show wpAny _ _ (PySem.call (Value.ref _) _ _) _ _ _)); (fail_if_success (with_reducible show wpAny _ _ (PySem.pyIter _) _ _ _)); (fail_if_success (with_reducible show KswEnd _ _ _ _ _ _ _ _ _ _ _ _)); (fail_if_success (with_reducible show InvEndN _ _ _ _ _ _ _)))); dsimp only; (( (fail_if_success (with_reducible show wpAny _ _ (PySem.exec (Stmt.While _ _ _ _) _) _ _ _)); (fail_if_success (with_reducible show wpAny _ _ (PySem.exec (Stmt.For _ _ _ _ _) _) _ _ _)); (fail_if_success (with_reducible show wpAny _ _ (PySem.call (Value.ref _) _ _) _ _ _)); (fail_if_success (with_reducible show wpAny _ _ (PySem.pyIter _) _ _ _)); (fail_if_success (with_reducible show KswEnd _ _ _ _ _ _ _ _ _ _ _ _)); (fail_if_success (with_reducible show InvEndN _ _ _ _ _ _ _)))); walk1) | ((( (fail_if_success (with_reducible show wpAny _ _ (PySem.exec (Stmt.While _ _ _ _) _) _ _ _)); (fail_if_success (with_reducible show wpAny _ _ (PySem.exec (Stmt.For _ _ _ _ _) _) _ _ _)); (fail_if_success (with_reducible show wpAny _ _ (PySem.call (Value.ref _) _ _) _ _ _)); (fail_if_success (with_reducible show wpAny _ _ (PySem.pyIter _) _ _ _)); (fail_if_success (with_reducible show KswEnd _ _ _ _ _ _ _ _ _ _ _ _)); (fail_if_success (with_reducible show InvEndN _ _ _ _ _ _ _)))); leave1; walk_say "STEP leave1"; try dsimp only) | fail "no step"))
  (( k_dflt (refine' (collX _ _ _ _ _ _ hi hj _ _) _ _ _ _ _ _ _ _ _ _ _ _ _ _ _ _ _ _ ?k1u543 ?k2u543 ?k3u543 ?k4u543 ?k5u543 ?k6u543 ?k7u543 ?k8u543 ?k9u543); (case k1u543 => k_asm); (case k2u543 => k_asm); (case k3u543 => k_asm); (case k4u543 => k_asm); (case k5u543 => k_asm); (case k6u543 => first | exact rfl | assumption); (case k7u543 => ktr_room); (case k8u543 => ktr_units)))
  rintro _ g5 k5 ⟨q5, rfl⟩ F5 N5
  rcases gt_cases (A.take i) (mir (B.take j)) with ⟨e1, e2⟩ | ⟨e1, e2⟩ | ⟨e1, e2⟩
  · rw [e1, e2] at N5 hQ
    rw [if_pos e1]
    (repeat' (first | (k_unfold; (try dsimp only)) | (k_end; (( (fail_if_success (with_reducible show wpAny _ _ (PySem.exec (Stmt.While _ _ _ _) _) _ _ _)); (fail_if_success (with_reducible show wpAny _ _ (PySem.exec (Stmt.For _ _ _ _ _) _) _ _ _)); (fail_if_success (with_reducible show wpAny _ _ (PySem.call (Value.ref _) _ _) _ _ _)); (fail_if_success (with_reducible show wpAny _ _ (PySem.pyIter _) _ _ _)); (fail_if_success (with_reducible show KswEnd _ _ _ _ _ _ _ _ _ _ _ _)); (fail_if_success (with_reducible show InvEndN _ _ _ _ _ _ _)))); wrow_close) | ((( (fail_if_success (with_reducible show wpAny _ _ (PySem.exec (Stmt.While _ _ _ _) _) _ _ _)); (fail_if_success (with_reducible show wpAny _ _ (PySem.exec (Stmt.For _ _ _ _ _) _) _ _ _)); (fail_if_success (with_reducible show wpAny _ _ (PySem.call (Value.ref _) _ _) _ _ _)); (fail_if_success (with_reducible show wpAny _ _ (PySem.pyIter _) _ _ _)); (fail_if_success (with_reducible show KswEnd _ _ _ _ _ _ _ _ _ _ _ _)); (fail_if_success (with_reducible show InvEndN _ _ _ _ _ _ _)))); walk1) | ((( (fail_if_success (with_reducible show wpAny _ _ (PySem.exec (Stmt.While _ _ _ _) _) _ _ _)); (fail_if_success (with_reducible show wpAny _ _ (PySem.exec (Stmt.For _ _ _ _ _) _) _ _ _)); (fail_if_success (with_reducible show wpAny _ _ (PySem.call (Value.ref _) _ _) _ _ _)); (fail_if_success (with_reducible show wpAny _ _ (PySem.pyIter _) _ _ _)); (fail_if_success (with_reducible show KswEnd _ _ _ _ _ _ _ _ _ _ _ _)); (fail_if_success (with_reducible show InvEndN _ _ _ _ _ _ _)))); dsimp only; (( (fail_if_success (with_reducible show wpAny _ _ (PySem.exec (Stmt.While _ _ _ _) _) _ _ _)); (fail_if_success (with_reducible show wpAny _ _ (PySem.exec (Stmt.For _ _ _ _ _) _) _ _ _)); (fail_if_success (with_reducible show wpAny _ _ (PySem.call (Value.ref _) _ _) _ _ _)); (fail_if_success (with_reducible show wpAny _ _ (PySem.pyIter _) _ _ _)); (fail_if_success (with_reducible show KswEnd _ _ _ _ _ _ _ _ _ _ _ _)); (fail_if_success (with_reducible show InvEndN _ _ _ _ _ _ _)))); walk1) | ((( (fail_if_success (with_reducible show wpAny _ _ (PySem.exec (Stmt.While _ _ _ _) _) _ _ _)); (fail_if_success (with_reducible show wpAny _ _ (PySem.exec (Stmt.For _ _ _ _ _) _) _ _ _)); (fail_if_success (with_reducible show wpAny _ _ (PySem.call (Value.ref _) _ _) _ _ _)); (fail_if_success (with_reducible show wpAny _ _ (PySem.pyIter _) _ _ _)); (fail_if_success (with_reducible show KswEnd _ _ _ _ _ _ _ _ _ _ _ _)); (fail_if_success (with_reducible show InvEndN _ _ _ _ _ _ _)))); leave1; walk_say "STEP leave1"; try dsimp only) | fail "no step"))
    (rename News _ _ _ _ => lN')
    refine item_listL (lN'.isList (by k_mem)) (by omega) (by omega) (show _ = some (Value.ref _) by rw [Int.toNat_natCast, List.getElem?_append_right (by omega), hps, Nat.sub_self]; rfl) ?_
    (repeat' (first | (k_unfold; (try dsimp only)) | (k_end; (( (fail_if_success (with_reducible show wpAny _ _ (PySem.exec (Stmt.While _ _ _ _) _) _ _ _)); (fail_if_success (with_reducible show wpAny _ _ (PySem.exec (Stmt.For _ _ _ _ _) _) _ _ _)); (fail_if_success (with_reducible show wpAny _ _ (PySem.call (Value.ref _) _ _) _ _ _)); (fail_if_success (with_reducible show wpAny _ _ (PySem.pyIter _) _ _ _)); (fail_if_success (with_reducible show KswEnd _ _ _ _ _ _ _ _ _ _ _ _)); (fail_if_success (with_reducible show InvEndN _ _ _ _ _ _ _)))); wrow_close) | ((( (fail_if_success (with_reducible show wpAny _ _ (PySem.exec (Stmt.While _ _ _ _) _) _ _ _)); (fail_if_success (with_reducible show wpAny _ _ (PySem.exec (Stmt.For _ _ _ _ _) _) _ _ _)); (fail_if_success (with_reducible show wpAny _ _ (PySem.call (Value.ref _) _ _) _ _ _)); (fail_if_success (with_reducible show wpAny _ _ (PySem.pyIter _) _ _ _)); (fail_if_success (with_reducible show KswEnd _ _ _ _ _ _ _ _ _ _ _ _)); (fail_if_success (with_reducible show InvEndN _ _ _ _ _ _ _)))); walk1) | ((( (fail_if_success (with_reducible show wpAny _ _ (PySem.exec (Stmt.While _ _ _ _) _) _ _ _)); (fail_if_success (with_reducible show wpAny _ _ (PySem.exec (Stmt.For _ _ _ _ _) _) _ _ _)); (fail_if_success (with_reducible show wpAny _ _ (PySem.call (Value.ref _) _ _) _ _ _)); (fail_if_success (with_reducible show wpAny _ _ (PySem.pyIter _) _ _ _)); (fail_if_success (with_reducible show KswEnd _ _ _ _ _ _ _ _ _ _ _ _)); (fail_if_success (with_reducible show InvEndN _ _ _ _ _ _ _)))); dsimp only; (( (fail_if_success (with_reducible show wpAny _ _ (PySem.exec (Stmt.While _ _ _ _) _) _ _ _)); (fail_if_success (with_reducible show wpAny _ _ (PySem.exec (Stmt.For _ _ _ _ _) _) _ _ _)); (fail_if_success (with_reducible show wpAny _ _ (PySem.call (Value.ref _) _ _) _ _ _)); (fail_if_success (with_reducible show wpAny _ _ (PySem.pyIter _) _ _ _)); (fail_if_success (with_reducible show KswEnd _ _ _ _ _ _ _ _ _ _ _ _)); (fail_if_success (with_reducible show InvEndN _ _ _ _ _ _ _)))); walk1) | ((( (fail_if_success (with_reducible show wpAny _ _ (PySem.exec (Stmt.While _ _ _ _) _) _ _ _)); (fail_if_success (with_reducible show wpAny _ _ (PySem.exec (Stmt.For _ _ _ _ _) _) _ _ _)); (fail_if_success (with_reducible show wpAny _ _ (PySem.call (Value.ref _) _ _) _ _ _)); (fail_if_success (with_reducible show wpAny _ _ (PySem.pyIter _) _ _ _)); (fail_if_success (with_reducible show KswEnd _ _ _ _ _ _ _ _ _ _ _ _)); (fail_if_success (with_reducible show InvEndN _ _ _ _ _ _ _)))); leave1; walk_say "STEP leave1"; try dsimp only) | fail "no step"))
    · rename _ ≠ _ => hne
      exact absurd (by rw [sum_pos hA hB hi hj, sum_neg hA hB hi hj, e1, e2]; rfl) hne
    · (rename News _ _ _ _ => lN')
      (rename Fr _ _ _ _ => lF')
      (with_unfolding_all refine hQ _ _ _ _ lF' rfl rfl rfl rfl (news_pick lN') ?_)
      refine ⟨?_, ?_, ?_, ?_, ?_, ?_, ?_⟩ <;> omega
  · rw [e1, e2] at N5 hQ
    rw [if_neg (by rw [e1]; exact Bool.false_ne_true), if_pos e2]
    (repeat' (first | (k_unfold; (try dsimp only)) | (k_end; (( (fail_if_success (with_reducible show wpAny _ _ (PySem.exec (Stmt.While _ _ _ _) _) _ _ _)); (fail_if_success (with_reducible show wpAny _ _ (PySem.exec (Stmt.For _ _ _ _ _) _) _ _ _)); (fail_if_success (with_reducible show wpAny _ _ (PySem.call (Value.ref _) _ _) _ _ _)); (fail_if_success (with_reducible show wpAny _ _ (PySem.pyIter _) _ _ _)); (fail_if_success (with_reducible show KswEnd _ _ _ _ _ _ _ _ _ _ _ _)); (fail_if_success (with_reducible show InvEndN _ _ _ _ _ _ _)))); wrow_close) | ((( (fail_if_success (with_reducible show wpAny _ _ (PySem.exec (Stmt.While _ _ _ _) _) _ _ _)); (fail_if_success (with_reducible show wpAny _ _ (PySem.exec (Stmt.For _ _ _ _ _) _) _ _ _)); (fail_if_success (with_reducible show wpAny _ _ (PySem.call (Value.ref _) _ _) _ _ _)); (fail_if_success (with_reducible show wpAny _ _ (PySem.pyIter _) _ _ _)); (fail_if_success (with_reducible show KswEnd _ _ _ _ _ _ _ _ _ _ _ _)); (fail_if_success (with_reducible show InvEndN _ _ _ _ _ _ _)))); walk1) | ((( (fail_if_success (with_reducible show wpAny _ _ (PySem.exec (Stmt.While _ _ _ _) _) _ _ _)); (fail_if_success (with_reducible show wpAny _ _ (PySem.exec (Stmt.For _ _ _ _ _) _) _ _ _)); (fail_if_success (with_reducible show wpAny _ _ (PySem.call (Value.ref _) _ _) _ _ _)); (fail_if_success (with_reducible show wpAny _ _ (PySem.pyIter _) _ _ _)); (fail_if_success (with_reducible show KswEnd _ _ _ _ _ _ _ _ _ _ _ _)); (fail_if_success (with_reducible show InvEndN _ _ _ _ _ _ _)))); dsimp only; (( (fail_if_success (with_reducible show wpAny _ _ (PySem.exec (Stmt.While _ _ _ _) _) _ _ _)); (fail_if_success (with_reducible show wpAny _ _ (PySem.exec (Stmt.For _ _ _ _ _) _) _ _ _)); (fail_if_success (with_reducible show wpAny _ _ (PySem.call (Value.ref _) _ _) _ _ _)); (fail_if_success (with_reducible show wpAny _ _ (PySem.pyIter _) _ _ _)); (fail_if_success (with_reducible show KswEnd _ _ _ _ _ _ _ _ _ _ _ _)); (fail_if_success (with_reducible show InvEndN _ _ _ _ _ _ _)))); walk1) | ((( (fail_if_success (with_reducible show wpAny _ _ (PySem.exec (Stmt.While _ _ _ _) _) _ _ _)); (fail_if_success (with_reducible show wpAny _ _ (PySem.exec (Stmt.For _ _ _ _ _) _) _ _ _)); (fail_if_success (with_reducible show wpAny _ _ (PySem.call (Value.ref _) _ _) _ _ _)); (fail_if_success (with_reducible show wpAny _ _ (PySem.pyIter _) _ _ _)); (fail_if_success (with_reducible show KswEnd _ _ _ _ _ _ _ _ _ _ _ _)); (fail_if_success (with_reducible show InvEndN _ _ _ _ _ _ _)))); leave1; walk_say "STEP leave1"; try dsimp only) | fail "no step"))
    (rename News _ _ _ _ => lN')
    refine item_listL (lN'.isList (by k_mem)) (by omega) (by omega) (show _ = some (Value.ref _) by rw [Int.toNat_natCast, List.getElem?_append_right (by omega), hps, Nat.sub_self]; rfl) ?_
    (repeat' (first | (k_unfold; (try dsimp only)) | (k_end; (( (fail_if_success (with_reducible show wpAny _ _ (PySem.exec (Stmt.While _ _ _ _) _) _ _ _)); (fail_if_success (with_reducible show wpAny _ _ (PySem.exec (Stmt.For _ _ _ _ _) _) _ _ _)); (fail_if_success (with_reducible show wpAny _ _ (PySem.call (Value.ref _) _ _) _ _ _)); (fail_if_success (with_reducible show wpAny _ _ (PySem.pyIter _) _ _ _)); (fail_if_success (with_reducible show KswEnd _ _ _ _ _ _ _ _ _ _ _ _)); (fail_if_success (with_reducible show InvEndN _ _ _ _ _ _ _)))); wrow_close) | ((( (fail_if_success (with_reducible show wpAny _ _ (PySem.exec (Stmt.While _ _ _ _) _) _ _ _)); (fail_if_success (with_reducible show wpAny _ _ (PySem.exec (Stmt.For _ _ _ _ _) _) _ _ _)); (fail_if_success (with_reducible show wpAny _ _ (PySem.call (Value.ref _) _ _) _ _ _)); (fail_if_success (with_reducible show wpAny _ _ (PySem.pyIter _) _ _ _)); (fail_if_success (with_reducible show KswEnd _ _ _ _ _ _ _ _ _ _ _ _)); (fail_if_success (with_reducible show InvEndN _ _ _ _ _ _ _)))); walk1) | ((( (fail_if_success (with_reducible show wpAny _ _ (PySem.exec (Stmt.While _ _ _ _) _) _ _ _)); (fail_if_success (with_reducible show wpAny _ _ (PySem.exec (Stmt.For _ _ _ _ _) _) _ _ _)); (fail_if_success (with_reducible show wpAny _ _ (PySem.call (Value.ref _) _ _) _ _ _)); (fail_if_success (with_reducible show wpAny _ _ (PySem.pyIter _) _ _ _)); (fail_if_success (with_reducible show KswEnd _ _ _ _ _ _ _ _ _ _ _ _)); (fail_if_success (with_reducible show InvEndN _ _ _ _ _ _ _)))); dsimp only; (( (fail_if_success (with_reducible show wpAny _ _ (PySem.exec (Stmt.While _ _ _ _) _) _ _ _)); (fail_if_success (with_reducible show wpAny _ _ (PySem.exec (Stmt.For _ _ _ _ _) _) _ _ _)); (fail_if_success (with_reducible show wpAny _ _ (PySem.call (Value.ref _) _ _) _ _ _)); (fail_if_success (with_reducible show wpAny _ _ (PySem.pyIter _) _ _ _)); (fail_if_success (with_reducible show KswEnd _ _ _ _ _ _ _ _ _ _ _ _)); (fail_if_success (with_reducible show InvEndN _ _ _ _ _ _ _)))); walk1) | ((( (fail_if_success (with_reducible show wpAny _ _ (PySem.exec (Stmt.While _ _ _ _) _) _ _ _)); (fail_if_success (with_reducible show wpAny _ _ (PySem.exec (Stmt.For _ _ _ _ _) _) _ _ _)); (fail_if_success (with_reducible show wpAny _ _ (PySem.call (Value.ref _) _ _) _ _ _)); (fail_if_success (with_reducible show wpAny _ _ (PySem.pyIter _) _ _ _)); (fail_if_success (with_reducible show KswEnd _ _ _ _ _ _ _ _ _ _ _ _)); (fail_if_success (with_reducible show InvEndN _ _ _ _ _ _ _)))); leave1; walk_say "STEP leave1"; try dsimp only) | fail "no step"))
    · rename _ ≠ _ => hne
      exact absurd (by rw [sum_pos hA hB hi hj, sum_neg hA hB hi hj, e1, e2]; rfl) hne
    · (rename News _ _ _ _ => lN')
      (rename Fr _ _ _ _ => lF')
      (with_unfolding_all refine hQ _ _ _ _ lF' rfl rfl rfl rfl (news_pick lN') ?_)
      refine ⟨?_, ?_, ?_, ?_, ?_, ?_, ?_⟩ <;> omega
  · rw [e1, e2] at N5 hQ
    rw [if_neg (by rw [e1]; exact Bool.false_ne_true), if_neg (by rw [e2]; exact Bool.false_ne_true)]
    (repeat' (first | (k_unfold; (try dsimp only)) | (k_end; (( (fail_if_success (with_reducible show wpAny _ _ (PySem.exec (Stmt.While _ _ _ _) _) _ _ _)); (fail_if_success (with_reducible show wpAny _ _ (PySem.exec (Stmt.For _ _ _ _ _) _) _ _ _)); (fail_if_success (with_reducible show wpAny _ _ (PySem.call (Value.ref _) _ _) _ _ _)); (fail_if_success (with_reducible show wpAny _ _ (PySem.pyIter _) _ _ _)); (fail_if_success (with_reducible show KswEnd _ _ _ _ _ _ _ _ _ _ _ _)); (fail_if_success (with_reducible show InvEndN _ _ _ _ _ _ _)))); wrow_close) | ((( (fail_if_success (with_reducible show wpAny _ _ (PySem.exec (Stmt.While _ _ _ _) _) _ _ _)); (fail_if_success (with_reducible show wpAny _ _ (PySem.exec (Stmt.For _ _ _ _ _) _) _ _ _)); (fail_if_success (with_reducible show wpAny _ _ (PySem.call (Value.ref _) _ _) _ _ _)); (fail_if_success (with_reducible show wpAny _ _ (PySem.pyIter _) _ _ _)); (fail_if_success (with_reducible show KswEnd _ _ _ _ _ _ _ _ _ _ _ _)); (fail_if_success (with_reducible show InvEndN _ _ _ _ _ _ _)))); walk1) | ((( (fail_if_success (with_reducible show wpAny _ _ (PySem.exec (Stmt.While _ _ _ _) _) _ _ _)); (fail_if_success (with_reducible show wpAny _ _ (PySem.exec (Stmt.For _ _ _ _ _) _) _ _ _)); (fail_if_success (with_reducible show wpAny _ _ (PySem.call (Value.ref _) _ _) _ _ _)); (fail_if_success (with_reducible show wpAny _ _ (PySem.pyIter _) _ _ _)); (fail_if_success (with_reducible show KswEnd _ _ _ _ _ _ _ _ _ _ _ _)); (fail_if_success (with_reducible show InvEndN _ _ _ _ _ _ _)))); dsimp only; (( (fail_if_success (with_reducible show wpAny _ _ (PySem.exec (Stmt.While _ _ _ _) _) _ _ _)); (fail_if_success (with_reducible show wpAny _ _ (PySem.exec (Stmt.For _ _ _ _ _) _) _ _ _)); (fail_if_success (with_reducible show wpAny _ _ (PySem.call (Value.ref _) _ _) _ _ _)); (fail_if_success (with_reducible show wpAny _ _ (PySem.pyIter _) _ _ _)); (fail_if_success (with_reducible show KswEnd _ _ _ _ _ _ _ _ _ _ _ _)); (fail_if_success (with_reducible show InvEndN _ _ _ _ _ _ _)))); walk1) | ((( (fail_if_success (with_reducible show wpAny _ _ (PySem.exec (Stmt.While _ _ _ _) _) _ _ _)); (fail_if_success (with_reducible show wpAny _ _ (PySem.exec (Stmt.For _ _ _ _ _) _) _ _ _)); (fail_if_success (with_reducible show wpAny _ _ (PySem.call (Value.ref _) _ _) _ _ _)); (fail_if_success (with_reducible show wpAny _ _ (PySem.pyIter _) _ _ _)); (fail_if_success (with_reducible show KswEnd _ _ _ _ _ _ _ _ _ _ _ _)); (fail_if_success (with_reducible show InvEndN _ _ _ _ _ _ _)))); leave1; walk_say "STEP leave1"; try dsimp only) | fail "no step"))
    (rename News _ _ _ _ => lN')
    refine item_listL (lN'.isList (by k_mem)) (by omega) (by omega) (show _ = some (Value.ref _) by rw [Int.toNat_natCast, List.getElem?_append_right (by omega), hps, Nat.sub_self]; rfl) ?_
    (repeat' (first | (k_unfold; (try dsimp only)) | (k_end; (( (fail_if_success (with_reducible show wpAny _ _ (PySem.exec (Stmt.While _ _ _ _) _) _ _ _)); (fail_if_success (with_reducible show wpAny _ _ (PySem.exec (Stmt.For _ _ _ _ _) _) _ _ _)); (fail_if_success (with_reducible show wpAny _ _ (PySem.call (Value.ref _) _ _) _ _ _)); (fail_if_success (with_reducible show wpAny _ _ (PySem.pyIter _) _ _ _)); (fail_if_success (with_reducible show KswEnd _ _ _ _ _ _ _ _ _ _ _ _)); (fail_if_success (with_reducible show InvEndN _ _ _ _ _ _ _)))); wrow_close) | ((( (fail_if_success (with_reducible show wpAny _ _ (PySem.exec (Stmt.While _ _ _ _) _) _ _ _)); (fail_if_success (with_reducible show wpAny _ _ (PySem.exec (Stmt.For _ _ _ _ _) _) _ _ _)); (fail_if_success (with_reducible show wpAny _ _ (PySem.call (Value.ref _) _ _) _ _ _)); (fail_if_success (with_reducible show wpAny _ _ (PySem.pyIter _) _ _ _)); (fail_if_success (with_reducible show KswEnd _ _ _ _ _ _ _ _ _ _ _ _)); (fail_if_success (with_reducible show InvEndN _ _ _ _ _ _ _)))); walk1) | ((( (fail_if_success (with_reducible show wpAny _ _ (PySem.exec (Stmt.While _ _ _ _) _) _ _ _)); (fail_if_success (with_reducible show wpAny _ _ (PySem.exec (Stmt.For _ _ _ _ _) _) _ _ _)); (fail_if_success (with_reducible show wpAny _ _ (PySem.call (Value.ref _) _ _) _ _ _)); (fail_if_success (with_reducible show wpAny _ _ (PySem.pyIter _) _ _ _)); (fail_if_success (with_reducible show KswEnd _ _ _ _ _ _ _ _ _ _ _ _)); (fail_if_success (with_reducible show InvEndN _ _ _ _ _ _ _)))); dsimp only; (( (fail_if_success (with_reducible show wpAny _ _ (PySem.exec (Stmt.While _ _ _ _) _) _ _ _)); (fail_if_success (with_reducible show wpAny _ _ (PySem.exec (Stmt.For _ _ _ _ _) _) _ _ _)); (fail_if_success (with_reducible show wpAny _ _ (PySem.call (Value.ref _) _ _) _ _ _)); (fail_if_success (with_reducible show wpAny _ _ (PySem.pyIter _) _ _ _)); (fail_if_success (with_reducible show KswEnd _ _ _ _ _ _ _ _ _ _ _ _)); (fail_if_success (with_reducible show InvEndN _ _ _ _ _ _ _)))); walk1) | ((( (fail_if_success (with_reducible show wpAny _ _ (PySem.exec (Stmt.While _ _ _ _) _) _ _ _)); (fail_if_success (with_reducible show wpAny _ _ (PySem.exec (Stmt.For _ _ _ _ _) _) _ _ _)); (fail_if_success (with_reducible show wpAny _ _ (PySem.call (Value.ref _) _ _) _ _ _)); (fail_if_success (with_reducible show wpAny _ _ (PySem.pyIter _) _ _ _)); (fail_if_success (with_reducible show KswEnd _ _ _ _ _ _ _ _ _ _ _ _)); (fail_if_success (with_reducible show InvEndN _ _ _ _ _ _ _)))); leave1; walk_say "STEP leave1"; try dsimp only) | fail "no step"))
    · rename _ ≠ _ => hne
      exact absurd (by rw [sum_pos hA hB hi hj, sum_neg hA hB hi hj, e1, e2]; rfl) hne
    · (rename News _ _ _ _ => lN')
      (rename Fr _ _ _ _ => lF')
      (with_unfolding_all refine hQ _ _ _ _ lF' rfl rfl rfl rfl (news_pick lN') ?_)
      refine ⟨?_, ?_, ?_, ?_, ?_, ?_, ?_⟩ <;> omega
end Mine
end
section
open PySem PySem.W PyProof.Rows PySem.Calls
namespace Mine
set_option maxRecDepth 100000
theorem PairAt.mono {own own' : List (Addr × Obj)} {p : Addr} {X Y : List Bool} (h : PairAt own p X Y) (hs : ∀ q ∈ own, q ∈ own') : PairAt own' p X Y := let ⟨n, e⟩ := h; ⟨n, hs _ e⟩
theorem RowTo.mono {own own' : List (Addr × Obj)} {X B : List Bool} {j : Nat} {ps : List Value} (h : RowTo own X B j ps) (hs : ∀ q ∈ own, q ∈ own') : RowTo own' X B j ps :=
  ⟨h.1, fun k hk => let ⟨p, e, r⟩ := h.2 k hk; ⟨p, e, r.mono hs⟩⟩
theorem TabTo.mono {own own' : List (Addr × Obj)} {A B : List Bool} {i : Nat} {rs : List Value} (h : TabTo own A B i rs) (hs : ∀ q ∈ own, q ∈ own') : TabTo own' A B i rs :=
  ⟨h.1, fun k hk => let ⟨r, ps, n, e, m, q⟩ := h.2 k hk; ⟨r, ps, n, e, hs _ m, q.mono hs⟩⟩
theorem RowTo.snoc {own : List (Addr × Obj)} {X B : List Bool} {j : Nat} {ps : List Value} {P : Addr} (h : RowTo own X B j ps) (hp : PairAt own P X (mir (B.take j))) : RowTo own X B (j + 1) (ps ++ [Value.ref P]) := by
  refine ⟨by rw [List.length_append, h.1]; rfl, fun k hk => ?_⟩
  rcases Nat.lt_or_ge k j with hk' | hk'
  · obtain ⟨p, e, r⟩ := h.2 k hk'
    exact ⟨p, by rw [List.getElem?_append_left (by rw [h.1]; exact hk')]; exact e, r⟩
  · have : k = j := by omega
    subst this
    refine ⟨P, ?_, hp⟩
    rw [List.getElem?_append_right (by rw [h.1]; exact Nat.le_refl _), h.1, Nat.sub_self]
    rfl
def InnerJ (L : Addr) (A B : List Bool) (i : Nat) (ti tm : CTok) (aLn itO aT ad1 ad2 : Addr) (oO o1 o2 o3 o4 : Obj) (rs us1 us2 : List Value) (nT n1 n2 : Nat) (j : Nat) (m : Str → Option Value) (news : List (Addr × Obj)) : Prop :=
  ∃ ps n own, m (Str.ofString "i") = some (.int (i : Int) ti) ∧ m (Str.ofString "twos") = some (.ref ad2) ∧ m (Str.ofString "ones") = some (.ref ad1) ∧ m (Str.ofString "mirrored") = some (.str (sg (mir B)) tm) ∧
    news = (aLn, listOf (List.toArray ps) n) :: (itO, oO) :: (aT, listOf rs.toArray nT) :: (ad2, listOf us2.toArray n2) :: (ad1, listOf us1.toArray n1) :: (L + 1 + 1 + 1 + 1, o4) :: (L + 1 + 1 + 1, o3) :: (L + 1 + 1, o2) :: (L + 1, o1) :: own ∧
    TabTo own A B i rs ∧ RowTo own (A.take i) B j ps ∧ OwnOff own [L + 1 + 1 + 1 + 1 + 1, aLn, itO, aT, ad2, ad1, L + 1 + 1 + 1 + 1, L + 1 + 1 + 1, L + 1 + 1, L + 1]
set_option maxHeartbeats 8000000 in
theorem inner_turn (w : World) (p : Program) (loose : List Str) (mean : ExcName → Option Value) (mg mb : Str → Option Value) (A B : List Bool) (hA : A.length ≤ 7) (hB : B.length ≤ 7) (o1 o2 o3 o4 o5 oO oI : Obj)
    (h₀ : Heap) (L fa : Addr) (cd : Value) (m : Str → Option Value) (g : Heap) (tk : Nat) (s : Shared) (Q : Flow → Shared → Prop) (E : Value → Shared → Prop)
    (i j : Nat) (hi : i ≤ A.length) (hj : j < B.length + 1) (ti tj tm t1 t2 : CTok) (itO itI aLn aT ad1 ad2 : Addr) (rs us1 us2 : List Value) (nT n1 n2 : Nat) (news : List (Addr × Obj))
    (hJ : InnerJ L A B i ti tm aLn itO aT ad1 ad2 oO o1 o2 o3 o4 rs us1 us2 nT n1 n2 j m news)
    (q1 : ∀ p ∈ news, p.1 ≠ itI) (q2 : ∀ p ∈ news, p.1 ≠ L + 1 + 1 + 1 + 1 + 1) (q3 : L + 1 + 1 + 1 + 1 + 1 ≠ itI)
    (d1 : o1.data = .cell (some (.str (sg A) t1))) (d2 : o2.data = .cell (some (.str (sg B) t2))) (d3 : o3.data = .cell (some (.ref aT))) (d4 : o4.data = .cell (some (.ref aLn))) (d5 : o5.data = .cell (some (.int (j : Int) tj)))
    (hI1 : IntsAre us1 (worthsF (sg A))) (hI2 : IntsAre us2 (worthsF (sg B)))
    (lt1 : AllLt aLn [(itO, oO), (aT, listOf rs.toArray nT), (ad2, listOf us2.toArray n2), (ad1, listOf us1.toArray n1), (L + 1 + 1 + 1 + 1 + 1, o5), (L + 1 + 1 + 1 + 1, o4), (L + 1 + 1 + 1, o3), (L + 1 + 1, o2), (L + 1, o1)])
    (F : Fr h₀ L g m) (N : News h₀ L g ((itI, oI) :: (L + 1 + 1 + 1 + 1 + 1, o5) :: news))
    (B0 : Below callerA h₀ [] h₀) (X : (Mine.hd.heap_39 w.params).In h₀) (T : Top p loose mean mg mb h₀) :
    wpAny (model PySem.Challenge.rw_wn0005_01.prog w) (callerA.deeper (lawE L fa cd)) (execs forJ (lawE L fa cd))
      (LEnd h₀ L itI oI (fun m' nw => ∃ o' news', nw = (L + 1 + 1 + 1 + 1 + 1, o') :: news' ∧ (∃ v₀, o'.data = .cell v₀) ∧ (∀ p ∈ news', p.1 ≠ L + 1 + 1 + 1 + 1 + 1) ∧ InnerJ L A B i ti tm aLn itO aT ad1 ad2 oO o1 o2 o3 o4 rs us1 us2 nT n1 n2 (j + 1) m' news') s Q) E { s with heap := g, toks := tk } := by
  obtain ⟨ps, n, own, m1, m2, m3, m4, rfl, hT, hR, hoff⟩ := hJ
  have hj' : j ≤ B.length := by omega
  refine dots_wp w p loose mean mg mb A B hA hB o1 o2 o3 o4 o5 h₀ L fa cd m g tk s _ E i j hi hj' ti tj t1 t2 aLn aT ps rs n nT ((itI, oI) :: (itO, oO) :: (ad2, listOf us2.toArray n2) :: (ad1, listOf us1.toArray n1) :: own) (expose F m1) (N.perm ?p1) d1 d2 d3 d4 d5 (hT.mono ?s1) (hR.mono ?s1) B0 X T ?k1
  case p1 =>
    repeat' (first | refine List.forall_mem_cons.mpr ⟨?_, ?_⟩ | k_mem | (intro q hq; repeat (first | exact hq | apply List.mem_cons_of_mem)))
  case s1 => exact fun q hq => .tail _ (.tail _ (.tail _ (.tail _ hq)))
  case k1 =>
    intro D1 h1 tk1 F1 N1 lt3
    refine blks_wp w p loose mean mg mb A B hA hB o1 o2 o3 o4 o5 h₀ L fa cd _ h1 tk1 s _ E i j hi hj' ti tj t1 t2 aLn aT ps rs n nT ((D1, listOf ((dotsL A B i j).map Value.bool).toArray 0) :: (itI, oI) :: (itO, oO) :: (ad2, listOf us2.toArray n2) :: (ad1, listOf us1.toArray n1) :: own) (expose F1 (by with_unfolding_all rfl)) (N1.perm ?p2) d1 d2 d3 d4 d5 (hT.mono ?s2) (hR.mono ?s2) B0 X T ?k2
    case p2 =>
      repeat' (first | refine List.forall_mem_cons.mpr ⟨?_, ?_⟩ | k_mem | (intro q hq; repeat (first | exact hq | apply List.mem_cons_of_mem)))
    case s2 => exact fun q hq => .tail _ (.tail _ (.tail _ (.tail _ (.tail _ hq))))
    case k2 =>
      intro D2 h2 tk2 F2 N2 lt4
      have F3 := expose4 (x1 := Str.ofString "i") (x2 := Str.ofString "twos") (x3 := Str.ofString "ones") (x4 := Str.ofString "mirrored") F2 (v1 := .int (i : Int) ti) (v2 := .ref ad2) (v3 := .ref ad1) (v4 := .str (sg (mir B)) tm) (by with_unfolding_all rfl) (by with_unfolding_all exact m2) (by with_unfolding_all exact m3) (by with_unfolding_all exact m4)
      have F4 := expose (x := Str.ofString "dots") (v := .ref D1) F3 (by with_unfolding_all rfl)
      have F5 := expose (x := Str.ofString "blanks") (v := .ref D2) F4 (by with_unfolding_all rfl)
      have z1 : @Ne Nat aLn itI := q1 _ (.head _)
      have z2 : @LT.lt Nat _ aLn D1 := lt3 (aLn, listOf ps.toArray n) (.tail _ (.head _))
      have z3 : @LT.lt Nat _ aLn D2 := lt4 (aLn, listOf ps.toArray n) (.tail _ (.head _))
      refine rest3_wp w p loose mean mg mb A B hA hB o1 o2 o3 o4 o5 oO oI h₀ L fa cd _ h2 tk2 s _ E i j hi hj' ti tj tm t1 t2 itO itI aLn aT ad1 ad2 D1 D2 ps rs us1 us2 n nT n1 n2 own F5 (N2.perm ?p3) d1 d2 d3 d4 d5 hI1 hI2 hR.1 ?off lt1 ⟨z1, z2, z3⟩ B0 X T ?k3
      case p3 =>
        repeat' (first | refine List.forall_mem_cons.mpr ⟨?_, ?_⟩ | k_mem | (intro q hq; repeat (first | exact hq | apply List.mem_cons_of_mem)))
      case off =>
        intro q hq b hb
        rcases List.mem_cons.mp hb with rfl | hb
        · exact q1 q (by repeat (first | exact hq | apply List.mem_cons_of_mem))
        · exact hoff q hq b hb
      case k3 =>
        intro P h5 tk5 m' F6 e1 e2 e3 e4 N6 lt6
        refine ⟨h5, tk5, m', (L + 1 + 1 + 1 + 1 + 1, o5) :: (aLn, listOf (List.toArray (ps ++ [Value.ref P])) (n + 1)) :: (itO, oO) :: (aT, listOf rs.toArray nT) :: (ad2, listOf us2.toArray n2) :: (ad1, listOf us1.toArray n1) :: (L + 1 + 1 + 1 + 1, o4) :: (L + 1 + 1 + 1, o3) :: (L + 1 + 1, o2) :: (L + 1, o1) :: (P, listOf #[.bool (gtB (A.take i) (mir (B.take j))), .bool (gtB (mir (B.take j)) (A.take i))] 0) :: own, rfl, F6, N6.perm ?p4, ?q4, o5, _, rfl, ⟨_, d5⟩, ?c4, ps ++ [Value.ref P], n + 1, (P, listOf #[.bool (gtB (A.take i) (mir (B.take j))), .bool (gtB (mir (B.take j)) (A.take i))] 0) :: own, e1, e2, e3, e4, rfl, hT.mono (fun q hq => .tail _ hq), (hR.mono (fun q hq => .tail _ hq)).snoc ⟨0, .head _⟩, ?o4⟩
        case p4 =>
          repeat' (first | refine List.forall_mem_cons.mpr ⟨?_, ?_⟩ | k_mem | (intro q hq; repeat (first | exact hq | apply List.mem_cons_of_mem)))
        case q4 =>
          refine List.forall_mem_cons.mpr ⟨q3, List.forall_mem_cons.mpr ⟨z1, ?_⟩⟩
          refine List.forall_mem_cons.mpr ⟨q1 (itO, oO) (by k_mem), List.forall_mem_cons.mpr ⟨q1 (aT, _) (by k_mem), List.forall_mem_cons.mpr ⟨q1 (ad2, _) (by k_mem), List.forall_mem_cons.mpr ⟨q1 (ad1, _) (by k_mem), List.forall_mem_cons.mpr ⟨q1 (_, o4) (by k_mem), List.forall_mem_cons.mpr ⟨q1 (_, o3) (by k_mem), List.forall_mem_cons.mpr ⟨q1 (_, o2) (by k_mem), List.forall_mem_cons.mpr ⟨q1 (_, o1) (by k_mem), List.forall_mem_cons.mpr ⟨?_, ?_⟩⟩⟩⟩⟩⟩⟩⟩⟩
          · show @Ne Nat P itI
            omega
          · exact fun q hq => q1 q (by repeat (first | exact hq | apply List.mem_cons_of_mem))
        case c4 =>
          refine List.forall_mem_cons.mpr ⟨q2 (aLn, listOf ps.toArray n) (by k_mem), List.forall_mem_cons.mpr ⟨q2 (itO, oO) (by k_mem), List.forall_mem_cons.mpr ⟨q2 (aT, _) (by k_mem), List.forall_mem_cons.mpr ⟨q2 (ad2, _) (by k_mem), List.forall_mem_cons.mpr ⟨q2 (ad1, _) (by k_mem), List.forall_mem_cons.mpr ⟨q2 (_, o4) (by k_mem), List.forall_mem_cons.mpr ⟨q2 (_, o3) (by k_mem), List.forall_mem_cons.mpr ⟨q2 (_, o2) (by k_mem), List.forall_mem_cons.mpr ⟨q2 (_, o1) (by k_mem), List.forall_mem_cons.mpr ⟨?_, ?_⟩⟩⟩⟩⟩⟩⟩⟩⟩⟩
          · show @Ne Nat P (L + 1 + 1 + 1 + 1 + 1)
            omega
          · exact fun q hq => q2 q (by repeat (first | exact hq | apply List.mem_cons_of_mem))
        case o4 =>
          intro q hq b hb
          rcases List.mem_cons.mp hq with rfl | hq
          · simp only [List.mem_cons, List.not_mem_nil, or_false] at hb
            show @Ne Nat P b
            rcases hb with rfl | rfl | rfl | rfl | rfl | rfl | rfl | rfl | rfl | rfl <;> omega
          · exact hoff q hq b hb
end Mine
end
section
open PySem PySem.W PyProof.Rows PySem.Calls
namespace Mine
set_option maxRecDepth 100000
theorem TabTo.snoc {own : List (Addr × Obj)} {A B : List Bool} {i : Nat} {rs ps : List Value} {r : Addr} {n : Nat} (h : TabTo own A B i rs) (hp : RowTo own (A.take i) B (B.length + 1) ps) : TabTo ((r, listOf ps.toArray n) :: own) A B (i + 1) (rs ++ [Value.ref r]) := by
  refine ⟨by rw [List.length_append, h.1]; rfl, fun k hk => ?_⟩
  rcases Nat.lt_or_ge k i with hk' | hk'
  · obtain ⟨a, qs, n', e, m, q⟩ := h.2 k hk'
    exact ⟨a, qs, n', by rw [List.getElem?_append_left (by rw [h.1]; exact hk')]; exact e, .tail _ m, q.mono fun _ hq => .tail _ hq⟩
  · have : k = i := by omega
    subst this
    refine ⟨r, ps, n, ?_, .head _, hp.mono fun _ hq => .tail _ hq⟩
    rw [List.getElem?_append_right (by rw [h.1]; exact Nat.le_refl _), h.1, Nat.sub_self]
    rfl
def OuterJ (L : Addr) (A B : List Bool) (tm : CTok) (aT ad1 ad2 : Addr) (o1 o2 o3 : Obj) (us1 us2 : List Value) (n1 n2 : Nat) (i : Nat) (m : Str → Option Value) (news : List (Addr × Obj)) : Prop :=
  ∃ rs nT own o4 o5, m (Str.ofString "twos") = some (.ref ad2) ∧ m (Str.ofString "ones") = some (.ref ad1) ∧ m (Str.ofString "mirrored") = some (.str (sg (mir B)) tm) ∧
    news = (aT, listOf (List.toArray rs) nT) :: (ad2, listOf us2.toArray n2) :: (ad1, listOf us1.toArray n1) :: (L + 1 + 1 + 1 + 1 + 1, o5) :: (L + 1 + 1 + 1 + 1, o4) :: (L + 1 + 1 + 1, o3) :: (L + 1 + 1, o2) :: (L + 1, o1) :: own ∧
    (∃ v, o4.data = .cell v) ∧ (∃ v, o5.data = .cell v) ∧ TabTo own A B i rs ∧ OwnOff own [aT, ad2, ad1, L + 1 + 1 + 1 + 1 + 1, L + 1 + 1 + 1 + 1, L + 1 + 1 + 1, L + 1 + 1, L + 1]
theorem inner_loop (w : World) (p : Program) (loose : List Str) (mean : ExcName → Option Value) (mg mb : Str → Option Value) {A B : List Bool} (hA : A.length ≤ 7) (hB : B.length ≤ 7) {o1 o2 o3 o4 o5 oO : Obj}
    {h₀ : Heap} {L fa : Addr} {cd : Value} {m : Str → Option Value} {s : Shared} {Q : Flow → Shared → Prop} {E : Value → Shared → Prop}
    {i : Nat} (hi : i ≤ A.length) {ti tm t1 t2 t u v : CTok} {itO aLn aT ad1 ad2 r : Addr} {rs us1 us2 : List Value} {nT n1 n2 : Nat} {own : List (Addr × Obj)} {px : Pos}
    (hr : IsRange s.heap r 0 (((sg B).length : Int) + 1) 1 t u v)
    (F : Fr h₀ L s.heap m) (m1 : m (Str.ofString "i") = some (.int (i : Int) ti)) (m2 : m (Str.ofString "twos") = some (.ref ad2)) (m3 : m (Str.ofString "ones") = some (.ref ad1)) (m4 : m (Str.ofString "mirrored") = some (.str (sg (mir B)) tm))
    (N : News h₀ L s.heap ((aLn, listOf #[] 0) :: (itO, oO) :: (aT, listOf rs.toArray nT) :: (ad2, listOf us2.toArray n2) :: (ad1, listOf us1.toArray n1) :: (L + 1 + 1 + 1 + 1 + 1, o5) :: (L + 1 + 1 + 1 + 1, o4) :: (L + 1 + 1 + 1, o3) :: (L + 1 + 1, o2) :: (L + 1, o1) :: own))
    (d1 : o1.data = .cell (some (.str (sg A) t1))) (d2 : o2.data = .cell (some (.str (sg B) t2))) (d3 : o3.data = .cell (some (.ref aT))) (d4 : o4.data = .cell (some (.ref aLn))) (d5 : ∃ v, o5.data = .cell v)
    (hI1 : IntsAre us1 (worthsF (sg A))) (hI2 : IntsAre us2 (worthsF (sg B))) (hT : TabTo own A B i rs)
    (hoff : OwnOff own [aT, ad2, ad1, L + 1 + 1 + 1 + 1 + 1, L + 1 + 1 + 1 + 1, L + 1 + 1 + 1, L + 1 + 1, L + 1]) (hoff2 : ∀ q ∈ own, q.1 ≠ itO)
    (lt1 : AllLt aLn ((itO, oO) :: (aT, listOf rs.toArray nT) :: (ad2, listOf us2.toArray n2) :: (ad1, listOf us1.toArray n1) :: (L + 1 + 1 + 1 + 1 + 1, o5) :: (L + 1 + 1 + 1 + 1, o4) :: (L + 1 + 1 + 1, o3) :: (L + 1 + 1, o2) :: (L + 1, o1) :: own))
    (lt2 : @LT.lt Nat _ ad2 aT ∧ @LT.lt Nat _ ad1 ad2 ∧ @LT.lt Nat _ (L + 1 + 1 + 1 + 1 + 1) ad1) (z5 : @Ne Nat (L + 1 + 1 + 1 + 1 + 1) itO)
    (B0 : Below callerA h₀ [] h₀) (X : (Mine.hd.heap_39 w.params).In h₀) (T : Top p loose mean mg mb h₀)
    (hdone : ∀ (m' : Str → Option Value) (ps : List Value) (n : Nat) (own' : List (Addr × Obj)) (h : Heap) (tk : Nat) (o5' : Obj), Fr h₀ L h m' → m' (Str.ofString "twos") = some (.ref ad2) → m' (Str.ofString "ones") = some (.ref ad1) → m' (Str.ofString "mirrored") = some (.str (sg (mir B)) tm) →
      News h₀ L h ((L + 1 + 1 + 1 + 1 + 1, o5') :: (aLn, listOf (List.toArray ps) n) :: (itO, oO) :: (aT, listOf rs.toArray nT) :: (ad2, listOf us2.toArray n2) :: (ad1, listOf us1.toArray n1) :: (L + 1 + 1 + 1 + 1, o4) :: (L + 1 + 1 + 1, o3) :: (L + 1 + 1, o2) :: (L + 1, o1) :: own') →
      (∃ v, o5'.data = .cell v) → TabTo own' A B i rs → RowTo own' (A.take i) B (B.length + 1) ps → OwnOff own' [L + 1 + 1 + 1 + 1 + 1, aLn, itO, aT, ad2, ad1, L + 1 + 1 + 1 + 1, L + 1 + 1 + 1, L + 1 + 1, L + 1] → Q .next { s with heap := h, toks := tk }) :
    wpAny (model PySem.Challenge.rw_wn0005_01.prog w) (callerA.deeper (lawE L fa cd)) (pyIter (.ref r)) (fun it s₂ => codeAny (model PySem.Challenge.rw_wn0005_01.prog w) (callerA.deeper (lawE L fa cd)) (.forLoop (.Name (Str.ofString "j") px) it forJ [] (lawE L fa cd))
      (fun r s' => match r with | .ok f => Q f s' | .error e => cameBackBy (model PySem.Challenge.rw_wn0005_01.prog w) (callerA.deeper (lawE L fa cd)) (lawE L fa cd) (fun e s' => wpAny (model PySem.Challenge.rw_wn0005_01.prog w) (callerA.deeper (lawE L fa cd)) (leaving (lawE L fa cd) e) (fun _ s'' => E e s'') (fun e' s'' => E e' s'') s') e s') s₂)
      (fun e s' => wpAny (model PySem.Challenge.rw_wn0005_01.prog w) (callerA.deeper (lawE L fa cd)) (leaving (lawE L fa cd) e) (fun _ s'' => E e s'') (fun e' s'' => E e' s'') s') s := by
  have e : (((sg B).length : Int) + 1) = ((B.length + 1 : Nat) : Int) := by rw [sg_len]; omega
  rw [e] at hr
  have lt3 : AllLt aLn [(itO, oO), (aT, listOf rs.toArray nT), (ad2, listOf us2.toArray n2), (ad1, listOf us1.toArray n1), (L + 1 + 1 + 1 + 1 + 1, o5), (L + 1 + 1 + 1 + 1, o4), (L + 1 + 1 + 1, o3), (L + 1 + 1, o2), (L + 1, o1)] :=
    ⟨lt1.1, lt1.2.1, lt1.2.2.1, lt1.2.2.2.1, lt1.2.2.2.2.1, lt1.2.2.2.2.2.1, lt1.2.2.2.2.2.2.1, lt1.2.2.2.2.2.2.2.1, lt1.2.2.2.2.2.2.2.2.1, trivial⟩
  have lt4 := lt3
  simp only [AllLt, and_true] at lt4
  have z0 : ∀ q ∈ own, @LT.lt Nat _ q.1 aLn := by
    have := lt1.2.2.2.2.2.2.2.2.2
    intro q hq
    clear lt1 lt3 lt4 N hT hoff hoff2
    induction own with
    | nil => cases hq
    | cons a l ih =>
      rcases List.mem_cons.mp hq with rfl | hq
      · exact this.1
      · exact ih this.2 hq
  refine loopC (c := L + 1 + 1 + 1 + 1 + 1) (o₀ := o5) (n := B.length + 1) (h₀ := h₀) (m₀ := m) rfl rfl ?hx ?hcl hr (small_one (by omega) (by omega) (by omega) (by omega)) F (N.perm ?p1) d5 ?c1
    (InnerJ L A B i ti tm aLn itO aT ad1 ad2 oO o1 o2 o3 o4 rs us1 us2 nT n1 n2) ⟨[], 0, own, m1, m2, m3, m4, rfl, hT, ⟨rfl, fun k hk => absurd hk (Nat.not_lt_zero _)⟩, ?o1⟩ (by passes_own) ?step ?done
  case hx => with_unfolding_all rfl
  case hcl => with_unfolding_all rfl
  case p1 =>
    repeat' (first | refine List.forall_mem_cons.mpr ⟨?_, ?_⟩ | k_mem | (intro q hq; repeat (first | exact hq | apply List.mem_cons_of_mem)))
  case c1 =>
    refine List.forall_mem_cons.mpr ⟨?_, List.forall_mem_cons.mpr ⟨?_, List.forall_mem_cons.mpr ⟨?_, List.forall_mem_cons.mpr ⟨?_, List.forall_mem_cons.mpr ⟨?_, List.forall_mem_cons.mpr ⟨?_, List.forall_mem_cons.mpr ⟨?_, List.forall_mem_cons.mpr ⟨?_, List.forall_mem_cons.mpr ⟨?_, ?_⟩⟩⟩⟩⟩⟩⟩⟩⟩
    · show @Ne Nat aLn (L + 1 + 1 + 1 + 1 + 1); omega
    · show @Ne Nat itO (L + 1 + 1 + 1 + 1 + 1); omega
    · show @Ne Nat aT (L + 1 + 1 + 1 + 1 + 1); omega
    · show @Ne Nat ad2 (L + 1 + 1 + 1 + 1 + 1); omega
    · show @Ne Nat ad1 (L + 1 + 1 + 1 + 1 + 1); omega
    · show @Ne Nat (L + 1 + 1 + 1 + 1) (L + 1 + 1 + 1 + 1 + 1); omega
    · show @Ne Nat (L + 1 + 1 + 1) (L + 1 + 1 + 1 + 1 + 1); omega
    · show @Ne Nat (L + 1 + 1) (L + 1 + 1 + 1 + 1 + 1); omega
    · show @Ne Nat (L + 1) (L + 1 + 1 + 1 + 1 + 1); omega
    · exact fun q hq => hoff q hq _ (by k_mem)
  case o1 =>
    intro q hq b hb
    rcases List.mem_cons.mp hb with rfl | hb
    · exact hoff q hq _ (by k_mem)
    rcases List.mem_cons.mp hb with rfl | hb
    · have := z0 q hq
      show @Ne Nat q.1 b
      omega
    rcases List.mem_cons.mp hb with rfl | hb
    · exact hoff2 q hq
    rcases List.mem_cons.mp hb with rfl | hb
    · exact hoff q hq _ (by k_mem)
    rcases List.mem_cons.mp hb with rfl | hb
    · exact hoff q hq _ (by k_mem)
    rcases List.mem_cons.mp hb with rfl | hb
    · exact hoff q hq _ (by k_mem)
    exact hoff q hq b (.tail _ (.tail _ (.tail _ (.tail _ hb))))
  case step =>
    intro j tj m' news h tk it oI o hj hJ q1 q2 q3 hd F' N'
    exact inner_turn w p loose mean mg mb A B hA hB o1 o2 o3 o4 o oO oI h₀ L fa cd m' h tk s Q _ i j hi hj ti tj tm t1 t2 itO it aLn aT ad1 ad2 rs us1 us2 nT n1 n2 news hJ q1 q2 q3 d1 d2 d3 d4 hd hI1 hI2 lt3 F' N' B0 X T
  case done =>
    rintro m' news h tk o ⟨ps, n, own', e1, e2, e3, e4, rfl, hT', hR', ho'⟩ hd hc' F' N'
    exact hdone m' ps n own' h tk o F' e2 e3 e4 N' hd hT' hR' ho'
theorem outer_close {A B : List Bool} {o1 o2 o3 o4 o5 oO : Obj} {h₀ h : Heap} {L : Addr} {m : Str → Option Value} {s : Shared} {tk : Nat} {Q : Flow → Shared → Prop} {i : Nat} {tm : CTok} {itO aLn aT ad1 ad2 : Addr} {rs ps us1 us2 : List Value} {nT n n1 n2 : Nat} {own' : List (Addr × Obj)}
    (F : Fr h₀ L h m) (m2 : m (Str.ofString "twos") = some (.ref ad2)) (m3 : m (Str.ofString "ones") = some (.ref ad1)) (m4 : m (Str.ofString "mirrored") = some (.str (sg (mir B)) tm))
    (N : News h₀ L h ((L + 1 + 1 + 1 + 1 + 1, o5) :: (aLn, listOf (List.toArray ps) n) :: (itO, oO) :: (aT, listOf (rs.toArray.push (Value.ref aLn)) (nT + 1)) :: (ad2, listOf us2.toArray n2) :: (ad1, listOf us1.toArray n1) :: (L + 1 + 1 + 1 + 1, o4) :: (L + 1 + 1 + 1, o3) :: (L + 1 + 1, o2) :: (L + 1, o1) :: own'))
    (d4 : ∃ v, o4.data = .cell v) (d5 : ∃ v, o5.data = .cell v) (hT : TabTo own' A B i rs) (hR : RowTo own' (A.take i) B (B.length + 1) ps)
    (ho : OwnOff own' [L + 1 + 1 + 1 + 1 + 1, aLn, itO, aT, ad2, ad1, L + 1 + 1 + 1 + 1, L + 1 + 1 + 1, L + 1 + 1, L + 1])
    (lt1 : @LT.lt Nat _ itO aLn ∧ @LT.lt Nat _ aT aLn ∧ @LT.lt Nat _ ad2 aLn ∧ @LT.lt Nat _ ad1 aLn ∧ @LT.lt Nat _ (L + 1 + 1 + 1 + 1 + 1) aLn)
    (z : @Ne Nat aT itO ∧ @Ne Nat ad2 itO ∧ @Ne Nat ad1 itO ∧ @Ne Nat (L + 1 + 1 + 1 + 1 + 1) itO ∧ @Ne Nat (L + 1 + 1 + 1 + 1) itO ∧ @Ne Nat (L + 1 + 1 + 1) itO ∧ @Ne Nat (L + 1 + 1) itO ∧ @Ne Nat (L + 1) itO) :
    LEnd h₀ L itO oO (OuterJ L A B tm aT ad1 ad2 o1 o2 o3 us1 us2 n1 n2 (i + 1)) s Q .next { s with heap := h, toks := tk } := by
  rw [List.push_toArray] at N
  obtain ⟨y1, y2, y3, y4, y5⟩ := lt1
  obtain ⟨z1, z2, z3, z4, z5, z6, z7, z8⟩ := z
  refine ⟨h, tk, m, (aT, listOf (List.toArray (rs ++ [Value.ref aLn])) (nT + 1)) :: (ad2, listOf us2.toArray n2) :: (ad1, listOf us1.toArray n1) :: (L + 1 + 1 + 1 + 1 + 1, o5) :: (L + 1 + 1 + 1 + 1, o4) :: (L + 1 + 1 + 1, o3) :: (L + 1 + 1, o2) :: (L + 1, o1) :: (aLn, listOf (List.toArray ps) n) :: own', rfl, F, N.perm ?p1, ?q1, rs ++ [Value.ref aLn], nT + 1, (aLn, listOf (List.toArray ps) n) :: own', o4, o5, m2, m3, m4, rfl, d4, d5, hT.snoc hR, ?o1⟩
  case p1 =>
    repeat' (first | refine List.forall_mem_cons.mpr ⟨?_, ?_⟩ | k_mem | (intro q hq; repeat (first | exact hq | apply List.mem_cons_of_mem)))
  case q1 =>
    refine List.forall_mem_cons.mpr ⟨z1, List.forall_mem_cons.mpr ⟨z2, List.forall_mem_cons.mpr ⟨z3, List.forall_mem_cons.mpr ⟨z4, List.forall_mem_cons.mpr ⟨z5, List.forall_mem_cons.mpr ⟨z6, List.forall_mem_cons.mpr ⟨z7, List.forall_mem_cons.mpr ⟨z8, List.forall_mem_cons.mpr ⟨?_, ?_⟩⟩⟩⟩⟩⟩⟩⟩⟩
    · show @Ne Nat aLn itO
      omega
    · exact fun q hq => ho q hq _ (by k_mem)
  case o1 =>
    intro q hq b hb
    rcases List.mem_cons.mp hq with rfl | hq
    · simp only [List.mem_cons, List.not_mem_nil, or_false] at hb
      show @Ne Nat aLn b
      rcases hb with rfl | rfl | rfl | rfl | rfl | rfl | rfl | rfl <;> omega
    · simp only [List.mem_cons, List.not_mem_nil, or_false] at hb
      rcases hb with rfl | rfl | rfl | rfl | rfl | rfl | rfl | rfl <;> exact ho q hq _ (by k_mem)
set_option maxHeartbeats 8000000 in
theorem outer_turn (w : World) (p : Program) (loose : List Str) (mean : ExcName → Option Value) (mg mb : Str → Option Value) (A B : List Bool) (hA : A.length ≤ 7) (hB : B.length ≤ 7) (o1 o2 o3 oO : Obj)
    (h₀ : Heap) (L fa : Addr) (cd : Value) (m : Str → Option Value) (g : Heap) (tk : Nat) (s : Shared) (Q : Flow → Shared → Prop) (E : Value → Shared → Prop)
    (i : Nat) (hi : i < A.length + 1) (ti tm t1 t2 : CTok) (itO aT ad1 ad2 : Addr) (us1 us2 : List Value) (n1 n2 : Nat) (news : List (Addr × Obj))
    (hJ : OuterJ L A B tm aT ad1 ad2 o1 o2 o3 us1 us2 n1 n2 i m news)
    (q1 : ∀ p ∈ news, p.1 ≠ itO)
    (d1 : o1.data = .cell (some (.str (sg A) t1))) (d2 : o2.data = .cell (some (.str (sg B) t2))) (d3 : o3.data = .cell (some (.ref aT)))
    (hI1 : IntsAre us1 (worthsF (sg A))) (hI2 : IntsAre us2 (worthsF (sg B)))
    (lt1 : @LT.lt Nat _ ad2 aT ∧ @LT.lt Nat _ ad1 ad2 ∧ @LT.lt Nat _ (L + 1 + 1 + 1 + 1 + 1) ad1)
    (F : Fr h₀ L g (fun y => if y = Str.ofString "i" then some (.int (i : Int) ti) else m y)) (N : News h₀ L g ((itO, oO) :: news))
    (B0 : Below callerA h₀ [] h₀) (X : (Mine.hd.heap_39 w.params).In h₀) (T : Top p loose mean mg mb h₀) :
    wpAny (model PySem.Challenge.rw_wn0005_01.prog w) (callerA.deeper (lawE L fa cd)) (execs forI (lawE L fa cd))
      (LEnd h₀ L itO oO (OuterJ L A B tm aT ad1 ad2 o1 o2 o3 us1 us2 n1 n2 (i + 1)) s Q)
      (fun e s' => wpAny (model PySem.Challenge.rw_wn0005_01.prog w) (callerA.deeper (lawE L fa cd)) (leaving (lawE L fa cd) e) (fun _ s'' => E e s'') (fun e' s'' => E e' s'') s') { s with heap := g, toks := tk } := by
  k_with_none
  w_top off
  obtain ⟨rs, nT, own, o4, o5, m2, m3, m4, rfl, ⟨v4, d4⟩, ⟨v5, d5⟩, hT, hoff⟩ := hJ
  have hl1 : (sg A).length ≤ 7 := by rw [sg_len]; exact hA
  have hl2 : (sg B).length ≤ 7 := by rw [sg_len]; exact hB
  have F0 := expose4 (x1 := Str.ofString "i") (x2 := Str.ofString "twos") (x3 := Str.ofString "ones") (x4 := Str.ofString "mirrored") F (v1 := .int (i : Int) ti) (v2 := .ref ad2) (v3 := .ref ad1) (v4 := .str (sg (mir B)) tm) (by with_unfolding_all rfl) (by with_unfolding_all exact m2) (by with_unfolding_all exact m3) (by with_unfolding_all exact m4)
  clear F
  have z1 : @Ne Nat aT itO := q1 (aT, _) (by k_mem)
  have z2 : @Ne Nat ad2 itO := q1 (ad2, _) (by k_mem)
  have z3 : @Ne Nat ad1 itO := q1 (ad1, _) (by k_mem)
  have z5 : @Ne Nat (L + 1 + 1 + 1 + 1 + 1) itO := q1 (_, o5) (by k_mem)
  have z4 : @Ne Nat (L + 1 + 1 + 1 + 1) itO := q1 (_, o4) (by k_mem)
  have z6 : @Ne Nat (L + 1 + 1 + 1) itO := q1 (_, o3) (by k_mem)
  have z7 : @Ne Nat (L + 1 + 1) itO := q1 (_, o2) (by k_mem)
  have z8 : @Ne Nat (L + 1) itO := q1 (_, o1) (by k_mem)
  (with_unfolding_all show wpAny _ (callerA.deeper (envOfC (Str.ofString "law") (Scope.mk _ _ _ _ _) L fa cd)) (execs (_ :: _ :: _ :: []) (envOfC (Str.ofString "law") (Scope.mk _ _ _ _ _) L fa cd)) _ _ _)
  (try k_fold)
  (repeat' (first | (k_unfold; (try dsimp only)) | (k_end; (( (fail_if_success (with_reducible show wpAny _ _ (PySem.exec (Stmt.While _ _ _ _) _) _ _ _)); (fail_if_success (with_reducible show wpAny _ _ (PySem.exec (Stmt.For _ _ _ _ _) _) _ _ _)); (fail_if_success (with_reducible show wpAny _ _ (PySem.call (Value.ref _) _ _) _ _ _)); (fail_if_success (with_reducible show wpAny _ _ (PySem.pyIter _) _ _ _)); (fail_if_success (with_reducible show KswEnd _ _ _ _ _ _ _ _ _ _ _ _)); (fail_if_success (with_reducible show InvEndN _ _ _ _ _ _ _)))); wrow_close) | ((( (fail_if_success (with_reducible show wpAny _ _ (PySem.exec (Stmt.While _ _ _ _) _) _ _ _)); (fail_if_success (with_reducible show wpAny _ _ (PySem.exec (Stmt.For _ _ _ _ _) _) _ _ _)); (fail_if_success (with_reducible show wpAny _ _ (PySem.call (Value.ref _) _ _) _ _ _)); (fail_if_success (with_reducible show wpAny _ _ (PySem.pyIter _) _ _ _)); (fail_if_success (with_reducible show KswEnd _ _ _ _ _ _ _ _ _ _ _ _)); (fail_if_success (with_reducible show InvEndN _ _ _ _ _ _ _)))); walk1) | ((( (fail_if_success (with_reducible show wpAny _ _ (PySem.exec (Stmt.While _ _ _ _) _) _ _ _)); (fail_if_success (with_reducible show wpAny _ _ (PySem.exec (Stmt.For _ _ _ _ _) _) _ _ _)); (fail_if_success (with_reducible show wpAny _ _ (PySem.call (Value.ref _) _ _) _ _ _)); (fail_if_success (with_reducible show wpAny _ _ (PySem.pyIter _) _ _ _)); (fail_if_success (with_reducible show KswEnd _ _ _ _ _ _ _ _ _ _ _ _)); (fail_if_success (with_reducible show InvEndN _ _ _ _ _ _ _)))); dsimp only; (( (fail_if_success (with_reducible show wpAny _ _ (PySem.exec (Stmt.While _ _ _ _) _) _ _ _)); (fail_if_success (with_reducible show wpAny _ _ (PySem.exec (Stmt.For _ _ _ _ _) _) _ _ _)); (fail_if_success (with_reducible show wpAny _ _ (PySem.call (Value.ref _) _ _) _ _ _)); (fail_if_success (with_reducible show wpAny _ _ (PySem.pyIter _) _ _ _)); (fail_if_success (with_reducible show KswEnd _ _ _ _ _ _ _ _ _ _ _ _)); (fail_if_success (with_reducible show InvEndN _ _ _ _ _ _ _)))); walk1) | ((( (fail_if_success (with_reducible show wpAny _ _ (PySem.exec (Stmt.While _ _ _ _) _) _ _ _)); (fail_if_success (with_reducible show wpAny _ _ (PySem.exec (Stmt.For _ _ _ _ _) _) _ _ _)); (fail_if_success (with_reducible show wpAny _ _ (PySem.call (Value.ref _) _ _) _ _ _)); (fail_if_success (with_reducible show wpAny _ _ (PySem.pyIter _) _ _ _)); (fail_if_success (with_reducible show KswEnd _ _ _ _ _ _ _ _ _ _ _ _)); (fail_if_success (with_reducible show InvEndN _ _ _ _ _ _ _)))); leave1; walk_say "STEP leave1"; try dsimp only) | fail "no step"))
  (with_unfolding_all refine' wpAny_For ?_ ?hs)
  case hs => exact fun _ => rfl
  (repeat' (first | (k_unfold; (try dsimp only)) | (k_end; (( (fail_if_success (with_reducible show wpAny _ _ (PySem.exec (Stmt.While _ _ _ _) _) _ _ _)); (fail_if_success (with_reducible show wpAny _ _ (PySem.exec (Stmt.For _ _ _ _ _) _) _ _ _)); (fail_if_success (with_reducible show wpAny _ _ (PySem.call (Value.ref _) _ _) _ _ _)); (fail_if_success (with_reducible show wpAny _ _ (PySem.pyIter _) _ _ _)); (fail_if_success (with_reducible show KswEnd _ _ _ _ _ _ _ _ _ _ _ _)); (fail_if_success (with_reducible show InvEndN _ _ _ _ _ _ _)))); wrow_close) | ((( (fail_if_success (with_reducible show wpAny _ _ (PySem.exec (Stmt.While _ _ _ _) _) _ _ _)); (fail_if_success (with_reducible show wpAny _ _ (PySem.exec (Stmt.For _ _ _ _ _) _) _ _ _)); (fail_if_success (with_reducible show wpAny _ _ (PySem.call (Value.ref _) _ _) _ _ _)); (fail_if_success (with_reducible show wpAny _ _ (PySem.pyIter _) _ _ _)); (fail_if_success (with_reducible show KswEnd _ _ _ _ _ _ _ _ _ _ _ _)); (fail_if_success (with_reducible show InvEndN _ _ _ _ _ _ _)))); walk1) | ((( (fail_if_success (with_reducible show wpAny _ _ (PySem.exec (Stmt.While _ _ _ _) _) _ _ _)); (fail_if_success (with_reducible show wpAny _ _ (PySem.exec (Stmt.For _ _ _ _ _) _) _ _ _)); (fail_if_success (with_reducible show wpAny _ _ (PySem.call (Value.ref _) _ _) _ _ _)); (fail_if_success (with_reducible show wpAny _ _ (PySem.pyIter _) _ _ _)); (fail_if_success (with_reducible show KswEnd _ _ _ _ _ _ _ _ _ _ _ _)); (fail_if_success (with_reducible show InvEndN _ _ _ _ _ _ _)))); dsimp only; (( (fail_if_success (with_reducible show wpAny _ _ (PySem.exec (Stmt.While _ _ _ _) _) _ _ _)); (fail_if_success (with_reducible show wpAny _ _ (PySem.exec (Stmt.For _ _ _ _ _) _) _ _ _)); (fail_if_success (with_reducible show wpAny _ _ (PySem.call (Value.ref _) _ _) _ _ _)); (fail_if_success (with_reducible show wpAny _ _ (PySem.pyIter _) _ _ _)); (fail_if_success (with_reducible show KswEnd _ _ _ _ _ _ _ _ _ _ _ _)); (fail_if_success (with_reducible show InvEndN _ _ _ _ _ _ _)))); walk1) | ((( (fail_if_success (with_reducible show wpAny _ _ (PySem.exec (Stmt.While _ _ _ _) _) _ _ _)); (fail_if_success (with_reducible show wpAny _ _ (PySem.exec (Stmt.For _ _ _ _ _) _) _ _ _)); (fail_if_success (with_reducible show wpAny _ _ (PySem.call (Value.ref _) _ _) _ _ _)); (fail_if_success (with_reducible show wpAny _ _ (PySem.pyIter _) _ _ _)); (fail_if_success (with_reducible show KswEnd _ _ _ _ _ _ _ _ _ _ _ _)); (fail_if_success (with_reducible show InvEndN _ _ _ _ _ _ _)))); leave1; walk_say "STEP leave1"; try dsimp only) | fail "no step"))
  (rename IsRange _ _ _ _ _ _ _ _ => hr9)
  (rename Fr _ _ _ _ => lF')
  (rename News _ _ _ _ => lN')
  (with_unfolding_all refine' inner_loop w p loose mean mg mb hA hB (by omega) hr9 lF' rfl rfl rfl rfl lN' d1 d2 d3 (by assumption) ⟨_, d5⟩ hI1 hI2 hT hoff ?hoff2 (by assumption) lt1 z5 B0 X T ?hdone)
  case hoff2 => exact fun q hq => q1 q (by repeat (first | exact hq | apply List.mem_cons_of_mem))
  case hdone =>
    intro m' ps n own' h5 tk5 o5' F5 e2 e3 e4 N5 d5' hT' hR' ho'
    obtain ⟨v5', d5'⟩ := d5'
    have hrs := hT.1
    show wpAny _ _ _ _ _ _
    (repeat' (first | (k_unfold; (try dsimp only)) | (k_end; (( (fail_if_success (with_reducible show wpAny _ _ (PySem.exec (Stmt.While _ _ _ _) _) _ _ _)); (fail_if_success (with_reducible show wpAny _ _ (PySem.exec (Stmt.For _ _ _ _ _) _) _ _ _)); (fail_if_success (with_reducible show wpAny _ _ (PySem.call (Value.ref _) _ _) _ _ _)); (fail_if_success (with_reducible show wpAny _ _ (PySem.pyIter _) _ _ _)); (fail_if_success (with_reducible show KswEnd _ _ _ _ _ _ _ _ _ _ _ _)); (fail_if_success (with_reducible show InvEndN _ _ _ _ _ _ _)))); wrow_close) | ((( (fail_if_success (with_reducible show wpAny _ _ (PySem.exec (Stmt.While _ _ _ _) _) _ _ _)); (fail_if_success (with_reducible show wpAny _ _ (PySem.exec (Stmt.For _ _ _ _ _) _) _ _ _)); (fail_if_success (with_reducible show wpAny _ _ (PySem.call (Value.ref _) _ _) _ _ _)); (fail_if_success (with_reducible show wpAny _ _ (PySem.pyIter _) _ _ _)); (fail_if_success (with_reducible show KswEnd _ _ _ _ _ _ _ _ _ _ _ _)); (fail_if_success (with_reducible show InvEndN _ _ _ _ _ _ _)))); walk1) | ((( (fail_if_success (with_reducible show wpAny _ _ (PySem.exec (Stmt.While _ _ _ _) _) _ _ _)); (fail_if_success (with_reducible show wpAny _ _ (PySem.exec (Stmt.For _ _ _ _ _) _) _ _ _)); (fail_if_success (with_reducible show wpAny _ _ (PySem.call (Value.ref _) _ _) _ _ _)); (fail_if_success (with_reducible show wpAny _ _ (PySem.pyIter _) _ _ _)); (fail_if_success (with_reducible show KswEnd _ _ _ _ _ _ _ _ _ _ _ _)); (fail_if_success (with_reducible show InvEndN _ _ _ _ _ _ _)))); dsimp only; (( (fail_if_success (with_reducible show wpAny _ _ (PySem.exec (Stmt.While _ _ _ _) _) _ _ _)); (fail_if_success (with_reducible show wpAny _ _ (PySem.exec (Stmt.For _ _ _ _ _) _) _ _ _)); (fail_if_success (with_reducible show wpAny _ _ (PySem.call (Value.ref _) _ _) _ _ _)); (fail_if_success (with_reducible show wpAny _ _ (PySem.pyIter _) _ _ _)); (fail_if_success (with_reducible show KswEnd _ _ _ _ _ _ _ _ _ _ _ _)); (fail_if_success (with_reducible show InvEndN _ _ _ _ _ _ _)))); walk1) | ((( (fail_if_success (with_reducible show wpAny _ _ (PySem.exec (Stmt.While _ _ _ _) _) _ _ _)); (fail_if_success (with_reducible show wpAny _ _ (PySem.exec (Stmt.For _ _ _ _ _) _) _ _ _)); (fail_if_success (with_reducible show wpAny _ _ (PySem.call (Value.ref _) _ _) _ _ _)); (fail_if_success (with_reducible show wpAny _ _ (PySem.pyIter _) _ _ _)); (fail_if_success (with_reducible show KswEnd _ _ _ _ _ _ _ _ _ _ _ _)); (fail_if_success (with_reducible show InvEndN _ _ _ _ _ _ _)))); leave1; walk_say "STEP leave1"; try dsimp only) | fail "no step"))
    (rename Fr _ _ _ _ => lF9)
    (rename News _ _ _ _ => lN9)
    (with_unfolding_all exact outer_close lF9 e2 e3 e4 lN9 ⟨_, by assumption⟩ ⟨_, d5'⟩ hT' hR' ho' ⟨by omega, by omega, by omega, by omega, by omega⟩ ⟨z1, z2, z3, z5, z4, z6, z7, z8⟩)
end Mine
end
section
open PySem PySem.W PyProof.Rows PySem.Calls
namespace Mine
set_option maxRecDepth 100000
theorem outer_loop (w : World) (p : Program) (loose : List Str) (mean : ExcName → Option Value) (mg mb : Str → Option Value) {A B : List Bool} (hA : A.length ≤ 7) (hB : B.length ≤ 7) {o1 o2 o3 o4 o5 : Obj}
    {h₀ : Heap} {L fa : Addr} {cd : Value} {m : Str → Option Value} {s : Shared} {Q : Flow → Shared → Prop} {E : Value → Shared → Prop}
    {tm t1 t2 t u v : CTok} {aT ad1 ad2 r : Addr} {us1 us2 : List Value} {nT n1 n2 : Nat} {own : List (Addr × Obj)} {px : Pos}
    (hr : IsRange s.heap r 0 (((sg A).length : Int) + 1) 1 t u v)
    (F : Fr h₀ L s.heap m) (m2 : m (Str.ofString "twos") = some (.ref ad2)) (m3 : m (Str.ofString "ones") = some (.ref ad1)) (m4 : m (Str.ofString "mirrored") = some (.str (sg (mir B)) tm))
    (N : News h₀ L s.heap ((aT, listOf #[] nT) :: (ad2, listOf us2.toArray n2) :: (ad1, listOf us1.toArray n1) :: (L + 1 + 1 + 1 + 1 + 1, o5) :: (L + 1 + 1 + 1 + 1, o4) :: (L + 1 + 1 + 1, o3) :: (L + 1 + 1, o2) :: (L + 1, o1) :: own))
    (d1 : o1.data = .cell (some (.str (sg A) t1))) (d2 : o2.data = .cell (some (.str (sg B) t2))) (d3 : o3.data = .cell (some (.ref aT))) (d4 : ∃ v, o4.data = .cell v) (d5 : ∃ v, o5.data = .cell v)
    (hI1 : IntsAre us1 (worthsF (sg A))) (hI2 : IntsAre us2 (worthsF (sg B)))
    (lt2 : @LT.lt Nat _ ad2 aT ∧ @LT.lt Nat _ ad1 ad2 ∧ @LT.lt Nat _ (L + 1 + 1 + 1 + 1 + 1) ad1)
    (B0 : Below callerA h₀ [] h₀) (X : (Mine.hd.heap_39 w.params).In h₀) (T : Top p loose mean mg mb h₀)
    (hdone : ∀ (m' : Str → Option Value) (h : Heap) (tk : Nat), Fr h₀ L h m' → Q .next { s with heap := h, toks := tk }) :
    wpAny (model PySem.Challenge.rw_wn0005_01.prog w) (callerA.deeper (lawE L fa cd)) (pyIter (.ref r)) (fun it s₂ => codeAny (model PySem.Challenge.rw_wn0005_01.prog w) (callerA.deeper (lawE L fa cd)) (.forLoop (.Name (Str.ofString "i") px) it forI [] (lawE L fa cd))
      (fun r s' => match r with | .ok f => Q f s' | .error e => cameBackBy (model PySem.Challenge.rw_wn0005_01.prog w) (callerA.deeper (lawE L fa cd)) (lawE L fa cd) (fun e s' => wpAny (model PySem.Challenge.rw_wn0005_01.prog w) (callerA.deeper (lawE L fa cd)) (leaving (lawE L fa cd) e) (fun _ s'' => E e s'') (fun e' s'' => E e' s'') s') e s') s₂)
      (fun e s' => wpAny (model PySem.Challenge.rw_wn0005_01.prog w) (callerA.deeper (lawE L fa cd)) (leaving (lawE L fa cd) e) (fun _ s'' => E e s'') (fun e' s'' => E e' s'') s') s := by
  have e : (((sg A).length : Int) + 1) = ((A.length + 1 : Nat) : Int) := by rw [sg_len]; omega
  rw [e] at hr
  refine loopL (n := A.length + 1) (h₀ := h₀) (m₀ := m) rfl ?hx ?hp hr (small_one (by omega) (by omega) (by omega) (by omega)) F (news₀ := (aT, listOf (List.toArray []) nT) :: (ad2, listOf us2.toArray n2) :: (ad1, listOf us1.toArray n1) :: (L + 1 + 1 + 1 + 1 + 1, o5) :: (L + 1 + 1 + 1 + 1, o4) :: (L + 1 + 1 + 1, o3) :: (L + 1 + 1, o2) :: (L + 1, o1) :: []) ?hN
    (OuterJ L A B tm aT ad1 ad2 o1 o2 o3 us1 us2 n1 n2) ⟨[], nT, [], o4, o5, m2, m3, m4, rfl, d4, d5, ⟨rfl, fun k hk => absurd hk (Nat.not_lt_zero _)⟩, fun q hq => nomatch hq⟩ (by passes_own) ?step ?done
  case hx => with_unfolding_all rfl
  case hp => with_unfolding_all rfl
  case hN =>
    intro q hq
    refine N q ?_
    simp only [List.mem_cons, List.not_mem_nil, or_false] at hq ⊢
    rcases hq with rfl | rfl | rfl | rfl | rfl | rfl | rfl | rfl <;> simp
  case step =>
    intro i ti m' news h tk it oI hi hJ q1 F' N'
    exact outer_turn w p loose mean mg mb A B hA hB o1 o2 o3 oI h₀ L fa cd m' h tk s Q E i hi ti tm t1 t2 it aT ad1 ad2 us1 us2 n1 n2 news hJ q1 d1 d2 d3 hI1 hI2 lt2 F' N' B0 X T
  case done =>
    intro m' news h tk hJ F' N'
    exact hdone m' h tk F'
set_option maxHeartbeats 8000000 in
theorem tail_wp (w : World) (p : Program) (loose : List Str) (mean : ExcName → Option Value) (mg mb : Str → Option Value) (A B : List Bool) (hA : A.length ≤ 7) (hB : B.length ≤ 7) (o1 o2 o3 o4 o5 : Obj)
    (h₀ : Heap) (L fa : Addr) (cd : Value) (u : Str → Option Value) (s : Shared) (Q : Flow → Shared → Prop) (E : Value → Shared → Prop)
    (d1 : ∃ t, o1.data = .cell (some (.str (sg A) t))) (d2 : ∃ t, o2.data = .cell (some (.str (sg B) t))) (d3 : ∃ v, o3.data = .cell v) (d4 : ∃ v, o4.data = .cell v) (d5 : ∃ v, o5.data = .cell v)
    (F : Fr h₀ L s.heap u)
    (N : News h₀ L s.heap [(L + 1 + 1 + 1 + 1 + 1, o5), (L + 1 + 1 + 1 + 1, o4), (L + 1 + 1 + 1, o3), (L + 1 + 1, o2), (L + 1, o1)])
    (B0 : Below callerA h₀ [] h₀) (X : (Mine.hd.heap_39 w.params).In h₀) (T : Top p loose mean mg mb h₀)
    (hQ : ∀ h' tk m', Fr h₀ L h' m' → Q (.ret (.bool true)) { s with heap := h', toks := tk }) :
    wpAny (model PySem.Challenge.rw_wn0005_01.prog w) (callerA.deeper (lawE L fa cd)) (execs (lawB.drop 11) (lawE L fa cd)) Q (fun e s' => wpAny (model PySem.Challenge.rw_wn0005_01.prog w) (callerA.deeper (lawE L fa cd)) (leaving (lawE L fa cd) e) (fun _ s'' => E e s'') (fun e' s'' => E e' s'') s') s := by
  k_with_none
  w_top off
  obtain ⟨t1, d1⟩ := d1
  obtain ⟨t2, d2⟩ := d2
  obtain ⟨v3, d3⟩ := d3
  obtain ⟨v4, d4⟩ := d4
  obtain ⟨v5, d5⟩ := d5
  have hl1 : (sg A).length ≤ 7 := by rw [sg_len]; exact hA
  have hl2 : (sg B).length ≤ 7 := by rw [sg_len]; exact hB
  (with_unfolding_all show wpAny _ (callerA.deeper (envOfC (Str.ofString "law") (Scope.mk _ _ _ _ _) L fa cd)) (execs (_ :: _ :: _ :: _ :: _ :: _ :: []) (envOfC (Str.ofString "law") (Scope.mk _ _ _ _ _) L fa cd)) _ _ _)
  (try k_fold)
  (repeat' (first | (k_unfold; (try dsimp only)) | (k_end; (( (( (fail_if_success (with_reducible show wpAny _ _ (PySem.exec (Stmt.While _ _ _ _) _) _ _ _)); (fail_if_success (with_reducible show wpAny _ _ (PySem.exec (Stmt.For _ _ _ _ _) _) _ _ _)); (fail_if_success (with_reducible show wpAny _ _ (PySem.call (Value.ref _) _ _) _ _ _)); (fail_if_success (with_reducible show wpAny _ _ (PySem.pyIter _) _ _ _)); (fail_if_success (with_reducible show KswEnd _ _ _ _ _ _ _ _ _ _ _ _)); (fail_if_success (with_reducible show InvEndN _ _ _ _ _ _ _)))); (fail_if_success (with_reducible show wpAny _ _ (PySem.call (Value.builtin "str.join") _ _) _ _ _)))); wrow_close) | ((( (( (fail_if_success (with_reducible show wpAny _ _ (PySem.exec (Stmt.While _ _ _ _) _) _ _ _)); (fail_if_success (with_reducible show wpAny _ _ (PySem.exec (Stmt.For _ _ _ _ _) _) _ _ _)); (fail_if_success (with_reducible show wpAny _ _ (PySem.call (Value.ref _) _ _) _ _ _)); (fail_if_success (with_reducible show wpAny _ _ (PySem.pyIter _) _ _ _)); (fail_if_success (with_reducible show KswEnd _ _ _ _ _ _ _ _ _ _ _ _)); (fail_if_success (with_reducible show InvEndN _ _ _ _ _ _ _)))); (fail_if_success (with_reducible show wpAny _ _ (PySem.call (Value.builtin "str.join") _ _) _ _ _)))); walk1) | ((( (( (fail_if_success (with_reducible show wpAny _ _ (PySem.exec (Stmt.While _ _ _ _) _) _ _ _)); (fail_if_success (with_reducible show wpAny _ _ (PySem.exec (Stmt.For _ _ _ _ _) _) _ _ _)); (fail_if_success (with_reducible show wpAny _ _ (PySem.call (Value.ref _) _ _) _ _ _)); (fail_if_success (with_reducible show wpAny _ _ (PySem.pyIter _) _ _ _)); (fail_if_success (with_reducible show KswEnd _ _ _ _ _ _ _ _ _ _ _ _)); (fail_if_success (with_reducible show InvEndN _ _ _ _ _ _ _)))); (fail_if_success (with_reducible show wpAny _ _ (PySem.call (Value.builtin "str.join") _ _) _ _ _)))); dsimp only; (( (( (fail_if_success (with_reducible show wpAny _ _ (PySem.exec (Stmt.While _ _ _ _) _) _ _ _)); (fail_if_success (with_reducible show wpAny _ _ (PySem.exec (Stmt.For _ _ _ _ _) _) _ _ _)); (fail_if_success (with_reducible show wpAny _ _ (PySem.call (Value.ref _) _ _) _ _ _)); (fail_if_success (with_reducible show wpAny _ _ (PySem.pyIter _) _ _ _)); (fail_if_success (with_reducible show KswEnd _ _ _ _ _ _ _ _ _ _ _ _)); (fail_if_success (with_reducible show InvEndN _ _ _ _ _ _ _)))); (fail_if_success (with_reducible show wpAny _ _ (PySem.call (Value.builtin "str.join") _ _) _ _ _)))); walk1) | ((( (( (fail_if_success (with_reducible show wpAny _ _ (PySem.exec (Stmt.While _ _ _ _) _) _ _ _)); (fail_if_success (with_reducible show wpAny _ _ (PySem.exec (Stmt.For _ _ _ _ _) _) _ _ _)); (fail_if_success (with_reducible show wpAny _ _ (PySem.call (Value.ref _) _ _) _ _ _)); (fail_if_success (with_reducible show wpAny _ _ (PySem.pyIter _) _ _ _)); (fail_if_success (with_reducible show KswEnd _ _ _ _ _ _ _ _ _ _ _ _)); (fail_if_success (with_reducible show InvEndN _ _ _ _ _ _ _)))); (fail_if_success (with_reducible show wpAny _ _ (PySem.call (Value.builtin "str.join") _ _) _ _ _)))); leave1; walk_say "STEP leave1"; try dsimp only) | fail "no step"))
  walk1
  (repeat' (first | (k_unfold; (try dsimp only)) | (k_end; (( (( (fail_if_success (with_reducible show wpAny _ _ (PySem.exec (Stmt.While _ _ _ _) _) _ _ _)); (fail_if_success (with_reducible show wpAny _ _ (PySem.exec (Stmt.For _ _ _ _ _) _) _ _ _)); (fail_if_success (with_reducible show wpAny _ _ (PySem.call (Value.ref _) _ _) _ _ _)); (fail_if_success (with_reducible show wpAny _ _ (PySem.pyIter _) _ _ _)); (fail_if_success (with_reducible show KswEnd _ _ _ _ _ _ _ _ _ _ _ _)); (fail_if_success (with_reducible show InvEndN _ _ _ _ _ _ _)))); (fail_if_success (with_reducible show wpAny _ _ (PySem.call (Value.builtin "str.join") _ _) _ _ _)))); wrow_close) | ((( (( (fail_if_success (with_reducible show wpAny _ _ (PySem.exec (Stmt.While _ _ _ _) _) _ _ _)); (fail_if_success (with_reducible show wpAny _ _ (PySem.exec (Stmt.For _ _ _ _ _) _) _ _ _)); (fail_if_success (with_reducible show wpAny _ _ (PySem.call (Value.ref _) _ _) _ _ _)); (fail_if_success (with_reducible show wpAny _ _ (PySem.pyIter _) _ _ _)); (fail_if_success (with_reducible show KswEnd _ _ _ _ _ _ _ _ _ _ _ _)); (fail_if_success (with_reducible show InvEndN _ _ _ _ _ _ _)))); (fail_if_success (with_reducible show wpAny _ _ (PySem.call (Value.builtin "str.join") _ _) _ _ _)))); walk1) | ((( (( (fail_if_success (with_reducible show wpAny _ _ (PySem.exec (Stmt.While _ _ _ _) _) _ _ _)); (fail_if_success (with_reducible show wpAny _ _ (PySem.exec (Stmt.For _ _ _ _ _) _) _ _ _)); (fail_if_success (with_reducible show wpAny _ _ (PySem.call (Value.ref _) _ _) _ _ _)); (fail_if_success (with_reducible show wpAny _ _ (PySem.pyIter _) _ _ _)); (fail_if_success (with_reducible show KswEnd _ _ _ _ _ _ _ _ _ _ _ _)); (fail_if_success (with_reducible show InvEndN _ _ _ _ _ _ _)))); (fail_if_success (with_reducible show wpAny _ _ (PySem.call (Value.builtin "str.join") _ _) _ _ _)))); dsimp only; (( (( (fail_if_success (with_reducible show wpAny _ _ (PySem.exec (Stmt.While _ _ _ _) _) _ _ _)); (fail_if_success (with_reducible show wpAny _ _ (PySem.exec (Stmt.For _ _ _ _ _) _) _ _ _)); (fail_if_success (with_reducible show wpAny _ _ (PySem.call (Value.ref _) _ _) _ _ _)); (fail_if_success (with_reducible show wpAny _ _ (PySem.pyIter _) _ _ _)); (fail_if_success (with_reducible show KswEnd _ _ _ _ _ _ _ _ _ _ _ _)); (fail_if_success (with_reducible show InvEndN _ _ _ _ _ _ _)))); (fail_if_success (with_reducible show wpAny _ _ (PySem.call (Value.builtin "str.join") _ _) _ _ _)))); walk1) | ((( (( (fail_if_success (with_reducible show wpAny _ _ (PySem.exec (Stmt.While _ _ _ _) _) _ _ _)); (fail_if_success (with_reducible show wpAny _ _ (PySem.exec (Stmt.For _ _ _ _ _) _) _ _ _)); (fail_if_success (with_reducible show wpAny _ _ (PySem.call (Value.ref _) _ _) _ _ _)); (fail_if_success (with_reducible show wpAny _ _ (PySem.pyIter _) _ _ _)); (fail_if_success (with_reducible show KswEnd _ _ _ _ _ _ _ _ _ _ _ _)); (fail_if_success (with_reducible show InvEndN _ _ _ _ _ _ _)))); (fail_if_success (with_reducible show wpAny _ _ (PySem.call (Value.builtin "str.join") _ _) _ _ _)))); leave1; walk_say "STEP leave1"; try dsimp only) | fail "no step"))
  refine mirror_call hB (by assumption) (by assumption) ?_
  intro tm k9
  (repeat' (first | (k_unfold; (try dsimp only)) | (k_end; (( (fail_if_success (with_reducible show wpAny _ _ (PySem.exec (Stmt.While _ _ _ _) _) _ _ _)); (fail_if_success (with_reducible show wpAny _ _ (PySem.exec (Stmt.For _ _ _ _ _) _) _ _ _)); (fail_if_success (with_reducible show wpAny _ _ (PySem.call (Value.ref _) _ _) _ _ _)); (fail_if_success (with_reducible show wpAny _ _ (PySem.pyIter _) _ _ _)); (fail_if_success (with_reducible show KswEnd _ _ _ _ _ _ _ _ _ _ _ _)); (fail_if_success (with_reducible show InvEndN _ _ _ _ _ _ _)))); wrow_close) | ((( (fail_if_success (with_reducible show wpAny _ _ (PySem.exec (Stmt.While _ _ _ _) _) _ _ _)); (fail_if_success (with_reducible show wpAny _ _ (PySem.exec (Stmt.For _ _ _ _ _) _) _ _ _)); (fail_if_success (with_reducible show wpAny _ _ (PySem.call (Value.ref _) _ _) _ _ _)); (fail_if_success (with_reducible show wpAny _ _ (PySem.pyIter _) _ _ _)); (fail_if_success (with_reducible show KswEnd _ _ _ _ _ _ _ _ _ _ _ _)); (fail_if_success (with_reducible show InvEndN _ _ _ _ _ _ _)))); walk1) | ((( (fail_if_success (with_reducible show wpAny _ _ (PySem.exec (Stmt.While _ _ _ _) _) _ _ _)); (fail_if_success (with_reducible show wpAny _ _ (PySem.exec (Stmt.For _ _ _ _ _) _) _ _ _)); (fail_if_success (with_reducible show wpAny _ _ (PySem.call (Value.ref _) _ _) _ _ _)); (fail_if_success (with_reducible show wpAny _ _ (PySem.pyIter _) _ _ _)); (fail_if_success (with_reducible show KswEnd _ _ _ _ _ _ _ _ _ _ _ _)); (fail_if_success (with_reducible show InvEndN _ _ _ _ _ _ _)))); dsimp only; (( (fail_if_success (with_reducible show wpAny _ _ (PySem.exec (Stmt.While _ _ _ _) _) _ _ _)); (fail_if_success (with_reducible show wpAny _ _ (PySem.exec (Stmt.For _ _ _ _ _) _) _ _ _)); (fail_if_success (with_reducible show wpAny _ _ (PySem.call (Value.ref _) _ _) _ _ _)); (fail_if_success (with_reducible show wpAny _ _ (PySem.pyIter _) _ _ _)); (fail_if_success (with_reducible show KswEnd _ _ _ _ _ _ _ _ _ _ _ _)); (fail_if_success (with_reducible show InvEndN _ _ _ _ _ _ _)))); walk1) | ((( (fail_if_success (with_reducible show wpAny _ _ (PySem.exec (Stmt.While _ _ _ _) _) _ _ _)); (fail_if_success (with_reducible show wpAny _ _ (PySem.exec (Stmt.For _ _ _ _ _) _) _ _ _)); (fail_if_success (with_reducible show wpAny _ _ (PySem.call (Value.ref _) _ _) _ _ _)); (fail_if_success (with_reducible show wpAny _ _ (PySem.pyIter _) _ _ _)); (fail_if_success (with_reducible show KswEnd _ _ _ _ _ _ _ _ _ _ _ _)); (fail_if_success (with_reducible show InvEndN _ _ _ _ _ _ _)))); leave1; walk_say "STEP leave1"; try dsimp only) | fail "no step"))
  (( k_dflt (refine' (worthsC _ _ _ _ _ _ hA _) _ _ _ _ _ _ _ _ _ _ _ _ _ _ _ _ _ _ ?k1u616 ?k2u616 ?k3u616 ?k4u616 ?k5u616 ?k6u616 ?k7u616 ?k8u616 ?k9u616); (case k1u616 => k_asm); (case k2u616 => k_asm); (case k3u616 => k_asm); (case k4u616 => k_asm); (case k5u616 => k_asm); (case k6u616 => first | exact rfl | assumption); (case k7u616 => ktr_room); (case k8u616 => ktr_units)))
  intro ad1 us1 n1 g1 tk1 hI1 F1 N1 lt1
  k_lt lt1
  (repeat' (first | (k_unfold; (try dsimp only)) | (k_end; (( (fail_if_success (with_reducible show wpAny _ _ (PySem.exec (Stmt.While _ _ _ _) _) _ _ _)); (fail_if_success (with_reducible show wpAny _ _ (PySem.exec (Stmt.For _ _ _ _ _) _) _ _ _)); (fail_if_success (with_reducible show wpAny _ _ (PySem.call (Value.ref _) _ _) _ _ _)); (fail_if_success (with_reducible show wpAny _ _ (PySem.pyIter _) _ _ _)); (fail_if_success (with_reducible show KswEnd _ _ _ _ _ _ _ _ _ _ _ _)); (fail_if_success (with_reducible show InvEndN _ _ _ _ _ _ _)))); wrow_close) | ((( (fail_if_success (with_reducible show wpAny _ _ (PySem.exec (Stmt.While _ _ _ _) _) _ _ _)); (fail_if_success (with_reducible show wpAny _ _ (PySem.exec (Stmt.For _ _ _ _ _) _) _ _ _)); (fail_if_success (with_reducible show wpAny _ _ (PySem.call (Value.ref _) _ _) _ _ _)); (fail_if_success (with_reducible show wpAny _ _ (PySem.pyIter _) _ _ _)); (fail_if_success (with_reducible show KswEnd _ _ _ _ _ _ _ _ _ _ _ _)); (fail_if_success (with_reducible show InvEndN _ _ _ _ _ _ _)))); walk1) | ((( (fail_if_success (with_reducible show wpAny _ _ (PySem.exec (Stmt.While _ _ _ _) _) _ _ _)); (fail_if_success (with_reducible show wpAny _ _ (PySem.exec (Stmt.For _ _ _ _ _) _) _ _ _)); (fail_if_success (with_reducible show wpAny _ _ (PySem.call (Value.ref _) _ _) _ _ _)); (fail_if_success (with_reducible show wpAny _ _ (PySem.pyIter _) _ _ _)); (fail_if_success (with_reducible show KswEnd _ _ _ _ _ _ _ _ _ _ _ _)); (fail_if_success (with_reducible show InvEndN _ _ _ _ _ _ _)))); dsimp only; (( (fail_if_success (with_reducible show wpAny _ _ (PySem.exec (Stmt.While _ _ _ _) _) _ _ _)); (fail_if_success (with_reducible show wpAny _ _ (PySem.exec (Stmt.For _ _ _ _ _) _) _ _ _)); (fail_if_success (with_reducible show wpAny _ _ (PySem.call (Value.ref _) _ _) _ _ _)); (fail_if_success (with_reducible show wpAny _ _ (PySem.pyIter _) _ _ _)); (fail_if_success (with_reducible show KswEnd _ _ _ _ _ _ _ _ _ _ _ _)); (fail_if_success (with_reducible show InvEndN _ _ _ _ _ _ _)))); walk1) | ((( (fail_if_success (with_reducible show wpAny _ _ (PySem.exec (Stmt.While _ _ _ _) _) _ _ _)); (fail_if_success (with_reducible show wpAny _ _ (PySem.exec (Stmt.For _ _ _ _ _) _) _ _ _)); (fail_if_success (with_reducible show wpAny _ _ (PySem.call (Value.ref _) _ _) _ _ _)); (fail_if_success (with_reducible show wpAny _ _ (PySem.pyIter _) _ _ _)); (fail_if_success (with_reducible show KswEnd _ _ _ _ _ _ _ _ _ _ _ _)); (fail_if_success (with_reducible show InvEndN _ _ _ _ _ _ _)))); leave1; walk_say "STEP leave1"; try dsimp only) | fail "no step"))
  (( k_dflt (refine' (worthsC _ _ _ _ _ _ hB _) _ _ _ _ _ _ _ _ _ _ _ _ _ _ _ _ _ _ ?k1u617 ?k2u617 ?k3u617 ?k4u617 ?k5u617 ?k6u617 ?k7u617 ?k8u617 ?k9u617); (case k1u617 => k_asm); (case k2u617 => k_asm); (case k3u617 => k_asm); (case k4u617 => k_asm); (case k5u617 => k_asm); (case k6u617 => first | exact rfl | assumption); (case k7u617 => ktr_room); (case k8u617 => ktr_units)))
  intro ad2 us2 n2 g2 tk2 hI2 F2 N2 lt2
  k_lt lt2
  (repeat' (first | (k_unfold; (try dsimp only)) | (k_end; (( (fail_if_success (with_reducible show wpAny _ _ (PySem.exec (Stmt.While _ _ _ _) _) _ _ _)); (fail_if_success (with_reducible show wpAny _ _ (PySem.exec (Stmt.For _ _ _ _ _) _) _ _ _)); (fail_if_success (with_reducible show wpAny _ _ (PySem.call (Value.ref _) _ _) _ _ _)); (fail_if_success (with_reducible show wpAny _ _ (PySem.pyIter _) _ _ _)); (fail_if_success (with_reducible show KswEnd _ _ _ _ _ _ _ _ _ _ _ _)); (fail_if_success (with_reducible show InvEndN _ _ _ _ _ _ _)))); wrow_close) | ((( (fail_if_success (with_reducible show wpAny _ _ (PySem.exec (Stmt.While _ _ _ _) _) _ _ _)); (fail_if_success (with_reducible show wpAny _ _ (PySem.exec (Stmt.For _ _ _ _ _) _) _ _ _)); (fail_if_success (with_reducible show wpAny _ _ (PySem.call (Value.ref _) _ _) _ _ _)); (fail_if_success (with_reducible show wpAny _ _ (PySem.pyIter _) _ _ _)); (fail_if_success (with_reducible show KswEnd _ _ _ _ _ _ _ _ _ _ _ _)); (fail_if_success (with_reducible show InvEndN _ _ _ _ _ _ _)))); walk1) | ((( (fail_if_success (with_reducible show wpAny _ _ (PySem.exec (Stmt.While _ _ _ _) _) _ _ _)); (fail_if_success (with_reducible show wpAny _ _ (PySem.exec (Stmt.For _ _ _ _ _) _) _ _ _)); (fail_if_success (with_reducible show wpAny _ _ (PySem.call (Value.ref _) _ _) _ _ _)); (fail_if_success (with_reducible show wpAny _ _ (PySem.pyIter _) _ _ _)); (fail_if_success (with_reducible show KswEnd _ _ _ _ _ _ _ _ _ _ _ _)); (fail_if_success (with_reducible show InvEndN _ _ _ _ _ _ _)))); dsimp only; (( (fail_if_success (with_reducible show wpAny _ _ (PySem.exec (Stmt.While _ _ _ _) _) _ _ _)); (fail_if_success (with_reducible show wpAny _ _ (PySem.exec (Stmt.For _ _ _ _ _) _) _ _ _)); (fail_if_success (with_reducible show wpAny _ _ (PySem.call (Value.ref _) _ _) _ _ _)); (fail_if_success (with_reducible show wpAny _ _ (PySem.pyIter _) _ _ _)); (fail_if_success (with_reducible show KswEnd _ _ _ _ _ _ _ _ _ _ _ _)); (fail_if_success (with_reducible show InvEndN _ _ _ _ _ _ _)))); walk1) | ((( (fail_if_success (with_reducible show wpAny _ _ (PySem.exec (Stmt.While _ _ _ _) _) _ _ _)); (fail_if_success (with_reducible show wpAny _ _ (PySem.exec (Stmt.For _ _ _ _ _) _) _ _ _)); (fail_if_success (with_reducible show wpAny _ _ (PySem.call (Value.ref _) _ _) _ _ _)); (fail_if_success (with_reducible show wpAny _ _ (PySem.pyIter _) _ _ _)); (fail_if_success (with_reducible show KswEnd _ _ _ _ _ _ _ _ _ _ _ _)); (fail_if_success (with_reducible show InvEndN _ _ _ _ _ _ _)))); leave1; walk_say "STEP leave1"; try dsimp only) | fail "no step"))
  (with_unfolding_all refine' wpAny_For ?_ ?hs)
  case hs => exact fun _ => rfl
  (repeat' (first | (k_unfold; (try dsimp only)) | (k_end; (( (fail_if_success (with_reducible show wpAny _ _ (PySem.exec (Stmt.While _ _ _ _) _) _ _ _)); (fail_if_success (with_reducible show wpAny _ _ (PySem.exec (Stmt.For _ _ _ _ _) _) _ _ _)); (fail_if_success (with_reducible show wpAny _ _ (PySem.call (Value.ref _) _ _) _ _ _)); (fail_if_success (with_reducible show wpAny _ _ (PySem.pyIter _) _ _ _)); (fail_if_success (with_reducible show KswEnd _ _ _ _ _ _ _ _ _ _ _ _)); (fail_if_success (with_reducible show InvEndN _ _ _ _ _ _ _)))); wrow_close) | ((( (fail_if_success (with_reducible show wpAny _ _ (PySem.exec (Stmt.While _ _ _ _) _) _ _ _)); (fail_if_success (with_reducible show wpAny _ _ (PySem.exec (Stmt.For _ _ _ _ _) _) _ _ _)); (fail_if_success (with_reducible show wpAny _ _ (PySem.call (Value.ref _) _ _) _ _ _)); (fail_if_success (with_reducible show wpAny _ _ (PySem.pyIter _) _ _ _)); (fail_if_success (with_reducible show KswEnd _ _ _ _ _ _ _ _ _ _ _ _)); (fail_if_success (with_reducible show InvEndN _ _ _ _ _ _ _)))); walk1) | ((( (fail_if_success (with_reducible show wpAny _ _ (PySem.exec (Stmt.While _ _ _ _) _) _ _ _)); (fail_if_success (with_reducible show wpAny _ _ (PySem.exec (Stmt.For _ _ _ _ _) _) _ _ _)); (fail_if_success (with_reducible show wpAny _ _ (PySem.call (Value.ref _) _ _) _ _ _)); (fail_if_success (with_reducible show wpAny _ _ (PySem.pyIter _) _ _ _)); (fail_if_success (with_reducible show KswEnd _ _ _ _ _ _ _ _ _ _ _ _)); (fail_if_success (with_reducible show InvEndN _ _ _ _ _ _ _)))); dsimp only; (( (fail_if_success (with_reducible show wpAny _ _ (PySem.exec (Stmt.While _ _ _ _) _) _ _ _)); (fail_if_success (with_reducible show wpAny _ _ (PySem.exec (Stmt.For _ _ _ _ _) _) _ _ _)); (fail_if_success (with_reducible show wpAny _ _ (PySem.call (Value.ref _) _ _) _ _ _)); (fail_if_success (with_reducible show wpAny _ _ (PySem.pyIter _) _ _ _)); (fail_if_success (with_reducible show KswEnd _ _ _ _ _ _ _ _ _ _ _ _)); (fail_if_success (with_reducible show InvEndN _ _ _ _ _ _ _)))); walk1) | ((( (fail_if_success (with_reducible show wpAny _ _ (PySem.exec (Stmt.While _ _ _ _) _) _ _ _)); (fail_if_success (with_reducible show wpAny _ _ (PySem.exec (Stmt.For _ _ _ _ _) _) _ _ _)); (fail_if_success (with_reducible show wpAny _ _ (PySem.call (Value.ref _) _ _) _ _ _)); (fail_if_success (with_reducible show wpAny _ _ (PySem.pyIter _) _ _ _)); (fail_if_success (with_reducible show KswEnd _ _ _ _ _ _ _ _ _ _ _ _)); (fail_if_success (with_reducible show InvEndN _ _ _ _ _ _ _)))); leave1; walk_say "STEP leave1"; try dsimp only) | fail "no step"))
  (rename IsRange _ _ _ _ _ _ _ _ => hr9)
  (rename Fr _ _ _ _ => lF')
  (rename News _ _ _ _ => lN')
  (rename _ ∧ _ ∧ _ => l9)
  (with_unfolding_all refine' outer_loop (own := []) w p loose mean mg mb hA hB hr9 lF' rfl rfl rfl lN' d1 d2 (by assumption) ⟨_, d4⟩ ⟨_, d5⟩ hI1 hI2 ⟨l9.1, lt2.1, lt1.1⟩ B0 X T ?hdone)
  case hdone =>
    intro m' h5 tk5 F5
    show wpAny _ _ _ _ _ _
    (repeat' (first | (k_unfold; (try dsimp only)) | (k_end; (( (fail_if_success (with_reducible show wpAny _ _ (PySem.exec (Stmt.While _ _ _ _) _) _ _ _)); (fail_if_success (with_reducible show wpAny _ _ (PySem.exec (Stmt.For _ _ _ _ _) _) _ _ _)); (fail_if_success (with_reducible show wpAny _ _ (PySem.call (Value.ref _) _ _) _ _ _)); (fail_if_success (with_reducible show wpAny _ _ (PySem.pyIter _) _ _ _)); (fail_if_success (with_reducible show KswEnd _ _ _ _ _ _ _ _ _ _ _ _)); (fail_if_success (with_reducible show InvEndN _ _ _ _ _ _ _)))); wrow_close) | ((( (fail_if_success (with_reducible show wpAny _ _ (PySem.exec (Stmt.While _ _ _ _) _) _ _ _)); (fail_if_success (with_reducible show wpAny _ _ (PySem.exec (Stmt.For _ _ _ _ _) _) _ _ _)); (fail_if_success (with_reducible show wpAny _ _ (PySem.call (Value.ref _) _ _) _ _ _)); (fail_if_success (with_reducible show wpAny _ _ (PySem.pyIter _) _ _ _)); (fail_if_success (with_reducible show KswEnd _ _ _ _ _ _ _ _ _ _ _ _)); (fail_if_success (with_reducible show InvEndN _ _ _ _ _ _ _)))); walk1) | ((( (fail_if_success (with_reducible show wpAny _ _ (PySem.exec (Stmt.While _ _ _ _) _) _ _ _)); (fail_if_success (with_reducible show wpAny _ _ (PySem.exec (Stmt.For _ _ _ _ _) _) _ _ _)); (fail_if_success (with_reducible show wpAny _ _ (PySem.call (Value.ref _) _ _) _ _ _)); (fail_if_success (with_reducible show wpAny _ _ (PySem.pyIter _) _ _ _)); (fail_if_success (with_reducible show KswEnd _ _ _ _ _ _ _ _ _ _ _ _)); (fail_if_success (with_reducible show InvEndN _ _ _ _ _ _ _)))); dsimp only; (( (fail_if_success (with_reducible show wpAny _ _ (PySem.exec (Stmt.While _ _ _ _) _) _ _ _)); (fail_if_success (with_reducible show wpAny _ _ (PySem.exec (Stmt.For _ _ _ _ _) _) _ _ _)); (fail_if_success (with_reducible show wpAny _ _ (PySem.call (Value.ref _) _ _) _ _ _)); (fail_if_success (with_reducible show wpAny _ _ (PySem.pyIter _) _ _ _)); (fail_if_success (with_reducible show KswEnd _ _ _ _ _ _ _ _ _ _ _ _)); (fail_if_success (with_reducible show InvEndN _ _ _ _ _ _ _)))); walk1) | ((( (fail_if_success (with_reducible show wpAny _ _ (PySem.exec (Stmt.While _ _ _ _) _) _ _ _)); (fail_if_success (with_reducible show wpAny _ _ (PySem.exec (Stmt.For _ _ _ _ _) _) _ _ _)); (fail_if_success (with_reducible show wpAny _ _ (PySem.call (Value.ref _) _ _) _ _ _)); (fail_if_success (with_reducible show wpAny _ _ (PySem.pyIter _) _ _ _)); (fail_if_success (with_reducible show KswEnd _ _ _ _ _ _ _ _ _ _ _ _)); (fail_if_success (with_reducible show InvEndN _ _ _ _ _ _ _)))); leave1; walk_say "STEP leave1"; try dsimp only) | fail "no step"))
    exact hQ _ _ _ (by k_asm)
end Mine
end
section
open PySem PySem.W PyProof.Rows PySem.Calls
namespace Mine
set_option maxRecDepth 100000
set_option maxHeartbeats 8000000 in
theorem mid_wp (w : World) (p : Program) (loose : List Str) (mean : ExcName → Option Value) (mg mb : Str → Option Value) (A B : List Bool) (e : Str) (told : Int) (hA : A.length ≤ 4) (hB : B.length ≤ 4) (he : isEdge e) (h0 : 0 ≤ told) (h1 : told < 81)
    (h₀ : Heap) (L fa : Addr) (cd : Value) (u : Str → Option Value) (t1 t2 t3 t4 : CTok) (o1 o2 o3 o4 o5 : Obj) (s : Shared) (Q : Flow → Shared → Prop) (E : Value → Shared → Prop)
    (F : Fr h₀ L s.heap (fun y => if y = Str.ofString "edge" then some (.str e t3) else if y = Str.ofString "told" then some (.int told t4) else if y = Str.ofString "second" then some (.str (sg B) t2) else if y = Str.ofString "first" then some (.str (sg A) t1) else u y))
    (N : News h₀ L s.heap [(L + 1 + 1 + 1 + 1 + 1, o5), (L + 1 + 1 + 1 + 1, o4), (L + 1 + 1 + 1, o3), (L + 1 + 1, o2), (L + 1, o1)])
    (d1 : ∃ v, o1.data = .cell v) (d2 : ∃ v, o2.data = .cell v) (d3 : ∃ v, o3.data = .cell v) (d4 : ∃ v, o4.data = .cell v) (d5 : ∃ v, o5.data = .cell v)
    (B0 : Below callerA h₀ [] h₀) (X : (Mine.hd.heap_39 w.params).In h₀) (T : Top p loose mean mg mb h₀)
    (hQ : ∀ h' tk m', Fr h₀ L h' m' → Q (.ret (.bool true)) { s with heap := h', toks := tk }) :
    wpAny (model PySem.Challenge.rw_wn0005_01.prog w) (callerA.deeper (lawE L fa cd)) (execs (lawB.drop 5) (lawE L fa cd)) Q (fun e s' => wpAny (model PySem.Challenge.rw_wn0005_01.prog w) (callerA.deeper (lawE L fa cd)) (leaving (lawE L fa cd) e) (fun _ s'' => E e s'') (fun e' s'' => E e' s'') s') s := by
  k_with_none
  w_top off
  obtain ⟨v1, d1⟩ := d1
  obtain ⟨v2, d2⟩ := d2
  obtain ⟨v3, d3⟩ := d3
  obtain ⟨v4, d4⟩ := d4
  obtain ⟨v5, d5⟩ := d5
  have hl1 : (sg A).length ≤ 4 := by rw [sg_len]; exact hA
  have hl2 : (sg B).length ≤ 4 := by rw [sg_len]; exact hB
  have hl3 := he.len
  (with_unfolding_all show wpAny _ (callerA.deeper (envOfC (Str.ofString "law") (Scope.mk _ _ _ _ _) L fa cd)) (execs (_ :: _ :: _ :: _ :: _ :: _ :: _ :: _ :: _ :: _ :: _ :: _ :: []) (envOfC (Str.ofString "law") (Scope.mk _ _ _ _ _) L fa cd)) _ _ _)
  (try k_fold)
  (repeat' (first | (k_unfold; (try dsimp only)) | (k_end; (( (fail_if_success (with_reducible show wpAny _ _ (PySem.exec (Stmt.While _ _ _ _) _) _ _ _)); (fail_if_success (with_reducible show wpAny _ _ (PySem.exec (Stmt.For _ _ _ _ _) _) _ _ _)); (fail_if_success (with_reducible show wpAny _ _ (PySem.call (Value.ref _) _ _) _ _ _)); (fail_if_success (with_reducible show wpAny _ _ (PySem.pyIter _) _ _ _)); (fail_if_success (with_reducible show KswEnd _ _ _ _ _ _ _ _ _ _ _ _)); (fail_if_success (with_reducible show InvEndN _ _ _ _ _ _ _)))); wrow_close) | ((( (fail_if_success (with_reducible show wpAny _ _ (PySem.exec (Stmt.While _ _ _ _) _) _ _ _)); (fail_if_success (with_reducible show wpAny _ _ (PySem.exec (Stmt.For _ _ _ _ _) _) _ _ _)); (fail_if_success (with_reducible show wpAny _ _ (PySem.call (Value.ref _) _ _) _ _ _)); (fail_if_success (with_reducible show wpAny _ _ (PySem.pyIter _) _ _ _)); (fail_if_success (with_reducible show KswEnd _ _ _ _ _ _ _ _ _ _ _ _)); (fail_if_success (with_reducible show InvEndN _ _ _ _ _ _ _)))); walk1) | ((( (fail_if_success (with_reducible show wpAny _ _ (PySem.exec (Stmt.While _ _ _ _) _) _ _ _)); (fail_if_success (with_reducible show wpAny _ _ (PySem.exec (Stmt.For _ _ _ _ _) _) _ _ _)); (fail_if_success (with_reducible show wpAny _ _ (PySem.call (Value.ref _) _ _) _ _ _)); (fail_if_success (with_reducible show wpAny _ _ (PySem.pyIter _) _ _ _)); (fail_if_success (with_reducible show KswEnd _ _ _ _ _ _ _ _ _ _ _ _)); (fail_if_success (with_reducible show InvEndN _ _ _ _ _ _ _)))); dsimp only; (( (fail_if_success (with_reducible show wpAny _ _ (PySem.exec (Stmt.While _ _ _ _) _) _ _ _)); (fail_if_success (with_reducible show wpAny _ _ (PySem.exec (Stmt.For _ _ _ _ _) _) _ _ _)); (fail_if_success (with_reducible show wpAny _ _ (PySem.call (Value.ref _) _ _) _ _ _)); (fail_if_success (with_reducible show wpAny _ _ (PySem.pyIter _) _ _ _)); (fail_if_success (with_reducible show KswEnd _ _ _ _ _ _ _ _ _ _ _ _)); (fail_if_success (with_reducible show InvEndN _ _ _ _ _ _ _)))); walk1) | ((( (fail_if_success (with_reducible show wpAny _ _ (PySem.exec (Stmt.While _ _ _ _) _) _ _ _)); (fail_if_success (with_reducible show wpAny _ _ (PySem.exec (Stmt.For _ _ _ _ _) _) _ _ _)); (fail_if_success (with_reducible show wpAny _ _ (PySem.call (Value.ref _) _ _) _ _ _)); (fail_if_success (with_reducible show wpAny _ _ (PySem.pyIter _) _ _ _)); (fail_if_success (with_reducible show KswEnd _ _ _ _ _ _ _ _ _ _ _ _)); (fail_if_success (with_reducible show InvEndN _ _ _ _ _ _ _)))); leave1; walk_say "STEP leave1"; try dsimp only) | fail "no step"))
  (( k_dflt (refine' (worthsC _ _ _ _ _ _ (Nat.le_trans hA (by decide)) _) _ _ _ _ _ _ _ _ _ _ _ _ _ _ _ _ _ _ ?k1u670 ?k2u670 ?k3u670 ?k4u670 ?k5u670 ?k6u670 ?k7u670 ?k8u670 ?k9u670); (case k1u670 => k_asm); (case k2u670 => k_asm); (case k3u670 => k_asm); (case k4u670 => k_asm); (case k5u670 => k_asm); (case k6u670 => first | exact rfl | assumption); (case k7u670 => ktr_room); (case k8u670 => ktr_units)))
  intro ad1 us1 n1 g1 tk1 hI1 F1 N1 lt1
  k_lt lt1
  have hz1 := worthsF_len (sg A)
  rw [sg_len] at hz1
  have hz1' : 0 < (worthsF (sg A)).length := by omega
  have hz1'' : (worthsF (sg A)).length ≤ 8 := by omega
  (repeat' (first | (k_unfold; (try dsimp only)) | (k_end; (( (fail_if_success (with_reducible show wpAny _ _ (PySem.exec (Stmt.While _ _ _ _) _) _ _ _)); (fail_if_success (with_reducible show wpAny _ _ (PySem.exec (Stmt.For _ _ _ _ _) _) _ _ _)); (fail_if_success (with_reducible show wpAny _ _ (PySem.call (Value.ref _) _ _) _ _ _)); (fail_if_success (with_reducible show wpAny _ _ (PySem.pyIter _) _ _ _)); (fail_if_success (with_reducible show KswEnd _ _ _ _ _ _ _ _ _ _ _ _)); (fail_if_success (with_reducible show InvEndN _ _ _ _ _ _ _)))); wrow_close) | ((( (fail_if_success (with_reducible show wpAny _ _ (PySem.exec (Stmt.While _ _ _ _) _) _ _ _)); (fail_if_success (with_reducible show wpAny _ _ (PySem.exec (Stmt.For _ _ _ _ _) _) _ _ _)); (fail_if_success (with_reducible show wpAny _ _ (PySem.call (Value.ref _) _ _) _ _ _)); (fail_if_success (with_reducible show wpAny _ _ (PySem.pyIter _) _ _ _)); (fail_if_success (with_reducible show KswEnd _ _ _ _ _ _ _ _ _ _ _ _)); (fail_if_success (with_reducible show InvEndN _ _ _ _ _ _ _)))); walk1) | ((( (fail_if_success (with_reducible show wpAny _ _ (PySem.exec (Stmt.While _ _ _ _) _) _ _ _)); (fail_if_success (with_reducible show wpAny _ _ (PySem.exec (Stmt.For _ _ _ _ _) _) _ _ _)); (fail_if_success (with_reducible show wpAny _ _ (PySem.call (Value.ref _) _ _) _ _ _)); (fail_if_success (with_reducible show wpAny _ _ (PySem.pyIter _) _ _ _)); (fail_if_success (with_reducible show KswEnd _ _ _ _ _ _ _ _ _ _ _ _)); (fail_if_success (with_reducible show InvEndN _ _ _ _ _ _ _)))); dsimp only; (( (fail_if_success (with_reducible show wpAny _ _ (PySem.exec (Stmt.While _ _ _ _) _) _ _ _)); (fail_if_success (with_reducible show wpAny _ _ (PySem.exec (Stmt.For _ _ _ _ _) _) _ _ _)); (fail_if_success (with_reducible show wpAny _ _ (PySem.call (Value.ref _) _ _) _ _ _)); (fail_if_success (with_reducible show wpAny _ _ (PySem.pyIter _) _ _ _)); (fail_if_success (with_reducible show KswEnd _ _ _ _ _ _ _ _ _ _ _ _)); (fail_if_success (with_reducible show InvEndN _ _ _ _ _ _ _)))); walk1) | ((( (fail_if_success (with_reducible show wpAny _ _ (PySem.exec (Stmt.While _ _ _ _) _) _ _ _)); (fail_if_success (with_reducible show wpAny _ _ (PySem.exec (Stmt.For _ _ _ _ _) _) _ _ _)); (fail_if_success (with_reducible show wpAny _ _ (PySem.call (Value.ref _) _ _) _ _ _)); (fail_if_success (with_reducible show wpAny _ _ (PySem.pyIter _) _ _ _)); (fail_if_success (with_reducible show KswEnd _ _ _ _ _ _ _ _ _ _ _ _)); (fail_if_success (with_reducible show InvEndN _ _ _ _ _ _ _)))); leave1; walk_say "STEP leave1"; try dsimp only) | fail "no step"))
  (( k_dflt (refine' (worthsC _ _ _ _ _ _ (Nat.le_trans hB (by decide)) _) _ _ _ _ _ _ _ _ _ _ _ _ _ _ _ _ _ _ ?k1u671 ?k2u671 ?k3u671 ?k4u671 ?k5u671 ?k6u671 ?k7u671 ?k8u671 ?k9u671); (case k1u671 => k_asm); (case k2u671 => k_asm); (case k3u671 => k_asm); (case k4u671 => k_asm); (case k5u671 => k_asm); (case k6u671 => first | exact rfl | assumption); (case k7u671 => ktr_room); (case k8u671 => ktr_units)))
  intro ad2 us2 n2 g2 tk2 hI2 F2 N2 lt2
  k_lt lt2
  have hz2 := worthsF_len (sg B)
  rw [sg_len] at hz2
  have hz2' : 0 < (worthsF (sg B)).length := by omega
  have hz2'' : (worthsF (sg B)).length ≤ 8 := by omega
  (repeat' (first | (k_unfold; (try dsimp only)) | (k_end; (( (fail_if_success (with_reducible show wpAny _ _ (PySem.exec (Stmt.While _ _ _ _) _) _ _ _)); (fail_if_success (with_reducible show wpAny _ _ (PySem.exec (Stmt.For _ _ _ _ _) _) _ _ _)); (fail_if_success (with_reducible show wpAny _ _ (PySem.call (Value.ref _) _ _) _ _ _)); (fail_if_success (with_reducible show wpAny _ _ (PySem.pyIter _) _ _ _)); (fail_if_success (with_reducible show KswEnd _ _ _ _ _ _ _ _ _ _ _ _)); (fail_if_success (with_reducible show InvEndN _ _ _ _ _ _ _)))); wrow_close) | ((( (fail_if_success (with_reducible show wpAny _ _ (PySem.exec (Stmt.While _ _ _ _) _) _ _ _)); (fail_if_success (with_reducible show wpAny _ _ (PySem.exec (Stmt.For _ _ _ _ _) _) _ _ _)); (fail_if_success (with_reducible show wpAny _ _ (PySem.call (Value.ref _) _ _) _ _ _)); (fail_if_success (with_reducible show wpAny _ _ (PySem.pyIter _) _ _ _)); (fail_if_success (with_reducible show KswEnd _ _ _ _ _ _ _ _ _ _ _ _)); (fail_if_success (with_reducible show InvEndN _ _ _ _ _ _ _)))); walk1) | ((( (fail_if_success (with_reducible show wpAny _ _ (PySem.exec (Stmt.While _ _ _ _) _) _ _ _)); (fail_if_success (with_reducible show wpAny _ _ (PySem.exec (Stmt.For _ _ _ _ _) _) _ _ _)); (fail_if_success (with_reducible show wpAny _ _ (PySem.call (Value.ref _) _ _) _ _ _)); (fail_if_success (with_reducible show wpAny _ _ (PySem.pyIter _) _ _ _)); (fail_if_success (with_reducible show KswEnd _ _ _ _ _ _ _ _ _ _ _ _)); (fail_if_success (with_reducible show InvEndN _ _ _ _ _ _ _)))); dsimp only; (( (fail_if_success (with_reducible show wpAny _ _ (PySem.exec (Stmt.While _ _ _ _) _) _ _ _)); (fail_if_success (with_reducible show wpAny _ _ (PySem.exec (Stmt.For _ _ _ _ _) _) _ _ _)); (fail_if_success (with_reducible show wpAny _ _ (PySem.call (Value.ref _) _ _) _ _ _)); (fail_if_success (with_reducible show wpAny _ _ (PySem.pyIter _) _ _ _)); (fail_if_success (with_reducible show KswEnd _ _ _ _ _ _ _ _ _ _ _ _)); (fail_if_success (with_reducible show InvEndN _ _ _ _ _ _ _)))); walk1) | ((( (fail_if_success (with_reducible show wpAny _ _ (PySem.exec (Stmt.While _ _ _ _) _) _ _ _)); (fail_if_success (with_reducible show wpAny _ _ (PySem.exec (Stmt.For _ _ _ _ _) _) _ _ _)); (fail_if_success (with_reducible show wpAny _ _ (PySem.call (Value.ref _) _ _) _ _ _)); (fail_if_success (with_reducible show wpAny _ _ (PySem.pyIter _) _ _ _)); (fail_if_success (with_reducible show KswEnd _ _ _ _ _ _ _ _ _ _ _ _)); (fail_if_success (with_reducible show InvEndN _ _ _ _ _ _ _)))); leave1; walk_say "STEP leave1"; try dsimp only) | fail "no step"))
  (( (rename Fr _ _ _ _ => lF'); (with_unfolding_all refine' For_invVF lF' ?k1u676 ?k2u676 ?_); (case k1u676 => exact rfl); (case k2u676 => exact rfl)))
  (repeat' (first | (k_unfold; (try dsimp only)) | (k_end; (( (fail_if_success (with_reducible show wpAny _ _ (PySem.exec (Stmt.While _ _ _ _) _) _ _ _)); (fail_if_success (with_reducible show wpAny _ _ (PySem.exec (Stmt.For _ _ _ _ _) _) _ _ _)); (fail_if_success (with_reducible show wpAny _ _ (PySem.call (Value.ref _) _ _) _ _ _)); (fail_if_success (with_reducible show wpAny _ _ (PySem.pyIter _) _ _ _)); (fail_if_success (with_reducible show KswEnd _ _ _ _ _ _ _ _ _ _ _ _)); (fail_if_success (with_reducible show InvEndN _ _ _ _ _ _ _)))); wrow_close) | ((( (fail_if_success (with_reducible show wpAny _ _ (PySem.exec (Stmt.While _ _ _ _) _) _ _ _)); (fail_if_success (with_reducible show wpAny _ _ (PySem.exec (Stmt.For _ _ _ _ _) _) _ _ _)); (fail_if_success (with_reducible show wpAny _ _ (PySem.call (Value.ref _) _ _) _ _ _)); (fail_if_success (with_reducible show wpAny _ _ (PySem.pyIter _) _ _ _)); (fail_if_success (with_reducible show KswEnd _ _ _ _ _ _ _ _ _ _ _ _)); (fail_if_success (with_reducible show InvEndN _ _ _ _ _ _ _)))); walk1) | ((( (fail_if_success (with_reducible show wpAny _ _ (PySem.exec (Stmt.While _ _ _ _) _) _ _ _)); (fail_if_success (with_reducible show wpAny _ _ (PySem.exec (Stmt.For _ _ _ _ _) _) _ _ _)); (fail_if_success (with_reducible show wpAny _ _ (PySem.call (Value.ref _) _ _) _ _ _)); (fail_if_success (with_reducible show wpAny _ _ (PySem.pyIter _) _ _ _)); (fail_if_success (with_reducible show KswEnd _ _ _ _ _ _ _ _ _ _ _ _)); (fail_if_success (with_reducible show InvEndN _ _ _ _ _ _ _)))); dsimp only; (( (fail_if_success (with_reducible show wpAny _ _ (PySem.exec (Stmt.While _ _ _ _) _) _ _ _)); (fail_if_success (with_reducible show wpAny _ _ (PySem.exec (Stmt.For _ _ _ _ _) _) _ _ _)); (fail_if_success (with_reducible show wpAny _ _ (PySem.call (Value.ref _) _ _) _ _ _)); (fail_if_success (with_reducible show wpAny _ _ (PySem.pyIter _) _ _ _)); (fail_if_success (with_reducible show KswEnd _ _ _ _ _ _ _ _ _ _ _ _)); (fail_if_success (with_reducible show InvEndN _ _ _ _ _ _ _)))); walk1) | ((( (fail_if_success (with_reducible show wpAny _ _ (PySem.exec (Stmt.While _ _ _ _) _) _ _ _)); (fail_if_success (with_reducible show wpAny _ _ (PySem.exec (Stmt.For _ _ _ _ _) _) _ _ _)); (fail_if_success (with_reducible show wpAny _ _ (PySem.call (Value.ref _) _ _) _ _ _)); (fail_if_success (with_reducible show wpAny _ _ (PySem.pyIter _) _ _ _)); (fail_if_success (with_reducible show KswEnd _ _ _ _ _ _ _ _ _ _ _ _)); (fail_if_success (with_reducible show InvEndN _ _ _ _ _ _ _)))); leave1; walk_say "STEP leave1"; try dsimp only) | fail "no step"))
  (rename Fr _ _ _ _ => lF')
  (rename News _ _ _ _ => lN')
  refine' deeds_wp (p := p) (loose := loose) (mean := mean) (mg := mg) (mb := mb) lN' lF' ?u1 ?u2 ?u3 ?u4 h0 h1 he hA hB ?d1 ?d2 ?hlt B0 X T ?hdone
  case u1 => with_unfolding_all rfl
  case u2 => with_unfolding_all rfl
  case u3 => with_unfolding_all rfl
  case u4 => with_unfolding_all rfl
  case d1 => assumption
  case d2 => assumption
  case hlt =>
    rename _ ∧ _ ∧ _ => l1
    exact ⟨l1.2.2.1, l1.2.2.2.1, l1.2.2.2.2.1, l1.2.2.2.2.2.1, l1.2.2.2.2.2.2⟩
  case hdone =>
    intro A B p1 p2 u g tk hA hB d1 d2 F N
    exact tail_wp w p loose mean mg mb A B hA hB p1 p2 o3 o4 o5 h₀ L fa cd u { s with heap := g, toks := tk } Q E d1 d2 ⟨_, d3⟩ ⟨_, d4⟩ ⟨_, d5⟩ F N B0 X T hQ
end Mine
end
section
open PySem PySem.W PyProof.Rows PySem.Calls
namespace Mine
set_option maxRecDepth 100000
theorem news6 {h₀ h : Heap} {L : Addr} {a b c d e f : Addr × Obj} {r : List (Addr × Obj)} (N : News h₀ L h (a :: b :: c :: d :: e :: f :: r)) : News h₀ L h r := fun p hp => N p (.tail _ (.tail _ (.tail _ (.tail _ (.tail _ (.tail _ hp))))))
end Mine
end
open PySem PySem.W PyProof.Rows PySem.Calls Mine
set_option maxRecDepth 100000 in
set_option maxHeartbeats 8000000 in
theorem PySem.Challenge.cw_wn0005_01_holds : PySem.Challenge.rw_wn0005_01.Holds := by
  k_with_none
  refine Mine.hd ?_
  k_go0
  all_goals try k_fold
  (repeat' (first | (k_unfold; (try dsimp only)) | (k_end; (( (( (fail_if_success (with_reducible show wpAny _ _ (PySem.exec (Stmt.While _ _ _ _) _) _ _ _)); (fail_if_success (with_reducible show wpAny _ _ (PySem.exec (Stmt.For _ _ _ _ _) _) _ _ _)); (fail_if_success (with_reducible show wpAny _ _ (PySem.call (Value.ref _) _ _) _ _ _)); (fail_if_success (with_reducible show wpAny _ _ (PySem.pyIter _) _ _ _)); (fail_if_success (with_reducible show KswEnd _ _ _ _ _ _ _ _ _ _ _ _)); (fail_if_success (with_reducible show InvEndN _ _ _ _ _ _ _)))); (fail_if_success (with_reducible show wpAny _ _ (PySem.call (Value.builtin "sum") _ _) _ _ _)))); wrow_close) | ((( (( (fail_if_success (with_reducible show wpAny _ _ (PySem.exec (Stmt.While _ _ _ _) _) _ _ _)); (fail_if_success (with_reducible show wpAny _ _ (PySem.exec (Stmt.For _ _ _ _ _) _) _ _ _)); (fail_if_success (with_reducible show wpAny _ _ (PySem.call (Value.ref _) _ _) _ _ _)); (fail_if_success (with_reducible show wpAny _ _ (PySem.pyIter _) _ _ _)); (fail_if_success (with_reducible show KswEnd _ _ _ _ _ _ _ _ _ _ _ _)); (fail_if_success (with_reducible show InvEndN _ _ _ _ _ _ _)))); (fail_if_success (with_reducible show wpAny _ _ (PySem.call (Value.builtin "sum") _ _) _ _ _)))); walk1) | ((( (( (fail_if_success (with_reducible show wpAny _ _ (PySem.exec (Stmt.While _ _ _ _) _) _ _ _)); (fail_if_success (with_reducible show wpAny _ _ (PySem.exec (Stmt.For _ _ _ _ _) _) _ _ _)); (fail_if_success (with_reducible show wpAny _ _ (PySem.call (Value.ref _) _ _) _ _ _)); (fail_if_success (with_reducible show wpAny _ _ (PySem.pyIter _) _ _ _)); (fail_if_success (with_reducible show KswEnd _ _ _ _ _ _ _ _ _ _ _ _)); (fail_if_success (with_reducible show InvEndN _ _ _ _ _ _ _)))); (fail_if_success (with_reducible show wpAny _ _ (PySem.call (Value.builtin "sum") _ _) _ _ _)))); dsimp only; (( (( (fail_if_success (with_reducible show wpAny _ _ (PySem.exec (Stmt.While _ _ _ _) _) _ _ _)); (fail_if_success (with_reducible show wpAny _ _ (PySem.exec (Stmt.For _ _ _ _ _) _) _ _ _)); (fail_if_success (with_reducible show wpAny _ _ (PySem.call (Value.ref _) _ _) _ _ _)); (fail_if_success (with_reducible show wpAny _ _ (PySem.pyIter _) _ _ _)); (fail_if_success (with_reducible show KswEnd _ _ _ _ _ _ _ _ _ _ _ _)); (fail_if_success (with_reducible show InvEndN _ _ _ _ _ _ _)))); (fail_if_success (with_reducible show wpAny _ _ (PySem.call (Value.builtin "sum") _ _) _ _ _)))); walk1) | ((( (( (fail_if_success (with_reducible show wpAny _ _ (PySem.exec (Stmt.While _ _ _ _) _) _ _ _)); (fail_if_success (with_reducible show wpAny _ _ (PySem.exec (Stmt.For _ _ _ _ _) _) _ _ _)); (fail_if_success (with_reducible show wpAny _ _ (PySem.call (Value.ref _) _ _) _ _ _)); (fail_if_success (with_reducible show wpAny _ _ (PySem.pyIter _) _ _ _)); (fail_if_success (with_reducible show KswEnd _ _ _ _ _ _ _ _ _ _ _ _)); (fail_if_success (with_reducible show InvEndN _ _ _ _ _ _ _)))); (fail_if_success (with_reducible show wpAny _ _ (PySem.call (Value.builtin "sum") _ _) _ _ _)))); leave1; walk_say "STEP leave1"; try dsimp only) | fail "no step"))
  (( (with_unfolding_all refine' sumK (vs := (slicePick (List.toArray _) _ _ _).toList) ?k0u704 ?k1u704 ?k2u704 ?k3u704 ?k4u704 ?_); (case k0u704 => with_unfolding_all rfl); (case k1u704 => k_asm); (case k2u704 => k_asm); (case k3u704 => is_list); (case k4u704 => exact IntsAre.pick (by assumption) _ _ _); intro h9 tk9 t9 F9 N9))
  (repeat' (first | (k_unfold; (try dsimp only)) | (k_end; (( (( (fail_if_success (with_reducible show wpAny _ _ (PySem.exec (Stmt.While _ _ _ _) _) _ _ _)); (fail_if_success (with_reducible show wpAny _ _ (PySem.exec (Stmt.For _ _ _ _ _) _) _ _ _)); (fail_if_success (with_reducible show wpAny _ _ (PySem.call (Value.ref _) _ _) _ _ _)); (fail_if_success (with_reducible show wpAny _ _ (PySem.pyIter _) _ _ _)); (fail_if_success (with_reducible show KswEnd _ _ _ _ _ _ _ _ _ _ _ _)); (fail_if_success (with_reducible show InvEndN _ _ _ _ _ _ _)))); (fail_if_success (with_reducible show wpAny _ _ (PySem.call (Value.builtin "sum") _ _) _ _ _)))); wrow_close) | ((( (( (fail_if_success (with_reducible show wpAny _ _ (PySem.exec (Stmt.While _ _ _ _) _) _ _ _)); (fail_if_success (with_reducible show wpAny _ _ (PySem.exec (Stmt.For _ _ _ _ _) _) _ _ _)); (fail_if_success (with_reducible show wpAny _ _ (PySem.call (Value.ref _) _ _) _ _ _)); (fail_if_success (with_reducible show wpAny _ _ (PySem.pyIter _) _ _ _)); (fail_if_success (with_reducible show KswEnd _ _ _ _ _ _ _ _ _ _ _ _)); (fail_if_success (with_reducible show InvEndN _ _ _ _ _ _ _)))); (fail_if_success (with_reducible show wpAny _ _ (PySem.call (Value.builtin "sum") _ _) _ _ _)))); walk1) | ((( (( (fail_if_success (with_reducible show wpAny _ _ (PySem.exec (Stmt.While _ _ _ _) _) _ _ _)); (fail_if_success (with_reducible show wpAny _ _ (PySem.exec (Stmt.For _ _ _ _ _) _) _ _ _)); (fail_if_success (with_reducible show wpAny _ _ (PySem.call (Value.ref _) _ _) _ _ _)); (fail_if_success (with_reducible show wpAny _ _ (PySem.pyIter _) _ _ _)); (fail_if_success (with_reducible show KswEnd _ _ _ _ _ _ _ _ _ _ _ _)); (fail_if_success (with_reducible show InvEndN _ _ _ _ _ _ _)))); (fail_if_success (with_reducible show wpAny _ _ (PySem.call (Value.builtin "sum") _ _) _ _ _)))); dsimp only; (( (( (fail_if_success (with_reducible show wpAny _ _ (PySem.exec (Stmt.While _ _ _ _) _) _ _ _)); (fail_if_success (with_reducible show wpAny _ _ (PySem.exec (Stmt.For _ _ _ _ _) _) _ _ _)); (fail_if_success (with_reducible show wpAny _ _ (PySem.call (Value.ref _) _ _) _ _ _)); (fail_if_success (with_reducible show wpAny _ _ (PySem.pyIter _) _ _ _)); (fail_if_success (with_reducible show KswEnd _ _ _ _ _ _ _ _ _ _ _ _)); (fail_if_success (with_reducible show InvEndN _ _ _ _ _ _ _)))); (fail_if_success (with_reducible show wpAny _ _ (PySem.call (Value.builtin "sum") _ _) _ _ _)))); walk1) | ((( (( (fail_if_success (with_reducible show wpAny _ _ (PySem.exec (Stmt.While _ _ _ _) _) _ _ _)); (fail_if_success (with_reducible show wpAny _ _ (PySem.exec (Stmt.For _ _ _ _ _) _) _ _ _)); (fail_if_success (with_reducible show wpAny _ _ (PySem.call (Value.ref _) _ _) _ _ _)); (fail_if_success (with_reducible show wpAny _ _ (PySem.pyIter _) _ _ _)); (fail_if_success (with_reducible show KswEnd _ _ _ _ _ _ _ _ _ _ _ _)); (fail_if_success (with_reducible show InvEndN _ _ _ _ _ _ _)))); (fail_if_success (with_reducible show wpAny _ _ (PySem.call (Value.builtin "sum") _ _) _ _ _)))); leave1; walk_say "STEP leave1"; try dsimp only) | fail "no step"))
  (( k_dflt (refine' (drawnC _ _ _ _ _ _ _ _) _ _ _ _ _ _ _ _ _ _ _ _ _ _ _ _ _ _ ?k1u697 ?k2u697 ?k3u697 ?k4u697 ?k5u697 ?k6u697 ?k7u697 ?k8u697 ?k9u697); (case k1u697 => k_asm); (case k2u697 => k_asm); (case k3u697 => k_asm); (case k4u697 => k_asm); (case k5u697 => k_asm); (case k6u697 => first | exact rfl | assumption); (case k7u697 => ktr_room); (case k8u697 => ktr_units)))
  rintro _ g1 k1 ⟨A, tA, rfl, hA⟩ F1 N1
  (repeat' (first | (k_unfold; (try dsimp only)) | (k_end; (( (( (fail_if_success (with_reducible show wpAny _ _ (PySem.exec (Stmt.While _ _ _ _) _) _ _ _)); (fail_if_success (with_reducible show wpAny _ _ (PySem.exec (Stmt.For _ _ _ _ _) _) _ _ _)); (fail_if_success (with_reducible show wpAny _ _ (PySem.call (Value.ref _) _ _) _ _ _)); (fail_if_success (with_reducible show wpAny _ _ (PySem.pyIter _) _ _ _)); (fail_if_success (with_reducible show KswEnd _ _ _ _ _ _ _ _ _ _ _ _)); (fail_if_success (with_reducible show InvEndN _ _ _ _ _ _ _)))); (fail_if_success (with_reducible show wpAny _ _ (PySem.call (Value.builtin "sum") _ _) _ _ _)))); wrow_close) | ((( (( (fail_if_success (with_reducible show wpAny _ _ (PySem.exec (Stmt.While _ _ _ _) _) _ _ _)); (fail_if_success (with_reducible show wpAny _ _ (PySem.exec (Stmt.For _ _ _ _ _) _) _ _ _)); (fail_if_success (with_reducible show wpAny _ _ (PySem.call (Value.ref _) _ _) _ _ _)); (fail_if_success (with_reducible show wpAny _ _ (PySem.pyIter _) _ _ _)); (fail_if_success (with_reducible show KswEnd _ _ _ _ _ _ _ _ _ _ _ _)); (fail_if_success (with_reducible show InvEndN _ _ _ _ _ _ _)))); (fail_if_success (with_reducible show wpAny _ _ (PySem.call (Value.builtin "sum") _ _) _ _ _)))); walk1) | ((( (( (fail_if_success (with_reducible show wpAny _ _ (PySem.exec (Stmt.While _ _ _ _) _) _ _ _)); (fail_if_success (with_reducible show wpAny _ _ (PySem.exec (Stmt.For _ _ _ _ _) _) _ _ _)); (fail_if_success (with_reducible show wpAny _ _ (PySem.call (Value.ref _) _ _) _ _ _)); (fail_if_success (with_reducible show wpAny _ _ (PySem.pyIter _) _ _ _)); (fail_if_success (with_reducible show KswEnd _ _ _ _ _ _ _ _ _ _ _ _)); (fail_if_success (with_reducible show InvEndN _ _ _ _ _ _ _)))); (fail_if_success (with_reducible show wpAny _ _ (PySem.call (Value.builtin "sum") _ _) _ _ _)))); dsimp only; (( (( (fail_if_success (with_reducible show wpAny _ _ (PySem.exec (Stmt.While _ _ _ _) _) _ _ _)); (fail_if_success (with_reducible show wpAny _ _ (PySem.exec (Stmt.For _ _ _ _ _) _) _ _ _)); (fail_if_success (with_reducible show wpAny _ _ (PySem.call (Value.ref _) _ _) _ _ _)); (fail_if_success (with_reducible show wpAny _ _ (PySem.pyIter _) _ _ _)); (fail_if_success (with_reducible show KswEnd _ _ _ _ _ _ _ _ _ _ _ _)); (fail_if_success (with_reducible show InvEndN _ _ _ _ _ _ _)))); (fail_if_success (with_reducible show wpAny _ _ (PySem.call (Value.builtin "sum") _ _) _ _ _)))); walk1) | ((( (( (fail_if_success (with_reducible show wpAny _ _ (PySem.exec (Stmt.While _ _ _ _) _) _ _ _)); (fail_if_success (with_reducible show wpAny _ _ (PySem.exec (Stmt.For _ _ _ _ _) _) _ _ _)); (fail_if_success (with_reducible show wpAny _ _ (PySem.call (Value.ref _) _ _) _ _ _)); (fail_if_success (with_reducible show wpAny _ _ (PySem.pyIter _) _ _ _)); (fail_if_success (with_reducible show KswEnd _ _ _ _ _ _ _ _ _ _ _ _)); (fail_if_success (with_reducible show InvEndN _ _ _ _ _ _ _)))); (fail_if_success (with_reducible show wpAny _ _ (PySem.call (Value.builtin "sum") _ _) _ _ _)))); leave1; walk_say "STEP leave1"; try dsimp only) | fail "no step"))
  (( (with_unfolding_all refine' sumK (vs := (slicePick (List.toArray _) _ _ _).toList) ?k0u705 ?k1u705 ?k2u705 ?k3u705 ?k4u705 ?_); (case k0u705 => with_unfolding_all rfl); (case k1u705 => k_asm); (case k2u705 => k_asm); (case k3u705 => is_list); (case k4u705 => exact IntsAre.pick (by assumption) _ _ _); intro h9 tk9 t9 F9 N9))
  (repeat' (first | (k_unfold; (try dsimp only)) | (k_end; (( (( (fail_if_success (with_reducible show wpAny _ _ (PySem.exec (Stmt.While _ _ _ _) _) _ _ _)); (fail_if_success (with_reducible show wpAny _ _ (PySem.exec (Stmt.For _ _ _ _ _) _) _ _ _)); (fail_if_success (with_reducible show wpAny _ _ (PySem.call (Value.ref _) _ _) _ _ _)); (fail_if_success (with_reducible show wpAny _ _ (PySem.pyIter _) _ _ _)); (fail_if_success (with_reducible show KswEnd _ _ _ _ _ _ _ _ _ _ _ _)); (fail_if_success (with_reducible show InvEndN _ _ _ _ _ _ _)))); (fail_if_success (with_reducible show wpAny _ _ (PySem.call (Value.builtin "sum") _ _) _ _ _)))); wrow_close) | ((( (( (fail_if_success (with_reducible show wpAny _ _ (PySem.exec (Stmt.While _ _ _ _) _) _ _ _)); (fail_if_success (with_reducible show wpAny _ _ (PySem.exec (Stmt.For _ _ _ _ _) _) _ _ _)); (fail_if_success (with_reducible show wpAny _ _ (PySem.call (Value.ref _) _ _) _ _ _)); (fail_if_success (with_reducible show wpAny _ _ (PySem.pyIter _) _ _ _)); (fail_if_success (with_reducible show KswEnd _ _ _ _ _ _ _ _ _ _ _ _)); (fail_if_success (with_reducible show InvEndN _ _ _ _ _ _ _)))); (fail_if_success (with_reducible show wpAny _ _ (PySem.call (Value.builtin "sum") _ _) _ _ _)))); walk1) | ((( (( (fail_if_success (with_reducible show wpAny _ _ (PySem.exec (Stmt.While _ _ _ _) _) _ _ _)); (fail_if_success (with_reducible show wpAny _ _ (PySem.exec (Stmt.For _ _ _ _ _) _) _ _ _)); (fail_if_success (with_reducible show wpAny _ _ (PySem.call (Value.ref _) _ _) _ _ _)); (fail_if_success (with_reducible show wpAny _ _ (PySem.pyIter _) _ _ _)); (fail_if_success (with_reducible show KswEnd _ _ _ _ _ _ _ _ _ _ _ _)); (fail_if_success (with_reducible show InvEndN _ _ _ _ _ _ _)))); (fail_if_success (with_reducible show wpAny _ _ (PySem.call (Value.builtin "sum") _ _) _ _ _)))); dsimp only; (( (( (fail_if_success (with_reducible show wpAny _ _ (PySem.exec (Stmt.While _ _ _ _) _) _ _ _)); (fail_if_success (with_reducible show wpAny _ _ (PySem.exec (Stmt.For _ _ _ _ _) _) _ _ _)); (fail_if_success (with_reducible show wpAny _ _ (PySem.call (Value.ref _) _ _) _ _ _)); (fail_if_success (with_reducible show wpAny _ _ (PySem.pyIter _) _ _ _)); (fail_if_success (with_reducible show KswEnd _ _ _ _ _ _ _ _ _ _ _ _)); (fail_if_success (with_reducible show InvEndN _ _ _ _ _ _ _)))); (fail_if_success (with_reducible show wpAny _ _ (PySem.call (Value.builtin "sum") _ _) _ _ _)))); walk1) | ((( (( (fail_if_success (with_reducible show wpAny _ _ (PySem.exec (Stmt.While _ _ _ _) _) _ _ _)); (fail_if_success (with_reducible show wpAny _ _ (PySem.exec (Stmt.For _ _ _ _ _) _) _ _ _)); (fail_if_success (with_reducible show wpAny _ _ (PySem.call (Value.ref _) _ _) _ _ _)); (fail_if_success (with_reducible show wpAny _ _ (PySem.pyIter _) _ _ _)); (fail_if_success (with_reducible show KswEnd _ _ _ _ _ _ _ _ _ _ _ _)); (fail_if_success (with_reducible show InvEndN _ _ _ _ _ _ _)))); (fail_if_success (with_reducible show wpAny _ _ (PySem.call (Value.builtin "sum") _ _) _ _ _)))); leave1; walk_say "STEP leave1"; try dsimp only) | fail "no step"))
  (( k_dflt (refine' (drawnC _ _ _ _ _ _ _ _) _ _ _ _ _ _ _ _ _ _ _ _ _ _ _ _ _ _ ?k1u698 ?k2u698 ?k3u698 ?k4u698 ?k5u698 ?k6u698 ?k7u698 ?k8u698 ?k9u698); (case k1u698 => k_asm); (case k2u698 => k_asm); (case k3u698 => k_asm); (case k4u698 => k_asm); (case k5u698 => k_asm); (case k6u698 => first | exact rfl | assumption); (case k7u698 => ktr_room); (case k8u698 => ktr_units)))
  rintro _ g2 k2 ⟨B, tB, rfl, hB⟩ F2 N2
  (repeat' (first | (k_unfold; (try dsimp only)) | (k_end; (( (( (fail_if_success (with_reducible show wpAny _ _ (PySem.exec (Stmt.While _ _ _ _) _) _ _ _)); (fail_if_success (with_reducible show wpAny _ _ (PySem.exec (Stmt.For _ _ _ _ _) _) _ _ _)); (fail_if_success (with_reducible show wpAny _ _ (PySem.call (Value.ref _) _ _) _ _ _)); (fail_if_success (with_reducible show wpAny _ _ (PySem.pyIter _) _ _ _)); (fail_if_success (with_reducible show KswEnd _ _ _ _ _ _ _ _ _ _ _ _)); (fail_if_success (with_reducible show InvEndN _ _ _ _ _ _ _)))); (fail_if_success (with_reducible show wpAny _ _ (PySem.call (Value.builtin "sum") _ _) _ _ _)))); wrow_close) | ((( (( (fail_if_success (with_reducible show wpAny _ _ (PySem.exec (Stmt.While _ _ _ _) _) _ _ _)); (fail_if_success (with_reducible show wpAny _ _ (PySem.exec (Stmt.For _ _ _ _ _) _) _ _ _)); (fail_if_success (with_reducible show wpAny _ _ (PySem.call (Value.ref _) _ _) _ _ _)); (fail_if_success (with_reducible show wpAny _ _ (PySem.pyIter _) _ _ _)); (fail_if_success (with_reducible show KswEnd _ _ _ _ _ _ _ _ _ _ _ _)); (fail_if_success (with_reducible show InvEndN _ _ _ _ _ _ _)))); (fail_if_success (with_reducible show wpAny _ _ (PySem.call (Value.builtin "sum") _ _) _ _ _)))); walk1) | ((( (( (fail_if_success (with_reducible show wpAny _ _ (PySem.exec (Stmt.While _ _ _ _) _) _ _ _)); (fail_if_success (with_reducible show wpAny _ _ (PySem.exec (Stmt.For _ _ _ _ _) _) _ _ _)); (fail_if_success (with_reducible show wpAny _ _ (PySem.call (Value.ref _) _ _) _ _ _)); (fail_if_success (with_reducible show wpAny _ _ (PySem.pyIter _) _ _ _)); (fail_if_success (with_reducible show KswEnd _ _ _ _ _ _ _ _ _ _ _ _)); (fail_if_success (with_reducible show InvEndN _ _ _ _ _ _ _)))); (fail_if_success (with_reducible show wpAny _ _ (PySem.call (Value.builtin "sum") _ _) _ _ _)))); dsimp only; (( (( (fail_if_success (with_reducible show wpAny _ _ (PySem.exec (Stmt.While _ _ _ _) _) _ _ _)); (fail_if_success (with_reducible show wpAny _ _ (PySem.exec (Stmt.For _ _ _ _ _) _) _ _ _)); (fail_if_success (with_reducible show wpAny _ _ (PySem.call (Value.ref _) _ _) _ _ _)); (fail_if_success (with_reducible show wpAny _ _ (PySem.pyIter _) _ _ _)); (fail_if_success (with_reducible show KswEnd _ _ _ _ _ _ _ _ _ _ _ _)); (fail_if_success (with_reducible show InvEndN _ _ _ _ _ _ _)))); (fail_if_success (with_reducible show wpAny _ _ (PySem.call (Value.builtin "sum") _ _) _ _ _)))); walk1) | ((( (( (fail_if_success (with_reducible show wpAny _ _ (PySem.exec (Stmt.While _ _ _ _) _) _ _ _)); (fail_if_success (with_reducible show wpAny _ _ (PySem.exec (Stmt.For _ _ _ _ _) _) _ _ _)); (fail_if_success (with_reducible show wpAny _ _ (PySem.call (Value.ref _) _ _) _ _ _)); (fail_if_success (with_reducible show wpAny _ _ (PySem.pyIter _) _ _ _)); (fail_if_success (with_reducible show KswEnd _ _ _ _ _ _ _ _ _ _ _ _)); (fail_if_success (with_reducible show InvEndN _ _ _ _ _ _ _)))); (fail_if_success (with_reducible show wpAny _ _ (PySem.call (Value.builtin "sum") _ _) _ _ _)))); leave1; walk_say "STEP leave1"; try dsimp only) | fail "no step"))
  (( (with_unfolding_all refine' sumK (vs := (slicePick (List.toArray _) _ _ _).toList) ?k0u706 ?k1u706 ?k2u706 ?k3u706 ?k4u706 ?_); (case k0u706 => with_unfolding_all rfl); (case k1u706 => k_asm); (case k2u706 => k_asm); (case k3u706 => is_list); (case k4u706 => exact IntsAre.pick (by assumption) _ _ _); intro h9 tk9 t9 F9 N9))
  (repeat' (first | (k_unfold; (try dsimp only)) | (k_end; (( (( (( (fail_if_success (with_reducible show wpAny _ _ (PySem.exec (Stmt.While _ _ _ _) _) _ _ _)); (fail_if_success (with_reducible show wpAny _ _ (PySem.exec (Stmt.For _ _ _ _ _) _) _ _ _)); (fail_if_success (with_reducible show wpAny _ _ (PySem.call (Value.ref _) _ _) _ _ _)); (fail_if_success (with_reducible show wpAny _ _ (PySem.pyIter _) _ _ _)); (fail_if_success (with_reducible show KswEnd _ _ _ _ _ _ _ _ _ _ _ _)); (fail_if_success (with_reducible show InvEndN _ _ _ _ _ _ _)))); (fail_if_success (with_reducible show wpAny _ _ (PySem.call (Value.builtin "sum") _ _) _ _ _)))); (fail_if_success (with_reducible show wpAny _ _ (PySem.execs (Stmt.Assign [Expr.Name (Str.ofString "mail") _] _ _ :: _) _) _ _ _)))); wrow_close) | ((( (( (( (fail_if_success (with_reducible show wpAny _ _ (PySem.exec (Stmt.While _ _ _ _) _) _ _ _)); (fail_if_success (with_reducible show wpAny _ _ (PySem.exec (Stmt.For _ _ _ _ _) _) _ _ _)); (fail_if_success (with_reducible show wpAny _ _ (PySem.call (Value.ref _) _ _) _ _ _)); (fail_if_success (with_reducible show wpAny _ _ (PySem.pyIter _) _ _ _)); (fail_if_success (with_reducible show KswEnd _ _ _ _ _ _ _ _ _ _ _ _)); (fail_if_success (with_reducible show InvEndN _ _ _ _ _ _ _)))); (fail_if_success (with_reducible show wpAny _ _ (PySem.call (Value.builtin "sum") _ _) _ _ _)))); (fail_if_success (with_reducible show wpAny _ _ (PySem.execs (Stmt.Assign [Expr.Name (Str.ofString "mail") _] _ _ :: _) _) _ _ _)))); walk1) | ((( (( (( (fail_if_success (with_reducible show wpAny _ _ (PySem.exec (Stmt.While _ _ _ _) _) _ _ _)); (fail_if_success (with_reducible show wpAny _ _ (PySem.exec (Stmt.For _ _ _ _ _) _) _ _ _)); (fail_if_success (with_reducible show wpAny _ _ (PySem.call (Value.ref _) _ _) _ _ _)); (fail_if_success (with_reducible show wpAny _ _ (PySem.pyIter _) _ _ _)); (fail_if_success (with_reducible show KswEnd _ _ _ _ _ _ _ _ _ _ _ _)); (fail_if_success (with_reducible show InvEndN _ _ _ _ _ _ _)))); (fail_if_success (with_reducible show wpAny _ _ (PySem.call (Value.builtin "sum") _ _) _ _ _)))); (fail_if_success (with_reducible show wpAny _ _ (PySem.execs (Stmt.Assign [Expr.Name (Str.ofString "mail") _] _ _ :: _) _) _ _ _)))); dsimp only; (( (( (( (fail_if_success (with_reducible show wpAny _ _ (PySem.exec (Stmt.While _ _ _ _) _) _ _ _)); (fail_if_success (with_reducible show wpAny _ _ (PySem.exec (Stmt.For _ _ _ _ _) _) _ _ _)); (fail_if_success (with_reducible show wpAny _ _ (PySem.call (Value.ref _) _ _) _ _ _)); (fail_if_success (with_reducible show wpAny _ _ (PySem.pyIter _) _ _ _)); (fail_if_success (with_reducible show KswEnd _ _ _ _ _ _ _ _ _ _ _ _)); (fail_if_success (with_reducible show InvEndN _ _ _ _ _ _ _)))); (fail_if_success (with_reducible show wpAny _ _ (PySem.call (Value.builtin "sum") _ _) _ _ _)))); (fail_if_success (with_reducible show wpAny _ _ (PySem.execs (Stmt.Assign [Expr.Name (Str.ofString "mail") _] _ _ :: _) _) _ _ _)))); walk1) | ((( (( (( (fail_if_success (with_reducible show wpAny _ _ (PySem.exec (Stmt.While _ _ _ _) _) _ _ _)); (fail_if_success (with_reducible show wpAny _ _ (PySem.exec (Stmt.For _ _ _ _ _) _) _ _ _)); (fail_if_success (with_reducible show wpAny _ _ (PySem.call (Value.ref _) _ _) _ _ _)); (fail_if_success (with_reducible show wpAny _ _ (PySem.pyIter _) _ _ _)); (fail_if_success (with_reducible show KswEnd _ _ _ _ _ _ _ _ _ _ _ _)); (fail_if_success (with_reducible show InvEndN _ _ _ _ _ _ _)))); (fail_if_success (with_reducible show wpAny _ _ (PySem.call (Value.builtin "sum") _ _) _ _ _)))); (fail_if_success (with_reducible show wpAny _ _ (PySem.execs (Stmt.Assign [Expr.Name (Str.ofString "mail") _] _ _ :: _) _) _ _ _)))); leave1; walk_say "STEP leave1"; try dsimp only) | fail "no step"))
  all_goals
    (rename Fr _ _ _ _ => lF')
    (rename News _ _ _ _ => lN')
    (rename Below _ _ _ _ => lB)
    (rename (Mine.hd.heap_39 _).In _ => lX)
    (rename Top _ _ _ _ _ _ => lT)
    refine' mid_wp (told := Int.fmod _ 81) _ _ _ _ _ _ A B _ hA hB ?he (Int.fmod_nonneg_of_pos _ (by decide)) (Int.fmod_lt_of_pos _ (by decide)) _ _ _ _ _ _ _ _ _ _ _ _ _ _ _ _ _ lF' (news6 lN') ?d1 ?d2 ?d3 ?d4 ?d5 lB lX lT ?hQ
    (case he => first | exact Or.inl rfl | exact Or.inr (Or.inl rfl) | exact Or.inr (Or.inr rfl))
    (case d1 => exact ⟨_, by assumption⟩)
    (case d2 => exact ⟨_, by assumption⟩)
    (case d3 => exact ⟨_, by assumption⟩)
    (case d4 => exact ⟨_, by assumption⟩)
    (case d5 => exact ⟨_, by assumption⟩)
    (case hQ =>
      clear lF' lN'
      intro h9 tk9 m9 F9
      k_steps)
