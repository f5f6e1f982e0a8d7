/-
  What the law (5) keeps through its loops; ZZReset (15).
-/
import Derived.Test.Qxb6605223aResetDef
import Derived.Test.Qxb6605223aPlain
import Derived.Test.Qxb6605223aRetd
import Derived.Deep.Draws
namespace Go.Proofs.Qxb6605223a
open Go.RowKit

/-- ZZReset hands on. -/
theorem zzReset15 (R F G : Nat) (rds rd ro ent wa : Value) (zs : List Int) (w : World) (h : Calls Try.prog 22 #[.pointer (some ⟨F, 0, none⟩), rds] w fun e w' => Reseted R F G rd ro ent wa zs w e w') :
    Calls Try.prog 15 #[.pointer (some ⟨F, 0, none⟩), rds] w fun e w' => Reseted R F G rd ro ent wa zs w e w' := by
  have H := hid h
  clear h
  go_enter Try.func15, Try.ntmps15
  go_wp2_with fail
  refine H.out.mono ?_
  rintro e w' ⟨rfl, h1, h2⟩
  have H1 := hid (And.intro h1 h2)
  clear h1 h2
  go_wp2_with fail
  go_end0
  exact ⟨rfl, H1.out.1, H1.out.2⟩

theorem Kp.weak' {R B B' : Nat} {w w' : World} (h : Kp R B w w') (hB : B' ≤ B) : Kp R B' w w' := ⟨h.os, h.tape, h.output, h.size, fun k hk h1 => h.block k (by omega) h1⟩

/-- k answers asked and laid by. -/
structure J (F G n g : Nat) (V : Nat → Int) (rd rv kv ru ro ent wa fs due uv : Value) (w0 : World) (k : Nat) (w : World) : Prop where
  ix : (k = 0 ∧ FIs F G rd rv kv nilV false ru ro ent wa fs due uv w) ∨ ∃ X, g < X ∧ FIs F G rd rv kv (.slice (some ⟨X, 0, none⟩) n n) true ru ro ent wa fs due uv w ∧ Row 21 X n (fun i => .int .i32 (V i)) w
  part : Part 21 g n k (fun i => .int .i32 (V i)) w
  kp : Kp F g w0 w

/-- The same, the index laid. -/
structure JX (F G n g : Nat) (V : Nat → Int) (rd rv kv ru ro ent wa fs due uv : Value) (w0 : World) (k : Nat) (w : World) : Prop where
  ix : ∃ X, g < X ∧ FIs F G rd rv kv (.slice (some ⟨X, 0, none⟩) n n) true ru ro ent wa fs due uv w ∧ Row 21 X n (fun i => .int .i32 (V i)) w
  part : Part 21 g n k (fun i => .int .i32 (V i)) w
  kp : Kp F g w0 w

section
variable {F G n g : Nat} {V : Nat → Int} {rd rv kv ru ro ent wa fs due uv : Value} {w0 : World} {k : Nat} {w : World}

theorem Kp.drewN {R B : Nat} {a w : World} (h : Kp R B a w) (d : Nat) : Kp R B a (w.drewN d) := ⟨h.os, h.tape, h.output, h.size, h.block⟩

theorem J.drewN (h : J F G n g V rd rv kv ru ro ent wa fs due uv w0 k w) (d : Nat) : J F G n g V rd rv kv ru ro ent wa fs due uv w0 k (w.drewN d) := ⟨h.ix, h.part, h.kp.drewN d⟩
theorem JX.drewN (h : JX F G n g V rd rv kv ru ro ent wa fs due uv w0 k w) (d : Nat) : JX F G n g V rd rv kv ru ro ent wa fs due uv w0 k (w.drewN d) := ⟨h.ix, h.part, h.kp.drewN d⟩
theorem J.x (h : J F G n g V rd rv kv ru ro ent wa fs due uv w0 k w) (hk : 0 < k) : JX F G n g V rd rv kv ru ro ent wa fs due uv w0 k w :=
  ⟨by rcases h.ix with ⟨h0, _⟩ | h1
      · omega
      · exact h1, h.part, h.kp⟩
theorem JX.j (h : JX F G n g V rd rv kv ru ro ent wa fs due uv w0 k w) : J F G n g V rd rv kv ru ro ent wa fs due uv w0 k w := ⟨.inr h.ix, h.part, h.kp⟩

theorem Part.lt {t : TypeId} {g n k : Nat} {V : Nat → Value} {w : World} (h : Part t g n k V w) : g < w.heap.size := by
  obtain ⟨cur, hg, _⟩ := h
  exact lt_of_block hg

/-- The answer is laid by. -/
theorem JX.next (h : JX F G n g V rd rv kv ru ro ent wa fs due uv w0 k w) (hk : k < n) (hF : F < g) : J F G n g V rd rv kv ru ro ent wa fs due uv w0 (k + 1) (w.setCell ⟨g, k, none⟩ (.int .i32 (V k))) := by
  obtain ⟨X, h1, h2, h3⟩ := h.ix
  exact ⟨.inr ⟨X, h1, h2.other (p := ⟨g, k, none⟩) (by simp; omega) _, h3.other (p := ⟨g, k, none⟩) (by simp; omega) _⟩, h.part.set hk, h.kp.setCell (p := ⟨g, k, none⟩) (.inl (Nat.le_refl _)) _⟩

/-- Asked again. -/
theorem JX.ask (h : JX F G n g V rd rv kv ru ro ent wa fs due uv w0 k w) {i : Nat} (hi : i < n) :
    Calls Try.prog 18 #[.pointer (some ⟨F, 0, none⟩), .int .i64 i] w fun e w' => e = .returned (.int .i32 (V i)) ∧ w = w' := by
  obtain ⟨X, _, h2, h3⟩ := h.ix
  refine zzIndex F i w (V i) _ ((index_again F G n X V rd rv kv ru ro ent wa fs due uv w i hi h2 h3).mono ?_)
  rintro e w' ⟨rfl, rfl⟩
  exact ⟨rfl, rfl, rfl⟩
end

/-- Asked, the first time or again. -/
theorem J.ask {F G n g P B0 c2 L : Nat} {pa2 : Option Addr} {RA : Nat → Option Addr} {RL RC : Nat → Nat} {BP : Nat → Nat → Int} {A B : Nat → Int} {T : Nat → Nat} {ops pr ps fr rd rv kv ru ro ent wa fs due uv : Value} {w0 w : World} {k : Nat}
    (h : J F G n g (ixOf T L) rd rv kv ru ro ent wa fs due uv w0 k w) (hk : k < n) (hn : n ≤ 4096) (hP : P ≤ 4096) (hL : L ≤ 4096) (hRL : ∀ q, q < P → RL q ≤ 1048576) (hB0 : B0 ≤ G) (hGF : G < F) (hFg : F < g) (hg : g = w0.heap.size)
    (hG : GIs G n ops pr ps (.slice pa2 P c2) fr w0) (hRet : Ret F rv L A B w0) (hA : At2 n P L A B RL BP T) (h2 : Sg F B0 pa2 P (fun q => .slice (RA q) (RL q) (RC q)) w0) (hr : ∀ q, q < P → Sg F B0 (RA q) (RL q) (fun i => .int .i64 (BP q i)) w0) :
    Calls Try.prog 18 #[.pointer (some ⟨F, 0, none⟩), .int .i64 k] w fun e w' => e = .returned (.int .i32 (ixOf T L k)) ∧ JX F G n g (ixOf T L) rd rv kv ru ro ent wa fs due uv w0 k w' := by
  rcases h.ix with ⟨rfl, hF⟩ | hX
  · have kw : Kp F B0 w0 w := h.kp.weak (by omega) (by omega)
    have hGw := hG.block (h.kp.block G (by omega) (by omega))
    have hRw : Ret F rv L A B w := hRet.kept (fun j h1 h2 => h.kp.block j (by omega) h2)
    have hgl := h.part.lt
    refine zzIndex F 0 w (ixOf T L 0) _ ((index_first F B0 F G n P c2 L pa2 RA RL RC BP A B T ops pr ps fr rd rv kv ru ro ent wa fs due uv w 0 hn hP hL hk hRL hB0 hGF hF hGw hRw hA (h2.kept kw) (fun q hq => (hr q hq).kept kw)).mono ?_)
    rintro e w' ⟨rfl, h1, h2, h3⟩
    refine ⟨rfl, rfl, ⟨w.heap.size, hgl, h1, h2⟩, ?_, h.kp.trans (h3.weak' (by omega))⟩
    obtain ⟨cur, hc, hs⟩ := h.part
    exact ⟨cur, (h3.block g hgl (by omega)).trans hc, hs⟩
  · have hj : JX F G n g (ixOf T L) rd rv kv ru ro ent wa fs due uv w0 k w := ⟨hX, h.part, h.kp⟩
    refine (hj.ask hk).mono ?_
    rintro e w' ⟨rfl, rfl⟩
    exact ⟨rfl, hj⟩
end Go.Proofs.Qxb6605223a
