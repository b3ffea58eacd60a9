namespace Go.Proofs.Qxb6601363a.Utf

/-- n bytes b0 .. are one well-formed encoding -/
def encP (b0 b1 b2 b3 : Int) (n : Nat) : Prop :=
  (n = 1 ∧ b0 < 128) ∨
  (n = 2 ∧ 194 ≤ b0 ∧ b0 ≤ 223 ∧ 128 ≤ b1 ∧ b1 ≤ 191) ∨
  (n = 3 ∧ 224 ≤ b0 ∧ b0 ≤ 239 ∧ 128 ≤ b1 ∧ b1 ≤ 191 ∧ 128 ≤ b2 ∧ b2 ≤ 191 ∧ (b0 = 224 → 160 ≤ b1) ∧ (b0 = 237 → b1 ≤ 159)) ∨
  (n = 4 ∧ 240 ≤ b0 ∧ b0 ≤ 244 ∧ 128 ≤ b1 ∧ b1 ≤ 191 ∧ 128 ≤ b2 ∧ b2 ≤ 191 ∧ 128 ≤ b3 ∧ b3 ≤ 191 ∧ (b0 = 240 → 144 ≤ b1) ∧ (b0 = 244 → b1 ≤ 143))

theorem enc1 {b0 b1 b2 b3 : Int} : encP b0 b1 b2 b3 1 ↔ b0 < 128 := by unfold encP; omega
theorem enc2 {b0 b1 b2 b3 : Int} (h0 : 192 ≤ b0) (h0' : b0 ≤ 223) (h1 : 128 ≤ b1) (h1' : b1 ≤ 191) : encP b0 b1 b2 b3 2 ↔ 128 ≤ b0 % 32 * 64 + b1 % 64 := by unfold encP; omega
theorem enc3 {b0 b1 b2 b3 : Int} (h0 : 224 ≤ b0) (h0' : b0 ≤ 239) (h1 : 128 ≤ b1) (h1' : b1 ≤ 191) (h2 : 128 ≤ b2) (h2' : b2 ≤ 191) :
    encP b0 b1 b2 b3 3 ↔ (2048 ≤ b0 % 16 * 4096 + b1 % 64 * 64 + b2 % 64 ∧ (b0 % 16 * 4096 + b1 % 64 * 64 + b2 % 64 < 55296 ∨ 57343 < b0 % 16 * 4096 + b1 % 64 * 64 + b2 % 64)) := by
  unfold encP; omega
theorem enc4 {b0 b1 b2 b3 : Int} (h0 : 240 ≤ b0) (h0' : b0 ≤ 247) (h1 : 128 ≤ b1) (h1' : b1 ≤ 191) (h2 : 128 ≤ b2) (h2' : b2 ≤ 191) (h3 : 128 ≤ b3) (h3' : b3 ≤ 191) :
    encP b0 b1 b2 b3 4 ↔ (65536 ≤ b0 % 8 * 262144 + b1 % 64 * 4096 + b2 % 64 * 64 + b3 % 64 ∧ b0 % 8 * 262144 + b1 % 64 * 4096 + b2 % 64 * 64 + b3 % 64 ≤ 1114111) := by
  unfold encP; omega
end Go.Proofs.Qxb6601363a.Utf
