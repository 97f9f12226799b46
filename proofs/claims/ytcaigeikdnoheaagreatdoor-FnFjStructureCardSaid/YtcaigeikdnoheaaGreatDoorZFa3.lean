/- Printed functions that FuA uses. -/
import Derived.Test.YtcaigeikdnoheaaGreatDoorZPFnFjStructurex10
